/-
  No cell of these rows narrows 'for every input' (looked for: loops, veiled, ifaces, maps, wideKeys, modest, calm, conditions, laid).
  DERIVED. THE GIVEN ROWS OF THIS SEAT. 7 by the template 'for every input the law returns true; each argument reads behind the call as it read before'; 0 by the template 'total and deterministic' (their statements: YtkmjeneligpiaaaTotals.lean).
  GIVEN WITH THE SEED: the statements are not yours to turn. If you find one false, say at which input.
  Laid BY PROGRAM, IN A SANDBOX (cutbox-rows.mjs): the forced cells as the released guide's own fill.sh prints them over the translation ed2b2e9dda2c81c2… (all of the seat's roots in one cut). By AI agents, Wed Nov 11 2026. No macro, syntax, notation, axiom, sorry.
-/
import Derived.Test.YtkmjeneligpiaaaChecked
import GoSem.Claim
import GoSem.ClaimJoined
import GoSem.ClaimMapViews
import Derived.JoinedTies
import Derived.KernelRfl
namespace Go.Proofs.Ytkmjeneligpiaaa
/- THE CELL 'sum', in the pinned program and in every row, IS THE sha256 OF THE DUMP (.gsa) THAT YtkmjeneligpiaaaProg.lean LOADS. Nothing in Lean hashes anything: it is a label: what it is worth is what the hold of that sum in a sandbox is worth. -/
noncomputable def Try.pinned : Pinned := { name := "ytkmjeneligpiaaa", sum := "ed2b2e9dda2c81c22b50ea3eff04722b4ad0904b689bd61e5b01306170d509c0", checked := Try.checked }
namespace Rows
def none {H : Type} : Left H := { results := [], args := [] }

/-- 'laws.FnExactAddInt64': WHATEVER THE INPUT: true; the input reads as it did. -/
def fnExactAddInt64Spec : ChangeSpec := { name := "fnExactAddInt64", fn := fun _ => fun
  | [d] => { results := [.lit (.bool true)], args := [d] }
  | _ => none }
def fnExactAddInt64Row : OpenClaim := { program := "ytkmjeneligpiaaa", sum := "ed2b2e9dda2c81c22b50ea3eff04722b4ad0904b689bd61e5b01306170d509c0", func := "loop.example/pub-g03335/laws.FnExactAddInt64", spec := "fnExactAddInt64", unfollowed := true, recurses := true, apart := false }
def FnExactAddInt64Said : Prop := fnExactAddInt64Row.holds Try.pinned (OpenSpec.ofChange fnExactAddInt64Spec)

/-- ITS FALSE NEIGHBOUR: 'it returns false'. Refute it at one input. -/
def fnExactAddInt64Wrong : ChangeSpec := { name := "fnExactAddInt64", fn := fun _ => fun
  | [d] => { results := [.lit (.bool false)], args := [d] }
  | _ => none }
def FnExactAddInt64WrongFalsely : Prop := fnExactAddInt64Row.holds Try.pinned (OpenSpec.ofChange fnExactAddInt64Wrong)

/-- 'laws.FnExactAddInt64WithTag': WHATEVER THE INPUT: true; the input reads as it did. -/
def fnExactAddInt64WithTagSpec : ChangeSpec := { name := "fnExactAddInt64WithTag", fn := fun _ => fun
  | [d1, d2] => { results := [.lit (.bool true)], args := [d1, d2] }
  | _ => none }
def fnExactAddInt64WithTagRow : OpenClaim := { program := "ytkmjeneligpiaaa", sum := "ed2b2e9dda2c81c22b50ea3eff04722b4ad0904b689bd61e5b01306170d509c0", func := "loop.example/pub-g03335/laws.FnExactAddInt64WithTag", spec := "fnExactAddInt64WithTag", unfollowed := true, recurses := true, apart := false }
def FnExactAddInt64WithTagSaid : Prop := fnExactAddInt64WithTagRow.holds Try.pinned (OpenSpec.ofChange fnExactAddInt64WithTagSpec)

/-- ITS FALSE NEIGHBOUR: 'it returns false'. Refute it at one input. -/
def fnExactAddInt64WithTagWrong : ChangeSpec := { name := "fnExactAddInt64WithTag", fn := fun _ => fun
  | [d1, d2] => { results := [.lit (.bool false)], args := [d1, d2] }
  | _ => none }
def FnExactAddInt64WithTagWrongFalsely : Prop := fnExactAddInt64WithTagRow.holds Try.pinned (OpenSpec.ofChange fnExactAddInt64WithTagWrong)

/-- 'laws.FnAddSigns': WHATEVER THE INPUT: true; the input reads as it did. -/
def fnAddSignsSpec : ChangeSpec := { name := "fnAddSigns", fn := fun _ => fun
  | [d] => { results := [.lit (.bool true)], args := [d] }
  | _ => none }
def fnAddSignsRow : OpenClaim := { program := "ytkmjeneligpiaaa", sum := "ed2b2e9dda2c81c22b50ea3eff04722b4ad0904b689bd61e5b01306170d509c0", func := "loop.example/pub-g03335/laws.FnAddSigns", spec := "fnAddSigns", unfollowed := true, recurses := true, apart := false }
def FnAddSignsSaid : Prop := fnAddSignsRow.holds Try.pinned (OpenSpec.ofChange fnAddSignsSpec)

/-- ITS FALSE NEIGHBOUR: 'it returns false'. Refute it at one input. -/
def fnAddSignsWrong : ChangeSpec := { name := "fnAddSigns", fn := fun _ => fun
  | [d] => { results := [.lit (.bool false)], args := [d] }
  | _ => none }
def FnAddSignsWrongFalsely : Prop := fnAddSignsRow.holds Try.pinned (OpenSpec.ofChange fnAddSignsWrong)

/-- 'laws.FnExactAddOID': WHATEVER THE INPUT: true; the input reads as it did. -/
def fnExactAddOIDSpec : ChangeSpec := { name := "fnExactAddOID", fn := fun _ => fun
  | [d] => { results := [.lit (.bool true)], args := [d] }
  | _ => none }
def fnExactAddOIDRow : OpenClaim := { program := "ytkmjeneligpiaaa", sum := "ed2b2e9dda2c81c22b50ea3eff04722b4ad0904b689bd61e5b01306170d509c0", func := "loop.example/pub-g03335/laws.FnExactAddOID", spec := "fnExactAddOID", unfollowed := true, recurses := true, apart := false }
def FnExactAddOIDSaid : Prop := fnExactAddOIDRow.holds Try.pinned (OpenSpec.ofChange fnExactAddOIDSpec)

/-- ITS FALSE NEIGHBOUR: 'it returns false'. Refute it at one input. -/
def fnExactAddOIDWrong : ChangeSpec := { name := "fnExactAddOID", fn := fun _ => fun
  | [d] => { results := [.lit (.bool false)], args := [d] }
  | _ => none }
def FnExactAddOIDWrongFalsely : Prop := fnExactAddOIDRow.holds Try.pinned (OpenSpec.ofChange fnExactAddOIDWrong)

/-- 'laws.FnBackASN1': WHATEVER THE INPUT: true; the input reads as it did. -/
def fnBackASN1Spec : ChangeSpec := { name := "fnBackASN1", fn := fun _ => fun
  | [d1, d2, d3, d4] => { results := [.lit (.bool true)], args := [d1, d2, d3, d4] }
  | _ => none }
def fnBackASN1Row : OpenClaim := { program := "ytkmjeneligpiaaa", sum := "ed2b2e9dda2c81c22b50ea3eff04722b4ad0904b689bd61e5b01306170d509c0", func := "loop.example/pub-g03335/laws.FnBackASN1", spec := "fnBackASN1", unfollowed := true, recurses := true, apart := false }
def FnBackASN1Said : Prop := fnBackASN1Row.holds Try.pinned (OpenSpec.ofChange fnBackASN1Spec)

/-- ITS FALSE NEIGHBOUR: 'it returns false'. Refute it at one input. -/
def fnBackASN1Wrong : ChangeSpec := { name := "fnBackASN1", fn := fun _ => fun
  | [d1, d2, d3, d4] => { results := [.lit (.bool false)], args := [d1, d2, d3, d4] }
  | _ => none }
def FnBackASN1WrongFalsely : Prop := fnBackASN1Row.holds Try.pinned (OpenSpec.ofChange fnBackASN1Wrong)

/-- 'laws.FnBackOctets': WHATEVER THE INPUT: true; the input reads as it did. -/
def fnBackOctetsSpec : ChangeSpec := { name := "fnBackOctets", fn := fun _ => fun
  | [d1, d2] => { results := [.lit (.bool true)], args := [d1, d2] }
  | _ => none }
def fnBackOctetsRow : OpenClaim := { program := "ytkmjeneligpiaaa", sum := "ed2b2e9dda2c81c22b50ea3eff04722b4ad0904b689bd61e5b01306170d509c0", func := "loop.example/pub-g03335/laws.FnBackOctets", spec := "fnBackOctets", unfollowed := true, recurses := true, apart := false }
def FnBackOctetsSaid : Prop := fnBackOctetsRow.holds Try.pinned (OpenSpec.ofChange fnBackOctetsSpec)

/-- ITS FALSE NEIGHBOUR: 'it returns false'. Refute it at one input. -/
def fnBackOctetsWrong : ChangeSpec := { name := "fnBackOctets", fn := fun _ => fun
  | [d1, d2] => { results := [.lit (.bool false)], args := [d1, d2] }
  | _ => none }
def FnBackOctetsWrongFalsely : Prop := fnBackOctetsRow.holds Try.pinned (OpenSpec.ofChange fnBackOctetsWrong)

/-- 'laws.FnHighTag': WHATEVER THE INPUT: true; the input reads as it did. -/
def fnHighTagSpec : ChangeSpec := { name := "fnHighTag", fn := fun _ => fun
  | [d1, d2] => { results := [.lit (.bool true)], args := [d1, d2] }
  | _ => none }
def fnHighTagRow : OpenClaim := { program := "ytkmjeneligpiaaa", sum := "ed2b2e9dda2c81c22b50ea3eff04722b4ad0904b689bd61e5b01306170d509c0", func := "loop.example/pub-g03335/laws.FnHighTag", spec := "fnHighTag", unfollowed := true, recurses := true, apart := false }
def FnHighTagSaid : Prop := fnHighTagRow.holds Try.pinned (OpenSpec.ofChange fnHighTagSpec)

/-- ITS FALSE NEIGHBOUR: 'it returns false'. Refute it at one input. -/
def fnHighTagWrong : ChangeSpec := { name := "fnHighTag", fn := fun _ => fun
  | [d1, d2] => { results := [.lit (.bool false)], args := [d1, d2] }
  | _ => none }
def FnHighTagWrongFalsely : Prop := fnHighTagRow.holds Try.pinned (OpenSpec.ofChange fnHighTagWrong)

/- THE SECOND FORM. 'bulk': how many values and letters a reading holds, each counted each time it is reached (what is shared counts as often as it is met; a slice's spare places count too). A statement '..UptoSaid' is the law's where the arguments, and the package variables that the reading takes, are together of bulk at most 1048576: NARROWER than '..Said'. Prove '..Said' where nothing that the law and all that it calls make is longer than what came in: it says more and counts as full. Else prove '..UptoSaid'. A law counts once. -/
mutual
def uptoBulk {H : Type} : DataW H → Nat
  | .lit (.string bytes) => bytes.length + 1
  | .lit _ => 1
  | .nil => 1
  | .ptr d => uptoBulk d + 1
  | .slice elems spare => uptoBulkAll elems + uptoBulkAll spare + 1
  | .agg parts => uptoBulkAll parts + 1
  | .iface _ d => uptoBulk d + 1
  | .map entries => uptoBulkEntries entries + 1
  | .held _ => 1
def uptoBulkAll {H : Type} : List (DataW H) → Nat
  | [] => 0
  | d :: r => uptoBulk d + uptoBulkAll r
def uptoBulkEntries {H : Type} : List (Lit × DataW H) → Nat
  | [] => 0
  | x :: r => uptoBulkEntry x + uptoBulkEntries r
def uptoBulkEntry {H : Type} : Lit × DataW H → Nat
  | (.string bytes, d) => bytes.length + uptoBulk d + 1
  | (_, d) => uptoBulk d + 1
 end
def uptoSmall : (H : Type) → List (DataW H) → Bool := fun _ ds => decide (uptoBulkAll ds ≤ 1048576)
def OpenSpec.upto (s : _root_.Go.ChangeSpec) : _root_.Go.OpenSpec := { _root_.Go.OpenSpec.ofChange s with cond := some uptoSmall }

/-- 'laws.FnExactAddInt64', WHERE WHAT IT READS IS OF BULK AT MOST 1048576: true; the input reads as it did. -/
def fnExactAddInt64UptoRow : OpenClaim := { program := "ytkmjeneligpiaaa", sum := "ed2b2e9dda2c81c22b50ea3eff04722b4ad0904b689bd61e5b01306170d509c0", func := "loop.example/pub-g03335/laws.FnExactAddInt64", spec := "fnExactAddInt64", unfollowed := true, recurses := true, apart := false, narrowed := true }
def FnExactAddInt64UptoSaid : Prop := fnExactAddInt64UptoRow.holds Try.pinned (OpenSpec.upto fnExactAddInt64Spec)

/-- 'laws.FnExactAddInt64WithTag', WHERE WHAT IT READS IS OF BULK AT MOST 1048576: true; the input reads as it did. -/
def fnExactAddInt64WithTagUptoRow : OpenClaim := { program := "ytkmjeneligpiaaa", sum := "ed2b2e9dda2c81c22b50ea3eff04722b4ad0904b689bd61e5b01306170d509c0", func := "loop.example/pub-g03335/laws.FnExactAddInt64WithTag", spec := "fnExactAddInt64WithTag", unfollowed := true, recurses := true, apart := false, narrowed := true }
def FnExactAddInt64WithTagUptoSaid : Prop := fnExactAddInt64WithTagUptoRow.holds Try.pinned (OpenSpec.upto fnExactAddInt64WithTagSpec)

/-- 'laws.FnAddSigns', WHERE WHAT IT READS IS OF BULK AT MOST 1048576: true; the input reads as it did. -/
def fnAddSignsUptoRow : OpenClaim := { program := "ytkmjeneligpiaaa", sum := "ed2b2e9dda2c81c22b50ea3eff04722b4ad0904b689bd61e5b01306170d509c0", func := "loop.example/pub-g03335/laws.FnAddSigns", spec := "fnAddSigns", unfollowed := true, recurses := true, apart := false, narrowed := true }
def FnAddSignsUptoSaid : Prop := fnAddSignsUptoRow.holds Try.pinned (OpenSpec.upto fnAddSignsSpec)

/-- 'laws.FnExactAddOID', WHERE WHAT IT READS IS OF BULK AT MOST 1048576: true; the input reads as it did. -/
def fnExactAddOIDUptoRow : OpenClaim := { program := "ytkmjeneligpiaaa", sum := "ed2b2e9dda2c81c22b50ea3eff04722b4ad0904b689bd61e5b01306170d509c0", func := "loop.example/pub-g03335/laws.FnExactAddOID", spec := "fnExactAddOID", unfollowed := true, recurses := true, apart := false, narrowed := true }
def FnExactAddOIDUptoSaid : Prop := fnExactAddOIDUptoRow.holds Try.pinned (OpenSpec.upto fnExactAddOIDSpec)

/-- 'laws.FnBackASN1', WHERE WHAT IT READS IS OF BULK AT MOST 1048576: true; the input reads as it did. -/
def fnBackASN1UptoRow : OpenClaim := { program := "ytkmjeneligpiaaa", sum := "ed2b2e9dda2c81c22b50ea3eff04722b4ad0904b689bd61e5b01306170d509c0", func := "loop.example/pub-g03335/laws.FnBackASN1", spec := "fnBackASN1", unfollowed := true, recurses := true, apart := false, narrowed := true }
def FnBackASN1UptoSaid : Prop := fnBackASN1UptoRow.holds Try.pinned (OpenSpec.upto fnBackASN1Spec)

/-- 'laws.FnBackOctets', WHERE WHAT IT READS IS OF BULK AT MOST 1048576: true; the input reads as it did. -/
def fnBackOctetsUptoRow : OpenClaim := { program := "ytkmjeneligpiaaa", sum := "ed2b2e9dda2c81c22b50ea3eff04722b4ad0904b689bd61e5b01306170d509c0", func := "loop.example/pub-g03335/laws.FnBackOctets", spec := "fnBackOctets", unfollowed := true, recurses := true, apart := false, narrowed := true }
def FnBackOctetsUptoSaid : Prop := fnBackOctetsUptoRow.holds Try.pinned (OpenSpec.upto fnBackOctetsSpec)

/-- 'laws.FnHighTag', WHERE WHAT IT READS IS OF BULK AT MOST 1048576: true; the input reads as it did. -/
def fnHighTagUptoRow : OpenClaim := { program := "ytkmjeneligpiaaa", sum := "ed2b2e9dda2c81c22b50ea3eff04722b4ad0904b689bd61e5b01306170d509c0", func := "loop.example/pub-g03335/laws.FnHighTag", spec := "fnHighTag", unfollowed := true, recurses := true, apart := false, narrowed := true }
def FnHighTagUptoSaid : Prop := fnHighTagUptoRow.holds Try.pinned (OpenSpec.upto fnHighTagSpec)

end Rows
end Go.Proofs.Ytkmjeneligpiaaa
