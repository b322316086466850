/-
  No cell of these rows narrows 'for every input' (looked for: loops, veiled, ifaces, maps, wideKeys, modest, calm, conditions, laid).
  DERIVED. THE GIVEN ROWS OF THIS SEAT. 4 by the template 'for every input the law returns true; each argument reads behind the call as it read before'; 0 by the template 'total and deterministic' (their statements: YtilofbhpgcdenaaTotals.lean).
  GIVEN WITH THE SEED: the statements are not yours to turn. If you find one false, say at which input.
  Laid BY PROGRAM, IN A SANDBOX (cutbox-rows.mjs): the forced cells as the released guide's own fill.sh prints them over the translation 29306d5eabd9a86a… (all of the seat's roots in one cut). By AI agents, Wed Nov 11 2026. No macro, syntax, notation, axiom, sorry.
-/
import Derived.Test.YtilofbhpgcdenaaChecked
import GoSem.Claim
import GoSem.ClaimJoined
import GoSem.ClaimMapViews
import Derived.JoinedTies
import Derived.KernelRfl
namespace Go.Proofs.Ytilofbhpgcdenaa
/- THE CELL 'sum', in the pinned program and in every row, IS THE sha256 OF THE DUMP (.gsa) THAT YtilofbhpgcdenaaProg.lean LOADS. Nothing in Lean hashes anything: it is a label: what it is worth is what the hold of that sum in a sandbox is worth. -/
noncomputable def Try.pinned : Pinned := { name := "ytilofbhpgcdenaa", sum := "29306d5eabd9a86a3ee3bdd0742aa6f309548b7e94cf3b11be855d05c0d33d98", checked := Try.checked }
namespace Rows
def none {H : Type} : Left H := { results := [], args := [] }

/-- 'laws.FnAgainBool': WHATEVER THE INPUT: true; the input reads as it did. -/
def fnAgainBoolSpec : ChangeSpec := { name := "fnAgainBool", fn := fun _ => fun
  | [d] => { results := [.lit (.bool true)], args := [d] }
  | _ => none }
def fnAgainBoolRow : OpenClaim := { program := "ytilofbhpgcdenaa", sum := "29306d5eabd9a86a3ee3bdd0742aa6f309548b7e94cf3b11be855d05c0d33d98", func := "loop.example/pub-g03335/laws.FnAgainBool", spec := "fnAgainBool", unfollowed := true, recurses := true, apart := false }
def FnAgainBoolSaid : Prop := fnAgainBoolRow.holds Try.pinned (OpenSpec.ofChange fnAgainBoolSpec)

/-- ITS FALSE NEIGHBOUR: 'it returns false'. Refute it at one input. -/
def fnAgainBoolWrong : ChangeSpec := { name := "fnAgainBool", fn := fun _ => fun
  | [d] => { results := [.lit (.bool false)], args := [d] }
  | _ => none }
def FnAgainBoolWrongFalsely : Prop := fnAgainBoolRow.holds Try.pinned (OpenSpec.ofChange fnAgainBoolWrong)

/-- 'laws.FnAgainEnum': WHATEVER THE INPUT: true; the input reads as it did. -/
def fnAgainEnumSpec : ChangeSpec := { name := "fnAgainEnum", fn := fun _ => fun
  | [d] => { results := [.lit (.bool true)], args := [d] }
  | _ => none }
def fnAgainEnumRow : OpenClaim := { program := "ytilofbhpgcdenaa", sum := "29306d5eabd9a86a3ee3bdd0742aa6f309548b7e94cf3b11be855d05c0d33d98", func := "loop.example/pub-g03335/laws.FnAgainEnum", spec := "fnAgainEnum", unfollowed := true, recurses := true, apart := false }
def FnAgainEnumSaid : Prop := fnAgainEnumRow.holds Try.pinned (OpenSpec.ofChange fnAgainEnumSpec)

/-- ITS FALSE NEIGHBOUR: 'it returns false'. Refute it at one input. -/
def fnAgainEnumWrong : ChangeSpec := { name := "fnAgainEnum", fn := fun _ => fun
  | [d] => { results := [.lit (.bool false)], args := [d] }
  | _ => none }
def FnAgainEnumWrongFalsely : Prop := fnAgainEnumRow.holds Try.pinned (OpenSpec.ofChange fnAgainEnumWrong)

/-- 'laws.FnAgainInt64': WHATEVER THE INPUT: true; the input reads as it did. -/
def fnAgainInt64Spec : ChangeSpec := { name := "fnAgainInt64", fn := fun _ => fun
  | [d] => { results := [.lit (.bool true)], args := [d] }
  | _ => none }
def fnAgainInt64Row : OpenClaim := { program := "ytilofbhpgcdenaa", sum := "29306d5eabd9a86a3ee3bdd0742aa6f309548b7e94cf3b11be855d05c0d33d98", func := "loop.example/pub-g03335/laws.FnAgainInt64", spec := "fnAgainInt64", unfollowed := true, recurses := true, apart := false }
def FnAgainInt64Said : Prop := fnAgainInt64Row.holds Try.pinned (OpenSpec.ofChange fnAgainInt64Spec)

/-- ITS FALSE NEIGHBOUR: 'it returns false'. Refute it at one input. -/
def fnAgainInt64Wrong : ChangeSpec := { name := "fnAgainInt64", fn := fun _ => fun
  | [d] => { results := [.lit (.bool false)], args := [d] }
  | _ => none }
def FnAgainInt64WrongFalsely : Prop := fnAgainInt64Row.holds Try.pinned (OpenSpec.ofChange fnAgainInt64Wrong)

/-- 'laws.FnAgainUint': WHATEVER THE INPUT: true; the input reads as it did. -/
def fnAgainUintSpec : ChangeSpec := { name := "fnAgainUint", fn := fun _ => fun
  | [d] => { results := [.lit (.bool true)], args := [d] }
  | _ => none }
def fnAgainUintRow : OpenClaim := { program := "ytilofbhpgcdenaa", sum := "29306d5eabd9a86a3ee3bdd0742aa6f309548b7e94cf3b11be855d05c0d33d98", func := "loop.example/pub-g03335/laws.FnAgainUint", spec := "fnAgainUint", unfollowed := true, recurses := true, apart := false }
def FnAgainUintSaid : Prop := fnAgainUintRow.holds Try.pinned (OpenSpec.ofChange fnAgainUintSpec)

/-- ITS FALSE NEIGHBOUR: 'it returns false'. Refute it at one input. -/
def fnAgainUintWrong : ChangeSpec := { name := "fnAgainUint", fn := fun _ => fun
  | [d] => { results := [.lit (.bool false)], args := [d] }
  | _ => none }
def FnAgainUintWrongFalsely : Prop := fnAgainUintRow.holds Try.pinned (OpenSpec.ofChange fnAgainUintWrong)

/- THE SECOND FORM. 'bulk': how many values and letters a reading holds, each counted each time it is reached (what is shared counts as often as it is met; a slice's spare places count too). A statement '..UptoSaid' is the law's where the arguments, and the package variables that the reading takes, are together of bulk at most 1048576: NARROWER than '..Said'. Prove '..Said' where nothing that the law and all that it calls make is longer than what came in: it says more and counts as full. Else prove '..UptoSaid'. A law counts once. -/
mutual
def uptoBulk {H : Type} : DataW H → Nat
  | .lit (.string bytes) => bytes.length + 1
  | .lit _ => 1
  | .nil => 1
  | .ptr d => uptoBulk d + 1
  | .slice elems spare => uptoBulkAll elems + uptoBulkAll spare + 1
  | .agg parts => uptoBulkAll parts + 1
  | .iface _ d => uptoBulk d + 1
  | .map entries => uptoBulkEntries entries + 1
  | .held _ => 1
def uptoBulkAll {H : Type} : List (DataW H) → Nat
  | [] => 0
  | d :: r => uptoBulk d + uptoBulkAll r
def uptoBulkEntries {H : Type} : List (Lit × DataW H) → Nat
  | [] => 0
  | x :: r => uptoBulkEntry x + uptoBulkEntries r
def uptoBulkEntry {H : Type} : Lit × DataW H → Nat
  | (.string bytes, d) => bytes.length + uptoBulk d + 1
  | (_, d) => uptoBulk d + 1
 end
def uptoSmall : (H : Type) → List (DataW H) → Bool := fun _ ds => decide (uptoBulkAll ds ≤ 1048576)
def OpenSpec.upto (s : _root_.Go.ChangeSpec) : _root_.Go.OpenSpec := { _root_.Go.OpenSpec.ofChange s with cond := some uptoSmall }

/-- 'laws.FnAgainBool', WHERE WHAT IT READS IS OF BULK AT MOST 1048576: true; the input reads as it did. -/
def fnAgainBoolUptoRow : OpenClaim := { program := "ytilofbhpgcdenaa", sum := "29306d5eabd9a86a3ee3bdd0742aa6f309548b7e94cf3b11be855d05c0d33d98", func := "loop.example/pub-g03335/laws.FnAgainBool", spec := "fnAgainBool", unfollowed := true, recurses := true, apart := false, narrowed := true }
def FnAgainBoolUptoSaid : Prop := fnAgainBoolUptoRow.holds Try.pinned (OpenSpec.upto fnAgainBoolSpec)

/-- 'laws.FnAgainEnum', WHERE WHAT IT READS IS OF BULK AT MOST 1048576: true; the input reads as it did. -/
def fnAgainEnumUptoRow : OpenClaim := { program := "ytilofbhpgcdenaa", sum := "29306d5eabd9a86a3ee3bdd0742aa6f309548b7e94cf3b11be855d05c0d33d98", func := "loop.example/pub-g03335/laws.FnAgainEnum", spec := "fnAgainEnum", unfollowed := true, recurses := true, apart := false, narrowed := true }
def FnAgainEnumUptoSaid : Prop := fnAgainEnumUptoRow.holds Try.pinned (OpenSpec.upto fnAgainEnumSpec)

/-- 'laws.FnAgainInt64', WHERE WHAT IT READS IS OF BULK AT MOST 1048576: true; the input reads as it did. -/
def fnAgainInt64UptoRow : OpenClaim := { program := "ytilofbhpgcdenaa", sum := "29306d5eabd9a86a3ee3bdd0742aa6f309548b7e94cf3b11be855d05c0d33d98", func := "loop.example/pub-g03335/laws.FnAgainInt64", spec := "fnAgainInt64", unfollowed := true, recurses := true, apart := false, narrowed := true }
def FnAgainInt64UptoSaid : Prop := fnAgainInt64UptoRow.holds Try.pinned (OpenSpec.upto fnAgainInt64Spec)

/-- 'laws.FnAgainUint', WHERE WHAT IT READS IS OF BULK AT MOST 1048576: true; the input reads as it did. -/
def fnAgainUintUptoRow : OpenClaim := { program := "ytilofbhpgcdenaa", sum := "29306d5eabd9a86a3ee3bdd0742aa6f309548b7e94cf3b11be855d05c0d33d98", func := "loop.example/pub-g03335/laws.FnAgainUint", spec := "fnAgainUint", unfollowed := true, recurses := true, apart := false, narrowed := true }
def FnAgainUintUptoSaid : Prop := fnAgainUintUptoRow.holds Try.pinned (OpenSpec.upto fnAgainUintSpec)

end Rows
end Go.Proofs.Ytilofbhpgcdenaa
