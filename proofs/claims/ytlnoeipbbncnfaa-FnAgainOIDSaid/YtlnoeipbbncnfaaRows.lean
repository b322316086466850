/-
  No cell of these rows narrows 'for every input' (looked for: loops, veiled, ifaces, maps, wideKeys, modest, calm, conditions, laid).
  DERIVED. THE GIVEN ROWS OF THIS SEAT. 3 by the template 'for every input the law returns true; each argument reads behind the call as it read before'; 0 by the template 'total and deterministic' (their statements: YtlnoeipbbncnfaaTotals.lean).
  GIVEN WITH THE SEED: the statements are not yours to turn. If you find one false, say at which input.
  Laid BY PROGRAM, IN A SANDBOX (cutbox-rows.mjs): the forced cells as the released guide's own fill.sh prints them over the translation 54053d6dfe738c5b… (all of the seat's roots in one cut). By AI agents, Wed Nov 11 2026. No macro, syntax, notation, axiom, sorry.
-/
import Derived.Test.YtlnoeipbbncnfaaChecked
import GoSem.Claim
import GoSem.ClaimJoined
import GoSem.ClaimMapViews
import Derived.JoinedTies
import Derived.KernelRfl
namespace Go.Proofs.Ytlnoeipbbncnfaa
/- THE CELL 'sum', in the pinned program and in every row, IS THE sha256 OF THE DUMP (.gsa) THAT YtlnoeipbbncnfaaProg.lean LOADS. Nothing in Lean hashes anything: it is a label: what it is worth is what the hold of that sum in a sandbox is worth. -/
noncomputable def Try.pinned : Pinned := { name := "ytlnoeipbbncnfaa", sum := "54053d6dfe738c5b8a518149a4acc06debe8e0e3683f0e3bed4ab08b36053872", checked := Try.checked }
namespace Rows
def none {H : Type} : Left H := { results := [], args := [] }

/-- 'laws.FnExactReadOID': WHATEVER THE INPUT: true; the input reads as it did. -/
def fnExactReadOIDSpec : ChangeSpec := { name := "fnExactReadOID", fn := fun _ => fun
  | [d] => { results := [.lit (.bool true)], args := [d] }
  | _ => none }
def fnExactReadOIDRow : OpenClaim := { program := "ytlnoeipbbncnfaa", sum := "54053d6dfe738c5b8a518149a4acc06debe8e0e3683f0e3bed4ab08b36053872", func := "loop.example/pub-g03335/laws.FnExactReadOID", spec := "fnExactReadOID", apart := false }
def FnExactReadOIDSaid : Prop := fnExactReadOIDRow.holds Try.pinned (OpenSpec.ofChange fnExactReadOIDSpec)

/-- ITS FALSE NEIGHBOUR: 'it returns false'. Refute it at one input. -/
def fnExactReadOIDWrong : ChangeSpec := { name := "fnExactReadOID", fn := fun _ => fun
  | [d] => { results := [.lit (.bool false)], args := [d] }
  | _ => none }
def FnExactReadOIDWrongFalsely : Prop := fnExactReadOIDRow.holds Try.pinned (OpenSpec.ofChange fnExactReadOIDWrong)

/-- 'laws.FnExactAddOID': WHATEVER THE INPUT: true; the input reads as it did. -/
def fnExactAddOIDSpec : ChangeSpec := { name := "fnExactAddOID", fn := fun _ => fun
  | [d] => { results := [.lit (.bool true)], args := [d] }
  | _ => none }
def fnExactAddOIDRow : OpenClaim := { program := "ytlnoeipbbncnfaa", sum := "54053d6dfe738c5b8a518149a4acc06debe8e0e3683f0e3bed4ab08b36053872", func := "loop.example/pub-g03335/laws.FnExactAddOID", spec := "fnExactAddOID", unfollowed := true, recurses := true, apart := false }
def FnExactAddOIDSaid : Prop := fnExactAddOIDRow.holds Try.pinned (OpenSpec.ofChange fnExactAddOIDSpec)

/-- ITS FALSE NEIGHBOUR: 'it returns false'. Refute it at one input. -/
def fnExactAddOIDWrong : ChangeSpec := { name := "fnExactAddOID", fn := fun _ => fun
  | [d] => { results := [.lit (.bool false)], args := [d] }
  | _ => none }
def FnExactAddOIDWrongFalsely : Prop := fnExactAddOIDRow.holds Try.pinned (OpenSpec.ofChange fnExactAddOIDWrong)

/-- 'laws.FnAgainOID': WHATEVER THE INPUT: true; the input reads as it did. -/
def fnAgainOIDSpec : ChangeSpec := { name := "fnAgainOID", fn := fun _ => fun
  | [d] => { results := [.lit (.bool true)], args := [d] }
  | _ => none }
def fnAgainOIDRow : OpenClaim := { program := "ytlnoeipbbncnfaa", sum := "54053d6dfe738c5b8a518149a4acc06debe8e0e3683f0e3bed4ab08b36053872", func := "loop.example/pub-g03335/laws.FnAgainOID", spec := "fnAgainOID", unfollowed := true, recurses := true, apart := false }
def FnAgainOIDSaid : Prop := fnAgainOIDRow.holds Try.pinned (OpenSpec.ofChange fnAgainOIDSpec)

/-- ITS FALSE NEIGHBOUR: 'it returns false'. Refute it at one input. -/
def fnAgainOIDWrong : ChangeSpec := { name := "fnAgainOID", fn := fun _ => fun
  | [d] => { results := [.lit (.bool false)], args := [d] }
  | _ => none }
def FnAgainOIDWrongFalsely : Prop := fnAgainOIDRow.holds Try.pinned (OpenSpec.ofChange fnAgainOIDWrong)

/- THE SECOND FORM. 'bulk': how many values and letters a reading holds, each counted each time it is reached (what is shared counts as often as it is met; a slice's spare places count too). A statement '..UptoSaid' is the law's where the arguments, and the package variables that the reading takes, are together of bulk at most 1048576: NARROWER than '..Said'. Prove '..Said' where nothing that the law and all that it calls make is longer than what came in: it says more and counts as full. Else prove '..UptoSaid'. A law counts once. -/
mutual
def uptoBulk {H : Type} : DataW H → Nat
  | .lit (.string bytes) => bytes.length + 1
  | .lit _ => 1
  | .nil => 1
  | .ptr d => uptoBulk d + 1
  | .slice elems spare => uptoBulkAll elems + uptoBulkAll spare + 1
  | .agg parts => uptoBulkAll parts + 1
  | .iface _ d => uptoBulk d + 1
  | .map entries => uptoBulkEntries entries + 1
  | .held _ => 1
def uptoBulkAll {H : Type} : List (DataW H) → Nat
  | [] => 0
  | d :: r => uptoBulk d + uptoBulkAll r
def uptoBulkEntries {H : Type} : List (Lit × DataW H) → Nat
  | [] => 0
  | x :: r => uptoBulkEntry x + uptoBulkEntries r
def uptoBulkEntry {H : Type} : Lit × DataW H → Nat
  | (.string bytes, d) => bytes.length + uptoBulk d + 1
  | (_, d) => uptoBulk d + 1
 end
def uptoSmall : (H : Type) → List (DataW H) → Bool := fun _ ds => decide (uptoBulkAll ds ≤ 1048576)
def OpenSpec.upto (s : _root_.Go.ChangeSpec) : _root_.Go.OpenSpec := { _root_.Go.OpenSpec.ofChange s with cond := some uptoSmall }

/-- 'laws.FnExactReadOID', WHERE WHAT IT READS IS OF BULK AT MOST 1048576: true; the input reads as it did. -/
def fnExactReadOIDUptoRow : OpenClaim := { program := "ytlnoeipbbncnfaa", sum := "54053d6dfe738c5b8a518149a4acc06debe8e0e3683f0e3bed4ab08b36053872", func := "loop.example/pub-g03335/laws.FnExactReadOID", spec := "fnExactReadOID", apart := false, narrowed := true }
def FnExactReadOIDUptoSaid : Prop := fnExactReadOIDUptoRow.holds Try.pinned (OpenSpec.upto fnExactReadOIDSpec)

/-- 'laws.FnExactAddOID', WHERE WHAT IT READS IS OF BULK AT MOST 1048576: true; the input reads as it did. -/
def fnExactAddOIDUptoRow : OpenClaim := { program := "ytlnoeipbbncnfaa", sum := "54053d6dfe738c5b8a518149a4acc06debe8e0e3683f0e3bed4ab08b36053872", func := "loop.example/pub-g03335/laws.FnExactAddOID", spec := "fnExactAddOID", unfollowed := true, recurses := true, apart := false, narrowed := true }
def FnExactAddOIDUptoSaid : Prop := fnExactAddOIDUptoRow.holds Try.pinned (OpenSpec.upto fnExactAddOIDSpec)

/-- 'laws.FnAgainOID', WHERE WHAT IT READS IS OF BULK AT MOST 1048576: true; the input reads as it did. -/
def fnAgainOIDUptoRow : OpenClaim := { program := "ytlnoeipbbncnfaa", sum := "54053d6dfe738c5b8a518149a4acc06debe8e0e3683f0e3bed4ab08b36053872", func := "loop.example/pub-g03335/laws.FnAgainOID", spec := "fnAgainOID", unfollowed := true, recurses := true, apart := false, narrowed := true }
def FnAgainOIDUptoSaid : Prop := fnAgainOIDUptoRow.holds Try.pinned (OpenSpec.upto fnAgainOIDSpec)

end Rows
end Go.Proofs.Ytlnoeipbbncnfaa
