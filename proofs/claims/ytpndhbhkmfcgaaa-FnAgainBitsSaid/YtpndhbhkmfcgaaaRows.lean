/-
  No cell of these rows narrows 'for every input' (looked for: loops, veiled, ifaces, maps, wideKeys, modest, calm, conditions, laid).
  DERIVED. THE GIVEN ROWS OF THIS SEAT. 3 by the template 'for every input the law returns true; each argument reads behind the call as it read before'; 0 by the template 'total and deterministic' (their statements: YtpndhbhkmfcgaaaTotals.lean).
  GIVEN WITH THE SEED: the statements are not yours to turn. If you find one false, say at which input.
  Laid BY PROGRAM, IN A SANDBOX (cutbox-rows.mjs): the forced cells as the released guide's own fill.sh prints them over the translation a795598242ede953… (all of the seat's roots in one cut). By AI agents, Wed Nov 11 2026. No macro, syntax, notation, axiom, sorry.
-/
import Derived.Test.YtpndhbhkmfcgaaaChecked
import GoSem.Claim
import GoSem.ClaimJoined
import GoSem.ClaimMapViews
import Derived.JoinedTies
import Derived.KernelRfl
namespace Go.Proofs.Ytpndhbhkmfcgaaa
/- THE CELL 'sum', in the pinned program and in every row, IS THE sha256 OF THE DUMP (.gsa) THAT YtpndhbhkmfcgaaaProg.lean LOADS. Nothing in Lean hashes anything: it is a label: what it is worth is what the hold of that sum in a sandbox is worth. -/
noncomputable def Try.pinned : Pinned := { name := "ytpndhbhkmfcgaaa", sum := "a795598242ede95325957cd0dc6dfe9908c34b2da70d5e8b8cd47b25574aaa1d", checked := Try.checked }
namespace Rows
def none {H : Type} : Left H := { results := [], args := [] }

/-- 'laws.FnAgainBits': WHATEVER THE INPUT: true; the input reads as it did. -/
def fnAgainBitsSpec : ChangeSpec := { name := "fnAgainBits", fn := fun _ => fun
  | [d] => { results := [.lit (.bool true)], args := [d] }
  | _ => none }
def fnAgainBitsRow : OpenClaim := { program := "ytpndhbhkmfcgaaa", sum := "a795598242ede95325957cd0dc6dfe9908c34b2da70d5e8b8cd47b25574aaa1d", func := "loop.example/pub-g03335/laws.FnAgainBits", spec := "fnAgainBits", unfollowed := true, recurses := true, apart := false }
def FnAgainBitsSaid : Prop := fnAgainBitsRow.holds Try.pinned (OpenSpec.ofChange fnAgainBitsSpec)

/-- ITS FALSE NEIGHBOUR: 'it returns false'. Refute it at one input. -/
def fnAgainBitsWrong : ChangeSpec := { name := "fnAgainBits", fn := fun _ => fun
  | [d] => { results := [.lit (.bool false)], args := [d] }
  | _ => none }
def FnAgainBitsWrongFalsely : Prop := fnAgainBitsRow.holds Try.pinned (OpenSpec.ofChange fnAgainBitsWrong)

/-- 'laws.FnAgainOID': WHATEVER THE INPUT: true; the input reads as it did. -/
def fnAgainOIDSpec : ChangeSpec := { name := "fnAgainOID", fn := fun _ => fun
  | [d] => { results := [.lit (.bool true)], args := [d] }
  | _ => none }
def fnAgainOIDRow : OpenClaim := { program := "ytpndhbhkmfcgaaa", sum := "a795598242ede95325957cd0dc6dfe9908c34b2da70d5e8b8cd47b25574aaa1d", func := "loop.example/pub-g03335/laws.FnAgainOID", spec := "fnAgainOID", unfollowed := true, recurses := true, apart := false }
def FnAgainOIDSaid : Prop := fnAgainOIDRow.holds Try.pinned (OpenSpec.ofChange fnAgainOIDSpec)

/-- ITS FALSE NEIGHBOUR: 'it returns false'. Refute it at one input. -/
def fnAgainOIDWrong : ChangeSpec := { name := "fnAgainOID", fn := fun _ => fun
  | [d] => { results := [.lit (.bool false)], args := [d] }
  | _ => none }
def FnAgainOIDWrongFalsely : Prop := fnAgainOIDRow.holds Try.pinned (OpenSpec.ofChange fnAgainOIDWrong)

/-- 'laws.FnBackOptionalBool': WHATEVER THE INPUT: true; the input reads as it did. -/
def fnBackOptionalBoolSpec : ChangeSpec := { name := "fnBackOptionalBool", fn := fun _ => fun
  | [d1, d2, d3, d4, d5] => { results := [.lit (.bool true)], args := [d1, d2, d3, d4, d5] }
  | _ => none }
def fnBackOptionalBoolRow : OpenClaim := { program := "ytpndhbhkmfcgaaa", sum := "a795598242ede95325957cd0dc6dfe9908c34b2da70d5e8b8cd47b25574aaa1d", func := "loop.example/pub-g03335/laws.FnBackOptionalBool", spec := "fnBackOptionalBool", unfollowed := true, recurses := true, apart := false }
def FnBackOptionalBoolSaid : Prop := fnBackOptionalBoolRow.holds Try.pinned (OpenSpec.ofChange fnBackOptionalBoolSpec)

/-- ITS FALSE NEIGHBOUR: 'it returns false'. Refute it at one input. -/
def fnBackOptionalBoolWrong : ChangeSpec := { name := "fnBackOptionalBool", fn := fun _ => fun
  | [d1, d2, d3, d4, d5] => { results := [.lit (.bool false)], args := [d1, d2, d3, d4, d5] }
  | _ => none }
def FnBackOptionalBoolWrongFalsely : Prop := fnBackOptionalBoolRow.holds Try.pinned (OpenSpec.ofChange fnBackOptionalBoolWrong)

/- THE SECOND FORM. 'bulk': how many values and letters a reading holds, each counted each time it is reached (what is shared counts as often as it is met; a slice's spare places count too). A statement '..UptoSaid' is the law's where the arguments, and the package variables that the reading takes, are together of bulk at most 1048576: NARROWER than '..Said'. Prove '..Said' where nothing that the law and all that it calls make is longer than what came in: it says more and counts as full. Else prove '..UptoSaid'. A law counts once. -/
mutual
def uptoBulk {H : Type} : DataW H → Nat
  | .lit (.string bytes) => bytes.length + 1
  | .lit _ => 1
  | .nil => 1
  | .ptr d => uptoBulk d + 1
  | .slice elems spare => uptoBulkAll elems + uptoBulkAll spare + 1
  | .agg parts => uptoBulkAll parts + 1
  | .iface _ d => uptoBulk d + 1
  | .map entries => uptoBulkEntries entries + 1
  | .held _ => 1
def uptoBulkAll {H : Type} : List (DataW H) → Nat
  | [] => 0
  | d :: r => uptoBulk d + uptoBulkAll r
def uptoBulkEntries {H : Type} : List (Lit × DataW H) → Nat
  | [] => 0
  | x :: r => uptoBulkEntry x + uptoBulkEntries r
def uptoBulkEntry {H : Type} : Lit × DataW H → Nat
  | (.string bytes, d) => bytes.length + uptoBulk d + 1
  | (_, d) => uptoBulk d + 1
 end
def uptoSmall : (H : Type) → List (DataW H) → Bool := fun _ ds => decide (uptoBulkAll ds ≤ 1048576)
def OpenSpec.upto (s : _root_.Go.ChangeSpec) : _root_.Go.OpenSpec := { _root_.Go.OpenSpec.ofChange s with cond := some uptoSmall }

/-- 'laws.FnAgainBits', WHERE WHAT IT READS IS OF BULK AT MOST 1048576: true; the input reads as it did. -/
def fnAgainBitsUptoRow : OpenClaim := { program := "ytpndhbhkmfcgaaa", sum := "a795598242ede95325957cd0dc6dfe9908c34b2da70d5e8b8cd47b25574aaa1d", func := "loop.example/pub-g03335/laws.FnAgainBits", spec := "fnAgainBits", unfollowed := true, recurses := true, apart := false, narrowed := true }
def FnAgainBitsUptoSaid : Prop := fnAgainBitsUptoRow.holds Try.pinned (OpenSpec.upto fnAgainBitsSpec)

/-- 'laws.FnAgainOID', WHERE WHAT IT READS IS OF BULK AT MOST 1048576: true; the input reads as it did. -/
def fnAgainOIDUptoRow : OpenClaim := { program := "ytpndhbhkmfcgaaa", sum := "a795598242ede95325957cd0dc6dfe9908c34b2da70d5e8b8cd47b25574aaa1d", func := "loop.example/pub-g03335/laws.FnAgainOID", spec := "fnAgainOID", unfollowed := true, recurses := true, apart := false, narrowed := true }
def FnAgainOIDUptoSaid : Prop := fnAgainOIDUptoRow.holds Try.pinned (OpenSpec.upto fnAgainOIDSpec)

/-- 'laws.FnBackOptionalBool', WHERE WHAT IT READS IS OF BULK AT MOST 1048576: true; the input reads as it did. -/
def fnBackOptionalBoolUptoRow : OpenClaim := { program := "ytpndhbhkmfcgaaa", sum := "a795598242ede95325957cd0dc6dfe9908c34b2da70d5e8b8cd47b25574aaa1d", func := "loop.example/pub-g03335/laws.FnBackOptionalBool", spec := "fnBackOptionalBool", unfollowed := true, recurses := true, apart := false, narrowed := true }
def FnBackOptionalBoolUptoSaid : Prop := fnBackOptionalBoolUptoRow.holds Try.pinned (OpenSpec.upto fnBackOptionalBoolSpec)

end Rows
end Go.Proofs.Ytpndhbhkmfcgaaa
