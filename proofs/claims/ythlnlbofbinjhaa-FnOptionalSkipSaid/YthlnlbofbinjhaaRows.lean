/-
  No cell of these rows narrows 'for every input' (looked for: loops, veiled, ifaces, maps, wideKeys, modest, calm, conditions, laid).
  DERIVED. THE GIVEN ROWS OF THIS SEAT. 8 by the template 'for every input the law returns true; each argument reads behind the call as it read before'; 0 by the template 'total and deterministic' (their statements: YthlnlbofbinjhaaTotals.lean).
  GIVEN WITH THE SEED: the statements are not yours to turn. If you find one false, say at which input.
  Laid BY PROGRAM, IN A SANDBOX (cutbox-rows.mjs): the forced cells as the released guide's own fill.sh prints them over the translation d60d2b3df91fd466… (all of the seat's roots in one cut). By AI agents, Wed Nov 11 2026. No macro, syntax, notation, axiom, sorry.
-/
import Derived.Test.YthlnlbofbinjhaaChecked
import GoSem.Claim
import GoSem.ClaimJoined
import GoSem.ClaimMapViews
import Derived.JoinedTies
import Derived.KernelRfl
namespace Go.Proofs.Ythlnlbofbinjhaa
/- THE CELL 'sum', in the pinned program and in every row, IS THE sha256 OF THE DUMP (.gsa) THAT YthlnlbofbinjhaaProg.lean LOADS. Nothing in Lean hashes anything: it is a label: what it is worth is what the hold of that sum in a sandbox is worth. -/
noncomputable def Try.pinned : Pinned := { name := "ythlnlbofbinjhaa", sum := "d60d2b3df91fd466250bfdf6788b9a0fa10a59b98f2743274c1ae614f86fb47e", checked := Try.checked }
namespace Rows
def none {H : Type} : Left H := { results := [], args := [] }

/-- 'laws.FnExactReadASN1': WHATEVER THE INPUT: true; the input reads as it did. -/
def fnExactReadASN1Spec : ChangeSpec := { name := "fnExactReadASN1", fn := fun _ => fun
  | [d1, d2] => { results := [.lit (.bool true)], args := [d1, d2] }
  | _ => none }
def fnExactReadASN1Row : OpenClaim := { program := "ythlnlbofbinjhaa", sum := "d60d2b3df91fd466250bfdf6788b9a0fa10a59b98f2743274c1ae614f86fb47e", func := "loop.example/pub-g03335/laws.FnExactReadASN1", spec := "fnExactReadASN1", apart := false }
def FnExactReadASN1Said : Prop := fnExactReadASN1Row.holds Try.pinned (OpenSpec.ofChange fnExactReadASN1Spec)

/-- ITS FALSE NEIGHBOUR: 'it returns false'. Refute it at one input. -/
def fnExactReadASN1Wrong : ChangeSpec := { name := "fnExactReadASN1", fn := fun _ => fun
  | [d1, d2] => { results := [.lit (.bool false)], args := [d1, d2] }
  | _ => none }
def FnExactReadASN1WrongFalsely : Prop := fnExactReadASN1Row.holds Try.pinned (OpenSpec.ofChange fnExactReadASN1Wrong)

/-- 'laws.FnExactReadASN1Bytes': WHATEVER THE INPUT: true; the input reads as it did. -/
def fnExactReadASN1BytesSpec : ChangeSpec := { name := "fnExactReadASN1Bytes", fn := fun _ => fun
  | [d1, d2] => { results := [.lit (.bool true)], args := [d1, d2] }
  | _ => none }
def fnExactReadASN1BytesRow : OpenClaim := { program := "ythlnlbofbinjhaa", sum := "d60d2b3df91fd466250bfdf6788b9a0fa10a59b98f2743274c1ae614f86fb47e", func := "loop.example/pub-g03335/laws.FnExactReadASN1Bytes", spec := "fnExactReadASN1Bytes", apart := false }
def FnExactReadASN1BytesSaid : Prop := fnExactReadASN1BytesRow.holds Try.pinned (OpenSpec.ofChange fnExactReadASN1BytesSpec)

/-- ITS FALSE NEIGHBOUR: 'it returns false'. Refute it at one input. -/
def fnExactReadASN1BytesWrong : ChangeSpec := { name := "fnExactReadASN1Bytes", fn := fun _ => fun
  | [d1, d2] => { results := [.lit (.bool false)], args := [d1, d2] }
  | _ => none }
def FnExactReadASN1BytesWrongFalsely : Prop := fnExactReadASN1BytesRow.holds Try.pinned (OpenSpec.ofChange fnExactReadASN1BytesWrong)

/-- 'laws.FnPeekRead': WHATEVER THE INPUT: true; the input reads as it did. -/
def fnPeekReadSpec : ChangeSpec := { name := "fnPeekRead", fn := fun _ => fun
  | [d1, d2] => { results := [.lit (.bool true)], args := [d1, d2] }
  | _ => none }
def fnPeekReadRow : OpenClaim := { program := "ythlnlbofbinjhaa", sum := "d60d2b3df91fd466250bfdf6788b9a0fa10a59b98f2743274c1ae614f86fb47e", func := "loop.example/pub-g03335/laws.FnPeekRead", spec := "fnPeekRead", apart := false }
def FnPeekReadSaid : Prop := fnPeekReadRow.holds Try.pinned (OpenSpec.ofChange fnPeekReadSpec)

/-- ITS FALSE NEIGHBOUR: 'it returns false'. Refute it at one input. -/
def fnPeekReadWrong : ChangeSpec := { name := "fnPeekRead", fn := fun _ => fun
  | [d1, d2] => { results := [.lit (.bool false)], args := [d1, d2] }
  | _ => none }
def FnPeekReadWrongFalsely : Prop := fnPeekReadRow.holds Try.pinned (OpenSpec.ofChange fnPeekReadWrong)

/-- 'laws.FnBytesASN1': WHATEVER THE INPUT: true; the input reads as it did. -/
def fnBytesASN1Spec : ChangeSpec := { name := "fnBytesASN1", fn := fun _ => fun
  | [d1, d2] => { results := [.lit (.bool true)], args := [d1, d2] }
  | _ => none }
def fnBytesASN1Row : OpenClaim := { program := "ythlnlbofbinjhaa", sum := "d60d2b3df91fd466250bfdf6788b9a0fa10a59b98f2743274c1ae614f86fb47e", func := "loop.example/pub-g03335/laws.FnBytesASN1", spec := "fnBytesASN1", apart := false }
def FnBytesASN1Said : Prop := fnBytesASN1Row.holds Try.pinned (OpenSpec.ofChange fnBytesASN1Spec)

/-- ITS FALSE NEIGHBOUR: 'it returns false'. Refute it at one input. -/
def fnBytesASN1Wrong : ChangeSpec := { name := "fnBytesASN1", fn := fun _ => fun
  | [d1, d2] => { results := [.lit (.bool false)], args := [d1, d2] }
  | _ => none }
def FnBytesASN1WrongFalsely : Prop := fnBytesASN1Row.holds Try.pinned (OpenSpec.ofChange fnBytesASN1Wrong)

/-- 'laws.FnExactSkipOptional': WHATEVER THE INPUT: true; the input reads as it did. -/
def fnExactSkipOptionalSpec : ChangeSpec := { name := "fnExactSkipOptional", fn := fun _ => fun
  | [d1, d2] => { results := [.lit (.bool true)], args := [d1, d2] }
  | _ => none }
def fnExactSkipOptionalRow : OpenClaim := { program := "ythlnlbofbinjhaa", sum := "d60d2b3df91fd466250bfdf6788b9a0fa10a59b98f2743274c1ae614f86fb47e", func := "loop.example/pub-g03335/laws.FnExactSkipOptional", spec := "fnExactSkipOptional", apart := false }
def FnExactSkipOptionalSaid : Prop := fnExactSkipOptionalRow.holds Try.pinned (OpenSpec.ofChange fnExactSkipOptionalSpec)

/-- ITS FALSE NEIGHBOUR: 'it returns false'. Refute it at one input. -/
def fnExactSkipOptionalWrong : ChangeSpec := { name := "fnExactSkipOptional", fn := fun _ => fun
  | [d1, d2] => { results := [.lit (.bool false)], args := [d1, d2] }
  | _ => none }
def FnExactSkipOptionalWrongFalsely : Prop := fnExactSkipOptionalRow.holds Try.pinned (OpenSpec.ofChange fnExactSkipOptionalWrong)

/-- 'laws.FnOptionalSkip': WHATEVER THE INPUT: true; the input reads as it did. -/
def fnOptionalSkipSpec : ChangeSpec := { name := "fnOptionalSkip", fn := fun _ => fun
  | [d1, d2] => { results := [.lit (.bool true)], args := [d1, d2] }
  | _ => none }
def fnOptionalSkipRow : OpenClaim := { program := "ythlnlbofbinjhaa", sum := "d60d2b3df91fd466250bfdf6788b9a0fa10a59b98f2743274c1ae614f86fb47e", func := "loop.example/pub-g03335/laws.FnOptionalSkip", spec := "fnOptionalSkip", apart := false }
def FnOptionalSkipSaid : Prop := fnOptionalSkipRow.holds Try.pinned (OpenSpec.ofChange fnOptionalSkipSpec)

/-- ITS FALSE NEIGHBOUR: 'it returns false'. Refute it at one input. -/
def fnOptionalSkipWrong : ChangeSpec := { name := "fnOptionalSkip", fn := fun _ => fun
  | [d1, d2] => { results := [.lit (.bool false)], args := [d1, d2] }
  | _ => none }
def FnOptionalSkipWrongFalsely : Prop := fnOptionalSkipRow.holds Try.pinned (OpenSpec.ofChange fnOptionalSkipWrong)

/-- 'laws.FnExactReadOptionalOctets': WHATEVER THE INPUT: true; the input reads as it did. -/
def fnExactReadOptionalOctetsSpec : ChangeSpec := { name := "fnExactReadOptionalOctets", fn := fun _ => fun
  | [d1, d2] => { results := [.lit (.bool true)], args := [d1, d2] }
  | _ => none }
def fnExactReadOptionalOctetsRow : OpenClaim := { program := "ythlnlbofbinjhaa", sum := "d60d2b3df91fd466250bfdf6788b9a0fa10a59b98f2743274c1ae614f86fb47e", func := "loop.example/pub-g03335/laws.FnExactReadOptionalOctets", spec := "fnExactReadOptionalOctets", apart := false }
def FnExactReadOptionalOctetsSaid : Prop := fnExactReadOptionalOctetsRow.holds Try.pinned (OpenSpec.ofChange fnExactReadOptionalOctetsSpec)

/-- ITS FALSE NEIGHBOUR: 'it returns false'. Refute it at one input. -/
def fnExactReadOptionalOctetsWrong : ChangeSpec := { name := "fnExactReadOptionalOctets", fn := fun _ => fun
  | [d1, d2] => { results := [.lit (.bool false)], args := [d1, d2] }
  | _ => none }
def FnExactReadOptionalOctetsWrongFalsely : Prop := fnExactReadOptionalOctetsRow.holds Try.pinned (OpenSpec.ofChange fnExactReadOptionalOctetsWrong)

/-- 'laws.FnExactReadBool': WHATEVER THE INPUT: true; the input reads as it did. -/
def fnExactReadBoolSpec : ChangeSpec := { name := "fnExactReadBool", fn := fun _ => fun
  | [d] => { results := [.lit (.bool true)], args := [d] }
  | _ => none }
def fnExactReadBoolRow : OpenClaim := { program := "ythlnlbofbinjhaa", sum := "d60d2b3df91fd466250bfdf6788b9a0fa10a59b98f2743274c1ae614f86fb47e", func := "loop.example/pub-g03335/laws.FnExactReadBool", spec := "fnExactReadBool", apart := false }
def FnExactReadBoolSaid : Prop := fnExactReadBoolRow.holds Try.pinned (OpenSpec.ofChange fnExactReadBoolSpec)

/-- ITS FALSE NEIGHBOUR: 'it returns false'. Refute it at one input. -/
def fnExactReadBoolWrong : ChangeSpec := { name := "fnExactReadBool", fn := fun _ => fun
  | [d] => { results := [.lit (.bool false)], args := [d] }
  | _ => none }
def FnExactReadBoolWrongFalsely : Prop := fnExactReadBoolRow.holds Try.pinned (OpenSpec.ofChange fnExactReadBoolWrong)

/- THE SECOND FORM. 'bulk': how many values and letters a reading holds, each counted each time it is reached (what is shared counts as often as it is met; a slice's spare places count too). A statement '..UptoSaid' is the law's where the arguments, and the package variables that the reading takes, are together of bulk at most 1048576: NARROWER than '..Said'. Prove '..Said' where nothing that the law and all that it calls make is longer than what came in: it says more and counts as full. Else prove '..UptoSaid'. A law counts once. -/
mutual
def uptoBulk {H : Type} : DataW H → Nat
  | .lit (.string bytes) => bytes.length + 1
  | .lit _ => 1
  | .nil => 1
  | .ptr d => uptoBulk d + 1
  | .slice elems spare => uptoBulkAll elems + uptoBulkAll spare + 1
  | .agg parts => uptoBulkAll parts + 1
  | .iface _ d => uptoBulk d + 1
  | .map entries => uptoBulkEntries entries + 1
  | .held _ => 1
def uptoBulkAll {H : Type} : List (DataW H) → Nat
  | [] => 0
  | d :: r => uptoBulk d + uptoBulkAll r
def uptoBulkEntries {H : Type} : List (Lit × DataW H) → Nat
  | [] => 0
  | x :: r => uptoBulkEntry x + uptoBulkEntries r
def uptoBulkEntry {H : Type} : Lit × DataW H → Nat
  | (.string bytes, d) => bytes.length + uptoBulk d + 1
  | (_, d) => uptoBulk d + 1
 end
def uptoSmall : (H : Type) → List (DataW H) → Bool := fun _ ds => decide (uptoBulkAll ds ≤ 1048576)
def OpenSpec.upto (s : _root_.Go.ChangeSpec) : _root_.Go.OpenSpec := { _root_.Go.OpenSpec.ofChange s with cond := some uptoSmall }

/-- 'laws.FnExactReadASN1', WHERE WHAT IT READS IS OF BULK AT MOST 1048576: true; the input reads as it did. -/
def fnExactReadASN1UptoRow : OpenClaim := { program := "ythlnlbofbinjhaa", sum := "d60d2b3df91fd466250bfdf6788b9a0fa10a59b98f2743274c1ae614f86fb47e", func := "loop.example/pub-g03335/laws.FnExactReadASN1", spec := "fnExactReadASN1", apart := false, narrowed := true }
def FnExactReadASN1UptoSaid : Prop := fnExactReadASN1UptoRow.holds Try.pinned (OpenSpec.upto fnExactReadASN1Spec)

/-- 'laws.FnExactReadASN1Bytes', WHERE WHAT IT READS IS OF BULK AT MOST 1048576: true; the input reads as it did. -/
def fnExactReadASN1BytesUptoRow : OpenClaim := { program := "ythlnlbofbinjhaa", sum := "d60d2b3df91fd466250bfdf6788b9a0fa10a59b98f2743274c1ae614f86fb47e", func := "loop.example/pub-g03335/laws.FnExactReadASN1Bytes", spec := "fnExactReadASN1Bytes", apart := false, narrowed := true }
def FnExactReadASN1BytesUptoSaid : Prop := fnExactReadASN1BytesUptoRow.holds Try.pinned (OpenSpec.upto fnExactReadASN1BytesSpec)

/-- 'laws.FnPeekRead', WHERE WHAT IT READS IS OF BULK AT MOST 1048576: true; the input reads as it did. -/
def fnPeekReadUptoRow : OpenClaim := { program := "ythlnlbofbinjhaa", sum := "d60d2b3df91fd466250bfdf6788b9a0fa10a59b98f2743274c1ae614f86fb47e", func := "loop.example/pub-g03335/laws.FnPeekRead", spec := "fnPeekRead", apart := false, narrowed := true }
def FnPeekReadUptoSaid : Prop := fnPeekReadUptoRow.holds Try.pinned (OpenSpec.upto fnPeekReadSpec)

/-- 'laws.FnBytesASN1', WHERE WHAT IT READS IS OF BULK AT MOST 1048576: true; the input reads as it did. -/
def fnBytesASN1UptoRow : OpenClaim := { program := "ythlnlbofbinjhaa", sum := "d60d2b3df91fd466250bfdf6788b9a0fa10a59b98f2743274c1ae614f86fb47e", func := "loop.example/pub-g03335/laws.FnBytesASN1", spec := "fnBytesASN1", apart := false, narrowed := true }
def FnBytesASN1UptoSaid : Prop := fnBytesASN1UptoRow.holds Try.pinned (OpenSpec.upto fnBytesASN1Spec)

/-- 'laws.FnExactSkipOptional', WHERE WHAT IT READS IS OF BULK AT MOST 1048576: true; the input reads as it did. -/
def fnExactSkipOptionalUptoRow : OpenClaim := { program := "ythlnlbofbinjhaa", sum := "d60d2b3df91fd466250bfdf6788b9a0fa10a59b98f2743274c1ae614f86fb47e", func := "loop.example/pub-g03335/laws.FnExactSkipOptional", spec := "fnExactSkipOptional", apart := false, narrowed := true }
def FnExactSkipOptionalUptoSaid : Prop := fnExactSkipOptionalUptoRow.holds Try.pinned (OpenSpec.upto fnExactSkipOptionalSpec)

/-- 'laws.FnOptionalSkip', WHERE WHAT IT READS IS OF BULK AT MOST 1048576: true; the input reads as it did. -/
def fnOptionalSkipUptoRow : OpenClaim := { program := "ythlnlbofbinjhaa", sum := "d60d2b3df91fd466250bfdf6788b9a0fa10a59b98f2743274c1ae614f86fb47e", func := "loop.example/pub-g03335/laws.FnOptionalSkip", spec := "fnOptionalSkip", apart := false, narrowed := true }
def FnOptionalSkipUptoSaid : Prop := fnOptionalSkipUptoRow.holds Try.pinned (OpenSpec.upto fnOptionalSkipSpec)

/-- 'laws.FnExactReadOptionalOctets', WHERE WHAT IT READS IS OF BULK AT MOST 1048576: true; the input reads as it did. -/
def fnExactReadOptionalOctetsUptoRow : OpenClaim := { program := "ythlnlbofbinjhaa", sum := "d60d2b3df91fd466250bfdf6788b9a0fa10a59b98f2743274c1ae614f86fb47e", func := "loop.example/pub-g03335/laws.FnExactReadOptionalOctets", spec := "fnExactReadOptionalOctets", apart := false, narrowed := true }
def FnExactReadOptionalOctetsUptoSaid : Prop := fnExactReadOptionalOctetsUptoRow.holds Try.pinned (OpenSpec.upto fnExactReadOptionalOctetsSpec)

/-- 'laws.FnExactReadBool', WHERE WHAT IT READS IS OF BULK AT MOST 1048576: true; the input reads as it did. -/
def fnExactReadBoolUptoRow : OpenClaim := { program := "ythlnlbofbinjhaa", sum := "d60d2b3df91fd466250bfdf6788b9a0fa10a59b98f2743274c1ae614f86fb47e", func := "loop.example/pub-g03335/laws.FnExactReadBool", spec := "fnExactReadBool", apart := false, narrowed := true }
def FnExactReadBoolUptoSaid : Prop := fnExactReadBoolUptoRow.holds Try.pinned (OpenSpec.upto fnExactReadBoolSpec)

end Rows
end Go.Proofs.Ythlnlbofbinjhaa
