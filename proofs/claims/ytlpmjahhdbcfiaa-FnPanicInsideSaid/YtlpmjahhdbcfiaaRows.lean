/-
  NARROWER THAN 'FOR EVERY INPUT', by the rows' own cells (each row's printed sentence says how): FnExactBuildPanics: loops · FnExactBuildOn: loops · FnBuildSplit: loops · FnPanicInside: loops · FnTakenBack: loops.
  DERIVED. THE GIVEN ROWS OF THIS SEAT. 5 by the template 'for every input the law returns true; each argument reads behind the call as it read before'; 0 by the template 'total and deterministic' (their statements: YtlpmjahhdbcfiaaTotals.lean).
  GIVEN WITH THE SEED: the statements are not yours to turn. If you find one false, say at which input.
  Laid BY PROGRAM, IN A SANDBOX (cutbox-rows.mjs): the forced cells as the released guide's own fill.sh prints them over the translation 9af352e9e33d0fb7… (all of the seat's roots in one cut). By AI agents, Wed Nov 11 2026. No macro, syntax, notation, axiom, sorry.
-/
import Derived.Test.YtlpmjahhdbcfiaaChecked
import GoSem.Claim
import GoSem.ClaimJoined
import GoSem.ClaimMapViews
import Derived.JoinedTies
import Derived.KernelRfl
namespace Go.Proofs.Ytlpmjahhdbcfiaa
/- THE CELL 'sum', in the pinned program and in every row, IS THE sha256 OF THE DUMP (.gsa) THAT YtlpmjahhdbcfiaaProg.lean LOADS. Nothing in Lean hashes anything: it is a label: what it is worth is what the hold of that sum in a sandbox is worth. -/
noncomputable def Try.pinned : Pinned := { name := "ytlpmjahhdbcfiaa", sum := "9af352e9e33d0fb71ec36e3927362734330c8f6709f47f64938a7be4272e2d18", checked := Try.checked }
namespace Rows
def none {H : Type} : Left H := { results := [], args := [] }

/-- 'laws.FnExactBuildPanics': WHATEVER THE INPUT: true; the input reads as it did. -/
def fnExactBuildPanicsSpec : ChangeSpec := { name := "fnExactBuildPanics", fn := fun _ => fun
  | [d] => { results := [.lit (.bool true)], args := [d] }
  | _ => none }
def fnExactBuildPanicsRow : OpenClaim := { program := "ytlpmjahhdbcfiaa", sum := "9af352e9e33d0fb71ec36e3927362734330c8f6709f47f64938a7be4272e2d18", func := "loop.example/pub-g03335/laws.FnExactBuildPanics", spec := "fnExactBuildPanics", unfollowed := true, recurses := true, loops := true, apart := false }
def FnExactBuildPanicsSaid : Prop := fnExactBuildPanicsRow.holds Try.pinned (OpenSpec.ofChange fnExactBuildPanicsSpec)

/-- ITS FALSE NEIGHBOUR: 'it returns false'. Refute it at one input. -/
def fnExactBuildPanicsWrong : ChangeSpec := { name := "fnExactBuildPanics", fn := fun _ => fun
  | [d] => { results := [.lit (.bool false)], args := [d] }
  | _ => none }
def FnExactBuildPanicsWrongFalsely : Prop := fnExactBuildPanicsRow.holds Try.pinned (OpenSpec.ofChange fnExactBuildPanicsWrong)

/-- 'laws.FnExactBuildOn': WHATEVER THE INPUT: true; the input reads as it did. -/
def fnExactBuildOnSpec : ChangeSpec := { name := "fnExactBuildOn", fn := fun _ => fun
  | [d1, d2] => { results := [.lit (.bool true)], args := [d1, d2] }
  | _ => none }
def fnExactBuildOnRow : OpenClaim := { program := "ytlpmjahhdbcfiaa", sum := "9af352e9e33d0fb71ec36e3927362734330c8f6709f47f64938a7be4272e2d18", func := "loop.example/pub-g03335/laws.FnExactBuildOn", spec := "fnExactBuildOn", unfollowed := true, recurses := true, loops := true, apart := false }
def FnExactBuildOnSaid : Prop := fnExactBuildOnRow.holds Try.pinned (OpenSpec.ofChange fnExactBuildOnSpec)

/-- ITS FALSE NEIGHBOUR: 'it returns false'. Refute it at one input. -/
def fnExactBuildOnWrong : ChangeSpec := { name := "fnExactBuildOn", fn := fun _ => fun
  | [d1, d2] => { results := [.lit (.bool false)], args := [d1, d2] }
  | _ => none }
def FnExactBuildOnWrongFalsely : Prop := fnExactBuildOnRow.holds Try.pinned (OpenSpec.ofChange fnExactBuildOnWrong)

/-- 'laws.FnBuildSplit': WHATEVER THE INPUT: true; the input reads as it did. -/
def fnBuildSplitSpec : ChangeSpec := { name := "fnBuildSplit", fn := fun _ => fun
  | [d1, d2] => { results := [.lit (.bool true)], args := [d1, d2] }
  | _ => none }
def fnBuildSplitRow : OpenClaim := { program := "ytlpmjahhdbcfiaa", sum := "9af352e9e33d0fb71ec36e3927362734330c8f6709f47f64938a7be4272e2d18", func := "loop.example/pub-g03335/laws.FnBuildSplit", spec := "fnBuildSplit", unfollowed := true, recurses := true, loops := true, apart := false }
def FnBuildSplitSaid : Prop := fnBuildSplitRow.holds Try.pinned (OpenSpec.ofChange fnBuildSplitSpec)

/-- ITS FALSE NEIGHBOUR: 'it returns false'. Refute it at one input. -/
def fnBuildSplitWrong : ChangeSpec := { name := "fnBuildSplit", fn := fun _ => fun
  | [d1, d2] => { results := [.lit (.bool false)], args := [d1, d2] }
  | _ => none }
def FnBuildSplitWrongFalsely : Prop := fnBuildSplitRow.holds Try.pinned (OpenSpec.ofChange fnBuildSplitWrong)

/-- 'laws.FnPanicInside': WHATEVER THE INPUT: true; the input reads as it did. -/
def fnPanicInsideSpec : ChangeSpec := { name := "fnPanicInside", fn := fun _ => fun
  | [d1, d2] => { results := [.lit (.bool true)], args := [d1, d2] }
  | _ => none }
def fnPanicInsideRow : OpenClaim := { program := "ytlpmjahhdbcfiaa", sum := "9af352e9e33d0fb71ec36e3927362734330c8f6709f47f64938a7be4272e2d18", func := "loop.example/pub-g03335/laws.FnPanicInside", spec := "fnPanicInside", unfollowed := true, recurses := true, loops := true, apart := false }
def FnPanicInsideSaid : Prop := fnPanicInsideRow.holds Try.pinned (OpenSpec.ofChange fnPanicInsideSpec)

/-- ITS FALSE NEIGHBOUR: 'it returns false'. Refute it at one input. -/
def fnPanicInsideWrong : ChangeSpec := { name := "fnPanicInside", fn := fun _ => fun
  | [d1, d2] => { results := [.lit (.bool false)], args := [d1, d2] }
  | _ => none }
def FnPanicInsideWrongFalsely : Prop := fnPanicInsideRow.holds Try.pinned (OpenSpec.ofChange fnPanicInsideWrong)

/-- 'laws.FnTakenBack': WHATEVER THE INPUT: true; the input reads as it did. -/
def fnTakenBackSpec : ChangeSpec := { name := "fnTakenBack", fn := fun _ => fun
  | [d1, d2] => { results := [.lit (.bool true)], args := [d1, d2] }
  | _ => none }
def fnTakenBackRow : OpenClaim := { program := "ytlpmjahhdbcfiaa", sum := "9af352e9e33d0fb71ec36e3927362734330c8f6709f47f64938a7be4272e2d18", func := "loop.example/pub-g03335/laws.FnTakenBack", spec := "fnTakenBack", unfollowed := true, recurses := true, loops := true, apart := false }
def FnTakenBackSaid : Prop := fnTakenBackRow.holds Try.pinned (OpenSpec.ofChange fnTakenBackSpec)

/-- ITS FALSE NEIGHBOUR: 'it returns false'. Refute it at one input. -/
def fnTakenBackWrong : ChangeSpec := { name := "fnTakenBack", fn := fun _ => fun
  | [d1, d2] => { results := [.lit (.bool false)], args := [d1, d2] }
  | _ => none }
def FnTakenBackWrongFalsely : Prop := fnTakenBackRow.holds Try.pinned (OpenSpec.ofChange fnTakenBackWrong)

/- THE SECOND FORM. 'bulk': how many values and letters a reading holds, each counted each time it is reached (what is shared counts as often as it is met; a slice's spare places count too). A statement '..UptoSaid' is the law's where the arguments, and the package variables that the reading takes, are together of bulk at most 1048576: NARROWER than '..Said'. Prove '..Said' where nothing that the law and all that it calls make is longer than what came in: it says more and counts as full. Else prove '..UptoSaid'. A law counts once. -/
mutual
def uptoBulk {H : Type} : DataW H → Nat
  | .lit (.string bytes) => bytes.length + 1
  | .lit _ => 1
  | .nil => 1
  | .ptr d => uptoBulk d + 1
  | .slice elems spare => uptoBulkAll elems + uptoBulkAll spare + 1
  | .agg parts => uptoBulkAll parts + 1
  | .iface _ d => uptoBulk d + 1
  | .map entries => uptoBulkEntries entries + 1
  | .held _ => 1
def uptoBulkAll {H : Type} : List (DataW H) → Nat
  | [] => 0
  | d :: r => uptoBulk d + uptoBulkAll r
def uptoBulkEntries {H : Type} : List (Lit × DataW H) → Nat
  | [] => 0
  | x :: r => uptoBulkEntry x + uptoBulkEntries r
def uptoBulkEntry {H : Type} : Lit × DataW H → Nat
  | (.string bytes, d) => bytes.length + uptoBulk d + 1
  | (_, d) => uptoBulk d + 1
 end
def uptoSmall : (H : Type) → List (DataW H) → Bool := fun _ ds => decide (uptoBulkAll ds ≤ 1048576)
def OpenSpec.upto (s : _root_.Go.ChangeSpec) : _root_.Go.OpenSpec := { _root_.Go.OpenSpec.ofChange s with cond := some uptoSmall }

/-- 'laws.FnExactBuildPanics', WHERE WHAT IT READS IS OF BULK AT MOST 1048576: true; the input reads as it did. -/
def fnExactBuildPanicsUptoRow : OpenClaim := { program := "ytlpmjahhdbcfiaa", sum := "9af352e9e33d0fb71ec36e3927362734330c8f6709f47f64938a7be4272e2d18", func := "loop.example/pub-g03335/laws.FnExactBuildPanics", spec := "fnExactBuildPanics", unfollowed := true, recurses := true, loops := true, apart := false, narrowed := true }
def FnExactBuildPanicsUptoSaid : Prop := fnExactBuildPanicsUptoRow.holds Try.pinned (OpenSpec.upto fnExactBuildPanicsSpec)

/-- 'laws.FnExactBuildOn', WHERE WHAT IT READS IS OF BULK AT MOST 1048576: true; the input reads as it did. -/
def fnExactBuildOnUptoRow : OpenClaim := { program := "ytlpmjahhdbcfiaa", sum := "9af352e9e33d0fb71ec36e3927362734330c8f6709f47f64938a7be4272e2d18", func := "loop.example/pub-g03335/laws.FnExactBuildOn", spec := "fnExactBuildOn", unfollowed := true, recurses := true, loops := true, apart := false, narrowed := true }
def FnExactBuildOnUptoSaid : Prop := fnExactBuildOnUptoRow.holds Try.pinned (OpenSpec.upto fnExactBuildOnSpec)

/-- 'laws.FnBuildSplit', WHERE WHAT IT READS IS OF BULK AT MOST 1048576: true; the input reads as it did. -/
def fnBuildSplitUptoRow : OpenClaim := { program := "ytlpmjahhdbcfiaa", sum := "9af352e9e33d0fb71ec36e3927362734330c8f6709f47f64938a7be4272e2d18", func := "loop.example/pub-g03335/laws.FnBuildSplit", spec := "fnBuildSplit", unfollowed := true, recurses := true, loops := true, apart := false, narrowed := true }
def FnBuildSplitUptoSaid : Prop := fnBuildSplitUptoRow.holds Try.pinned (OpenSpec.upto fnBuildSplitSpec)

/-- 'laws.FnPanicInside', WHERE WHAT IT READS IS OF BULK AT MOST 1048576: true; the input reads as it did. -/
def fnPanicInsideUptoRow : OpenClaim := { program := "ytlpmjahhdbcfiaa", sum := "9af352e9e33d0fb71ec36e3927362734330c8f6709f47f64938a7be4272e2d18", func := "loop.example/pub-g03335/laws.FnPanicInside", spec := "fnPanicInside", unfollowed := true, recurses := true, loops := true, apart := false, narrowed := true }
def FnPanicInsideUptoSaid : Prop := fnPanicInsideUptoRow.holds Try.pinned (OpenSpec.upto fnPanicInsideSpec)

/-- 'laws.FnTakenBack', WHERE WHAT IT READS IS OF BULK AT MOST 1048576: true; the input reads as it did. -/
def fnTakenBackUptoRow : OpenClaim := { program := "ytlpmjahhdbcfiaa", sum := "9af352e9e33d0fb71ec36e3927362734330c8f6709f47f64938a7be4272e2d18", func := "loop.example/pub-g03335/laws.FnTakenBack", spec := "fnTakenBack", unfollowed := true, recurses := true, loops := true, apart := false, narrowed := true }
def FnTakenBackUptoSaid : Prop := fnTakenBackUptoRow.holds Try.pinned (OpenSpec.upto fnTakenBackSpec)

end Rows
end Go.Proofs.Ytlpmjahhdbcfiaa
