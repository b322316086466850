/- Closed facts of the law FnBuildSplit, each by the kernel. -/
import Derived.Test.YtlpmjahhdbcfiaaRows
import Derived.WalkKit
import Derived.ProofKit
namespace Go.Proofs.Ytlpmjahhdbcfiaa.Closed
theorem hfn : Try.pinned.checked.prog.funcNamed Rows.fnBuildSplitRow.func = some 5 := by kernel_rfl
theorem closed : joinedFacts Try.pinned.checked.prog 5 Try.f5 Rows.fnBuildSplitSpec Rows.fnBuildSplitRow = true := by kernel_rfl
theorem hinst : Try.f5.isInstance Try.pinned.checked.prog Rows.fnBuildSplitRow.origin Rows.fnBuildSplitRow.targs := of_decide_eq_true (by kernel_rfl)
theorem hwrap : Try.f5.isWrapper Try.pinned.checked.prog Rows.fnBuildSplitRow.wrapper Rows.fnBuildSplitRow.mainSum := by
  unfold Func.isWrapper
  first | (rw [if_pos (by decide +kernel)]; kernel_rfl) | (rw [if_neg (by decide +kernel)]; exact ⟨rfl, rfl⟩)
theorem own : ownKnob Try.prog.godebug = none := by kernel_rfl
theorem laidOut : laidOutB Try.prog = true := by kernel_rfl
end Go.Proofs.Ytlpmjahhdbcfiaa.Closed
