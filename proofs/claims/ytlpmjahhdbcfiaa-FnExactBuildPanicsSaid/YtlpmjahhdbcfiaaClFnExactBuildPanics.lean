/- Closed facts of the law FnExactBuildPanics, each by the kernel. -/
import Derived.Test.YtlpmjahhdbcfiaaRows
import Derived.WalkKit
import Derived.ProofKit
namespace Go.Proofs.Ytlpmjahhdbcfiaa.Closed
theorem hfn : Try.pinned.checked.prog.funcNamed Rows.fnExactBuildPanicsRow.func = some 3 := by kernel_rfl
theorem closed : joinedFacts Try.pinned.checked.prog 3 Try.f3 Rows.fnExactBuildPanicsSpec Rows.fnExactBuildPanicsRow = true := by kernel_rfl
theorem hinst : Try.f3.isInstance Try.pinned.checked.prog Rows.fnExactBuildPanicsRow.origin Rows.fnExactBuildPanicsRow.targs := of_decide_eq_true (by kernel_rfl)
theorem hwrap : Try.f3.isWrapper Try.pinned.checked.prog Rows.fnExactBuildPanicsRow.wrapper Rows.fnExactBuildPanicsRow.mainSum := by
  unfold Func.isWrapper
  first | (rw [if_pos (by decide +kernel)]; kernel_rfl) | (rw [if_neg (by decide +kernel)]; exact ⟨rfl, rfl⟩)
theorem own : ownKnob Try.prog.godebug = none := by kernel_rfl
theorem laidOut : laidOutB Try.prog = true := by kernel_rfl
end Go.Proofs.Ytlpmjahhdbcfiaa.Closed
