/- Closed facts of the law FnExactBuildOn, each by the kernel. -/
import Derived.Test.YtlpmjahhdbcfiaaRows
import Derived.WalkKit
import Derived.ProofKit
namespace Go.Proofs.Ytlpmjahhdbcfiaa.Closed
theorem hfn : Try.pinned.checked.prog.funcNamed Rows.fnExactBuildOnRow.func = some 4 := by kernel_rfl
theorem closed : joinedFacts Try.pinned.checked.prog 4 Try.f4 Rows.fnExactBuildOnSpec Rows.fnExactBuildOnRow = true := by kernel_rfl
theorem hinst : Try.f4.isInstance Try.pinned.checked.prog Rows.fnExactBuildOnRow.origin Rows.fnExactBuildOnRow.targs := of_decide_eq_true (by kernel_rfl)
theorem hwrap : Try.f4.isWrapper Try.pinned.checked.prog Rows.fnExactBuildOnRow.wrapper Rows.fnExactBuildOnRow.mainSum := by
  unfold Func.isWrapper
  first | (rw [if_pos (by decide +kernel)]; kernel_rfl) | (rw [if_neg (by decide +kernel)]; exact ⟨rfl, rfl⟩)
theorem own : ownKnob Try.prog.godebug = none := by kernel_rfl
theorem laidOut : laidOutB Try.prog = true := by kernel_rfl
end Go.Proofs.Ytlpmjahhdbcfiaa.Closed
