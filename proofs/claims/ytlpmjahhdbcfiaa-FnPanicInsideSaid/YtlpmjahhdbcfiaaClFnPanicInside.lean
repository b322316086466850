/- Closed facts of the law FnPanicInside, each by the kernel. -/
import Derived.Test.YtlpmjahhdbcfiaaRows
import Derived.WalkKit
import Derived.ProofKit
namespace Go.Proofs.Ytlpmjahhdbcfiaa.Closed
theorem hfn : Try.pinned.checked.prog.funcNamed Rows.fnPanicInsideRow.func = some 6 := by kernel_rfl
theorem closed : joinedFacts Try.pinned.checked.prog 6 Try.f6 Rows.fnPanicInsideSpec Rows.fnPanicInsideRow = true := by kernel_rfl
theorem hinst : Try.f6.isInstance Try.pinned.checked.prog Rows.fnPanicInsideRow.origin Rows.fnPanicInsideRow.targs := of_decide_eq_true (by kernel_rfl)
theorem hwrap : Try.f6.isWrapper Try.pinned.checked.prog Rows.fnPanicInsideRow.wrapper Rows.fnPanicInsideRow.mainSum := by
  unfold Func.isWrapper
  first | (rw [if_pos (by decide +kernel)]; kernel_rfl) | (rw [if_neg (by decide +kernel)]; exact ⟨rfl, rfl⟩)
theorem own : ownKnob Try.prog.godebug = none := by kernel_rfl
theorem laidOut : laidOutB Try.prog = true := by kernel_rfl
end Go.Proofs.Ytlpmjahhdbcfiaa.Closed
