/- Closed facts of the law FnTakenBack, each by the kernel. -/
import Derived.Test.YtlpmjahhdbcfiaaRows
import Derived.WalkKit
import Derived.ProofKit
namespace Go.Proofs.Ytlpmjahhdbcfiaa.Closed
theorem hfn : Try.pinned.checked.prog.funcNamed Rows.fnTakenBackRow.func = some 7 := by kernel_rfl
theorem closed : joinedFacts Try.pinned.checked.prog 7 Try.f7 Rows.fnTakenBackSpec Rows.fnTakenBackRow = true := by kernel_rfl
theorem hinst : Try.f7.isInstance Try.pinned.checked.prog Rows.fnTakenBackRow.origin Rows.fnTakenBackRow.targs := of_decide_eq_true (by kernel_rfl)
theorem hwrap : Try.f7.isWrapper Try.pinned.checked.prog Rows.fnTakenBackRow.wrapper Rows.fnTakenBackRow.mainSum := by
  unfold Func.isWrapper
  first | (rw [if_pos (by decide +kernel)]; kernel_rfl) | (rw [if_neg (by decide +kernel)]; exact ⟨rfl, rfl⟩)
theorem own : ownKnob Try.prog.godebug = none := by kernel_rfl
theorem laidOut : laidOutB Try.prog = true := by kernel_rfl
end Go.Proofs.Ytlpmjahhdbcfiaa.Closed
