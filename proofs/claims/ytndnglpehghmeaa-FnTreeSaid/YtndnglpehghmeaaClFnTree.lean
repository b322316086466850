/- Closed facts of the law FnTree, each by the kernel. -/
import Derived.Test.YtndnglpehghmeaaRows
import Derived.WalkKit
import Derived.ProofKit
namespace Go.Proofs.Ytndnglpehghmeaa.Closed
theorem hfn : Try.pinned.checked.prog.funcNamed Rows.fnTreeRow.func = some 3 := by kernel_rfl
theorem closed : joinedFacts Try.pinned.checked.prog 3 Try.f3 Rows.fnTreeSpec Rows.fnTreeRow = true := by kernel_rfl
theorem hinst : Try.f3.isInstance Try.pinned.checked.prog Rows.fnTreeRow.origin Rows.fnTreeRow.targs := of_decide_eq_true (by kernel_rfl)
theorem hwrap : Try.f3.isWrapper Try.pinned.checked.prog Rows.fnTreeRow.wrapper Rows.fnTreeRow.mainSum := by
  unfold Func.isWrapper
  first | (rw [if_pos (by decide +kernel)]; kernel_rfl) | (rw [if_neg (by decide +kernel)]; exact ⟨rfl, rfl⟩)
theorem own : ownKnob Try.prog.godebug = none := by kernel_rfl
theorem laidOut : laidOutB Try.prog = true := by kernel_rfl
end Go.Proofs.Ytndnglpehghmeaa.Closed
