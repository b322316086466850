/- Integers, truths, strings of bits added: contracts. -/
import Derived.Test.YtlnoeipbbncnfaaBl9
namespace Go.Proofs.Ytlnoeipbbncnfaa
open Go.RowKit

/-- A fresh variable stays, whatever a builder's continuation does. -/
theorem fresh_holds {w : World} {b base : Nat} {v : Bv} {ys : List Int} (h : Bld w b v) (hr : Row w base v.res ys) (val : Value) (T : TypeId) : ∀ W, Only (b :: own v.res) (w.alloc (.cells #[val] T)) W → Var W w.heap.size T val := by
  intro W ho
  refine (Var.new w _ _).only ho ?_
  simp only [List.mem_cons, not_or]
  refine ⟨fun e => by have := h.lt; omega, ?_⟩
  intro hm
  rcases hr.2.2 with ⟨e, _⟩ | ⟨g, _, _, e, _, hg, _⟩
  · rw [e] at hm; simp [own, Value.ownBlock] at hm
  · rw [e] at hm
    simp [own, Value.ownBlock] at hm
    have := lt_of_block hg
    omega













end Go.Proofs.Ytlnoeipbbncnfaa
