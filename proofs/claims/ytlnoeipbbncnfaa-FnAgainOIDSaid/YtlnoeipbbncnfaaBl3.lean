/- The call of a continuation: contracts. -/
import Derived.Test.YtlnoeipbbncnfaaBl2
import Derived.Defers
import Derived.Recover
import Derived.Laws.Pointers
namespace Go.Proofs.Ytlnoeipbbncnfaa
open Go.RowKit

/-- The deferred closure where nothing panics: the mark is taken back. -/
theorem cc_idle (pb b bi : Nat) (v : Bv) (y : Bool) (w : World) (hp : Var w pb 51 (.pointer (some ⟨b, 0, none⟩))) (h : Bld w b v) (hi : v.inc = .pointer (some ⟨bi, 0, none⟩)) (hv : Var w bi 4 (.bool y)) :
    CallsD Try.prog 47 #[.pointer (some ⟨pb, 0, none⟩)] .returning w fun e u' w' =>
      e = .returned (.tuple #[]) ∧ u' = .returning ∧ w' = w.setCell ⟨bi, 0, none⟩ (.bool false) := by
  have h7 := h.c7
  rw [hi] at h7
  have hc := hv.cell
  have hf := hv.free
  have hpc := hp.cell
  clear hp h hi hv
  refine callsD_of_wpS Try.func47 rfl fun c₀ cs hu => ?_
  apply wpS_seq
  apply wpS_region
  simp [wpOpsS, go_sem, recoverD, hu, Try.ntmps47, Exit.thenS, hpc, h7, hc, hf]
  apply wpS_seq
  apply wpS_region
  simp [wpOpsS, go_sem, recoverD, hu, Exit.thenS]
  apply wpS_seq
  apply wpS_seq
  apply wpS_region
  simp [wpOpsS, go_sem, Exit.thenS]
  refine wpS_cond (t := true) (by simp [Act.eval, Array.replicate]) ?_
  simp only [if_true]
  refine wpS_of_wp (wp_ret ?_)
  cases c₀
  simp_all [bodyPostS, results, Try.results47, Exit.thenS]

theorem BcallCont_top {Q : World → Prop} (b c bi : Nat) (F : FuncId) (cap : Array Value) (v : Bv) (w : World) (hF : ∀ args W, (callFunc F args).run Try.prog W = .ok (.enter F args) W) (h : Bld w b v) (hi : v.inc = .pointer (some ⟨bi, 0, none⟩)) (hv : Var w bi 4 (.bool false))
    (hf : Calls Try.prog F (#[.pointer (some ⟨c, 0, none⟩)] ++ cap) ((w.setCell ⟨bi, 0, none⟩ (.bool true)).alloc (.cells #[.pointer (some ⟨b, 0, none⟩)] 51)) fun e w' => e = .returned (.tuple #[]) ∧ Q w')
    (hq : ∀ w', Q w' → Var w' w.heap.size 51 (.pointer (some ⟨b, 0, none⟩)) ∧ (∃ v', Bld w' b v' ∧ v'.inc = .pointer (some ⟨bi, 0, none⟩)) ∧ ∃ y, Var w' bi 4 (.bool y)) :
    Calls Try.prog 42 #[.pointer (some ⟨b, 0, none⟩), .func (.func F) #[] cap, .pointer (some ⟨c, 0, none⟩)] w fun e w' => e = .returned (.tuple #[]) ∧ ∃ w1, Q w1 ∧ w' = w1.setCell ⟨bi, 0, none⟩ (.bool false) := by
  have hmf : ∀ (fn : Fn) (first cap : Array Value) (w : World), (Instr.makeFunc fn first cap).run Try.prog w = .ok (.func fn first cap) w := fun _ _ _ _ => rfl
  have h7 := h.c7
  rw [hi] at h7
  have hc := hv.cell
  have hfz := hv.free
  have HF := Lib.hid hf
  have HQ := Lib.hid hq
  have hb := h.lt
  have hbi := hv.lt
  clear hf hq h hi hv
  go_enter_defers Try.func42, Try.ntmps42
  go_wp2_with fail
  refine HF.out.mono ?_
  rintro e w1 ⟨rfl, q1⟩
  obtain ⟨p1, ⟨v', p2, p3⟩, y, p4⟩ := HQ.out _ q1
  have Q1 := Lib.hid q1
  have P := Lib.hid (cc_idle w.heap.size b bi v' y w1 p1 p2 p3 p4)
  clear q1 p1 p2 p3 p4 HF HQ
  go_wp2_with fail
  refine leaves_cons (f := 47) (args := #[.pointer (some ⟨w.heap.size, 0, none⟩)]) (by simp) (by simp [go_sem]) ?_
  refine P.out.mono ?_
  rintro e u' w'' ⟨rfl, rfl, rfl⟩
  exact ⟨_, results_none rfl _ _ _, rfl, w1, Q1.out, rfl⟩
end Go.Proofs.Ytlnoeipbbncnfaa
