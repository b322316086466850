/- The reference's FirstOf: contract; cuts of a slice as one operation. -/
import Derived.Test.YtlnoeipbbncnfaaSpec2
namespace Go.Proofs.Ytlnoeipbbncnfaa
open Go.RowKit

/-- 's[lo:hi]' and 's[lo:]' as one step, whatever the capacity. -/
theorem run_cut2 (w : World) (A : Option Addr) (n c lo hi : Nat) (h1 : lo ≤ hi) (h2 : hi ≤ c) :
    (Instr.slice 22 (.slice A n c) (some (.int .i64 (lo : Int))) (some (.int .i64 (hi : Int))) none).run Try.prog w = .ok (.slice (cutA A c lo) (hi - lo) (c - lo)) w := by
  have hs : (Try.prog.info? 5).map (·.size) = some 1 := by kernel_rfl
  obtain ⟨i, hi', hsz⟩ : ∃ i, Try.prog.info? 5 = some i ∧ i.size = 1 := by
    cases h : Try.prog.info? 5 with
    | none => rw [h] at hs; cases hs
    | some i => rw [h] at hs; exact ⟨i, rfl, by simpa using hs⟩
  unfold Instr.slice
  simp [run_underlying Try.underlying22, Instr.sliceBounds, Instr.sliceBound, asIntOf, h1, h2, sizeOf, typeInfo, hi', hsz, cutA]
theorem run_cut1 (w : World) (A : Option Addr) (n c lo : Nat) (h1 : lo ≤ n) :
    (Instr.slice 22 (.slice A n c) (some (.int .i64 (lo : Int))) none none).run Try.prog w = .ok (.slice (cutA A c lo) (n - lo) (c - lo)) w := by
  have hs : (Try.prog.info? 5).map (·.size) = some 1 := by kernel_rfl
  obtain ⟨i, hi', hsz⟩ : ∃ i, Try.prog.info? 5 = some i ∧ i.size = 1 := by
    cases h : Try.prog.info? 5 with
    | none => rw [h] at hs; cases hs
    | some i => rw [h] at hs; exact ⟨i, rfl, by simpa using hs⟩
  unfold Instr.slice
  simp [run_underlying Try.underlying22, Instr.sliceBounds, Instr.sliceBound, asIntOf, h1, sizeOf, typeInfo, hi', hsz, cutA]

/-- What the reference's FirstOf tells. -/
def FirstOfSaid (w : World) (B : Nat) (xs : List Int) (tag : Int) (e : Ending) (w' : World) : Prop :=
  Only [] w w' ∧ match firstOf xs tag with
  | some (c, r) => ∃ A k A' k', e = .returned (.tuple #[.slice A c.length k, .slice A' r.length k', .bool true]) ∧ c.length ≤ k ∧ r.length ≤ k' ∧ k ≤ maxLen ∧ k' ≤ maxLen ∧ Rd w' B A c ∧ Rd w' B A' r
  | none => e = .returned (.tuple #[.slice none 0 0, .slice none 0 0, .bool false])

theorem firstOf_any (A : Option Addr) (n c : Nat) (xs : List Int) (tag : Int) (w : World) (B : Nat) (h : Rd w B A xs) (hn : n = xs.length) (hnc : n ≤ c) (hcm : c ≤ maxLen) (hBw : B ≤ w.heap.size) (hb : xs.length ≤ 4194304) :
    Calls Try.prog 8 #[.slice A n c, .int .i64 tag] w (FirstOfSaid w B xs tag) := by
  have H := Lib.hid (first_any A n c xs w B h hn hnc hBw hb)
  have HR := Lib.hid h
  have HN := Lib.hid hn
  have HNC := Lib.hid hnc
  have HCM := Lib.hid hcm
  have HB := Lib.hid hBw
  clear h hn hnc hBw hb hcm
  cases hf : first xs with
  | none =>
    have HQ : Hid (∀ w', Only [] w w' → FirstOfSaid w B xs tag (.returned (.tuple #[.slice none 0 0, .slice none 0 0, .bool false])) w') := Lib.hid (by
      intro w' ho
      unfold FirstOfSaid firstOf
      rw [hf]
      exact ⟨ho, rfl⟩)
    have HF := Lib.hid hf
    clear hf
    go_enter Try.func8, Try.ntmps8
    go_wp2_with fail
    refine H.out.mono ?_
    intro e w1 hF
    unfold FirstSaid at hF
    rw [HF.out] at hF
    obtain ⟨hk, rfl⟩ := hF
    have K := Lib.hid hk
    clear hk H
    go_wp2_with fail
    go_ret3
    exact HQ.out _ (K.out.alloc _)
  | some q =>
    obtain ⟨t, hd, m⟩ := q
    obtain ⟨f1, f2, f3, f4, f5, f6⟩ := first_le hf
    clear f4 f5 f6
    by_cases ht : t = tag
    · have HQ : Hid (∀ w', Only [] w w' → FirstOfSaid w B xs tag (.returned (.tuple #[.slice (cutA A c hd) (m - hd) (c - hd), .slice (cutA A c m) (n - m) (c - m), .bool true])) w') := Lib.hid (by
        intro w' ho
        have hr := HR.out.only ho (by simp) HB.out
        have hcap : xs.length ≤ c := by have := HN.out; have := HNC.out; omega
        unfold FirstOfSaid firstOf
        rw [hf]
        simp only [ht, if_true]
        have e1 : ((xs.take m).drop hd).length = m - hd := by simp; omega
        have e2 : (xs.drop m).length = n - m := by have := HN.out; simp; omega
        refine ⟨ho, cutA A c hd, c - hd, cutA A c m, c - m, by rw [e1, e2], by rw [e1]; omega, by rw [e2]; have := HNC.out; omega, by have := HCM.out; unfold maxLen at *; omega, by have := HCM.out; unfold maxLen at *; omega, ?_, hr.cut hcap⟩
        have := (hr.cut (k := hd) hcap).take (m - hd)
        rwa [← List.drop_take] at this)
      have HF := Lib.hid hf
      have hmc : m ≤ c := by have := HN.out; have := HNC.out; omega
      have hmn : m ≤ n := by have := HN.out; omega
      have s1 := fun w => run_cut2 w A n c hd m f2 hmc
      have s2 := fun w => run_cut1 w A n c m hmn
      have hq : (t != tag) = false := by simp [ht]
      clear hf f1 f2 f3 ht hmc hmn
      go_enter Try.func8, Try.ntmps8
      go_wp2_with fail
      refine H.out.mono ?_
      intro e w1 hF
      unfold FirstSaid at hF
      rw [HF.out] at hF
      obtain ⟨hk, rfl⟩ := hF
      have K := Lib.hid hk
      clear hk H
      go_wp2_with fail
      go_quiet (fail)
      go_wp2_with fail
      go_ret3
      exact HQ.out _ ((K.out.alloc _).drewN _)
    · have HQ : Hid (∀ w', Only [] w w' → FirstOfSaid w B xs tag (.returned (.tuple #[.slice none 0 0, .slice none 0 0, .bool false])) w') := Lib.hid (by
        intro w' ho
        unfold FirstOfSaid firstOf
        rw [hf]
        simp only [ht, if_false]
        exact ⟨ho, by first | rfl | trivial⟩)
      have HF := Lib.hid hf
      have hq : (t != tag) = true := by simp [ht]
      clear hf f1 f2 f3 ht
      go_enter Try.func8, Try.ntmps8
      go_wp2_with fail
      refine H.out.mono ?_
      intro e w1 hF
      unfold FirstSaid at hF
      rw [HF.out] at hF
      obtain ⟨hk, rfl⟩ := hF
      have K := Lib.hid hk
      clear hk H
      go_wp2_with fail
      go_ret3
      exact HQ.out _ (K.out.alloc _)

end Go.Proofs.Ytlnoeipbbncnfaa
