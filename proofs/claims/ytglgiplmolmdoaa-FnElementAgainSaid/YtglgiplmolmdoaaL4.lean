/- The laws on reading whole elements: walks. -/
import Derived.Test.YtglgiplmolmdoaaIm3
import Derived.Test.YtglgiplmolmdoaaSpec2
import Derived.Test.YtglgiplmolmdoaaL2
namespace Go.Proofs.Ytglgiplmolmdoaa
open Go.RowKit

theorem isElement_any (A : Option Addr) (n c : Nat) (xs : List Int) (w : World) (B : Nat) (h : Rd w B A xs) (hn : n = xs.length) (hnc : n ≤ c) (hBw : B ≤ w.heap.size) (hb : xs.length ≤ 1048576) :
    Calls Try.prog 31 #[.slice A n c] w fun e w' => e = .returned (.bool (first xs).isSome) ∧ Only [] w w' := by
  have H := Lib.hid (first_any A n c xs w B h hn hnc hBw hb)
  clear h hn hnc hBw hb
  go_enter Try.func31, Try.ntmps31
  go_wp2_with fail
  refine H.out.mono ?_
  intro e w1 hF
  unfold FirstSaid at hF
  obtain ⟨hk, hF⟩ := hF
  have K := Lib.hid hk
  revert hF
  clear hk H
  cases hf : first xs with
  | none =>
    intro hF
    subst hF
    have HQ := Lib.hid hf
    clear hf
    go_wp2_with fail
    go_ret
    exact ⟨by rw [HQ.out]; rfl, K.out.alloc _⟩
  | some q =>
    obtain ⟨t, h, m⟩ := q
    intro hF
    subst hF
    have HQ := Lib.hid hf
    clear hf
    go_wp2_with fail
    go_ret
    exact ⟨by rw [HQ.out]; rfl, K.out.alloc _⟩

theorem law_FnExactReadAnyElement (A : Option Addr) (n c : Nat) (xs : List Int) (w : World) (h : Rd w w.heap.size A xs) (hn : n = xs.length) (hc : n ≤ c) (_hcm : c ≤ maxLen) :
    Calls Try.prog 13 #[.slice A n c] w fun e w' => e = .returned (.bool true) ∧ Below w.heap.size w w' := by
  by_cases hbig : 1048576 < n
  · clear h hn
    have F := fun w => fits_no A n c w hbig
    have HF := Lib.hid F
    clear F
    by_cases hz : 2147483647 < n
    · go_enter Try.func13, Try.ntmps13
      go_wp2_with fail
      go_ret
      exact ⟨rfl, Below.refl _ _⟩
    · go_enter Try.func13, Try.ntmps13
      go_wp2_with fail
      refine (HF.out _).mono ?_; rintro e w' ⟨rfl, rfl⟩
      go_wp2_with fail
      go_ret
      exact ⟨rfl, Below.refl _ _⟩
  have F := fun w => fits_yes A n c w (by omega)
  have HF := Lib.hid F
  clear F
  have hz : n ≤ 2147483647 := by omega
  have FI := Lib.hid (fun w B h hB => first_any A n c xs w B h hn hc hB (by omega))
  cases hf : first xs with
  | none =>
    have I := Lib.hid (fun w B h => ImReadAnyElement_no A n c xs w B h hn (by omega) hf)
    have HF0 := Lib.hid hf
    have HH := Lib.hid h
    clear h hn hf
    go_enter Try.func13, Try.ntmps13
    go_wp2_with fail
    refine (HF.out _).mono ?_; rintro e w' ⟨rfl, rfl⟩
    go_wp2_with fail
    refine (I.out _ _ HH.out).mono ?_
    rintro e w1 ⟨t, A0, c0, A1, c1, rfl, hr0, hr1, hk1⟩
    have K1 := Lib.hid hk1
    clear hr0 hr1 hk1
    go_wp2_with fail
    refine (FI.out _ _ (HH.out.only K1.out (by simp) (Nat.le_refl _)) K1.out.size).mono ?_
    intro e w2 hF
    unfold FirstSaid at hF
    rw [HF0.out] at hF
    obtain ⟨hk2, rfl⟩ := hF
    have K2 := Lib.hid hk2
    clear hk2
    go_wp2_with fail
    go_ret
    exact ⟨rfl, ((K1.out.trans K2.out).alloc _).belowN⟩
  | some q =>
    obtain ⟨t, hd, m⟩ := q
    obtain ⟨f1, f2, f3, _, _, _⟩ := first_le hf
    have I := Lib.hid (fun w B h => ImReadAnyElement_ok A n c xs w B h hn (by omega) t hd m hf)
    have HF0 := Lib.hid hf
    have HH := Lib.hid h
    have HN := Lib.hid hn
    have hmn : m ≤ n := by omega
    have HJ := Lib.hid hmn
    have hmn' : (m : Int) ≤ n := by omega
    have hmc : (m : Int) ≤ c := by omega
    clear h hn hf f3
    go_enter Try.func13, Try.ntmps13
    go_wp2_with fail
    refine (HF.out _).mono ?_; rintro e w' ⟨rfl, rfl⟩
    go_wp2_with fail
    refine (I.out _ _ HH.out).mono ?_
    rintro e w1 ⟨A0, c0, A1, c1, rfl, hr0, hr1, hk1⟩
    have R0 := Lib.hid hr0
    have R1 := Lib.hid hr1
    have K1 := Lib.hid hk1
    clear hr0 hr1 hk1
    go_wp2_with fail
    refine (FI.out _ _ (HH.out.only K1.out (by simp) (Nat.le_refl _)) K1.out.size).mono ?_
    intro e w2 hF
    unfold FirstSaid at hF
    rw [HF0.out] at hF
    obtain ⟨hk2, rfl⟩ := hF
    have K2 := Lib.hid hk2
    have k12 : Only [] w w2 := K1.out.trans hk2
    have K12 := Lib.hid k12
    have HW : Hid (Rd w2 w.heap.size A xs) := Lib.hid (HH.out.only k12 (by simp) (Nat.le_refl _))
    have R0' : Hid (Rd w2 w1.heap.size A0 (xs.take m)) := Lib.hid (R0.out.only hk2 (by simp) (Nat.le_refl _))
    have R1' : Hid (Rd w2 w1.heap.size A1 (xs.drop m)) := Lib.hid (R1.out.only hk2 (by simp) (Nat.le_refl _))
    clear hk2 k12
    go_wp2_with fail
    refine (same_yes _ _ _ _ _ _ (xs.take m) (xs.take m) _ w1.heap.size w.heap.size (R0'.out.alloc K2.out.size _) ((HW.out.take m).alloc K12.out.size _) ?_ ?_ rfl).mono ?_
    · have := HN.out; have := HJ.out; (simp <;> omega)
    · have := HN.out; have := HJ.out; (simp <;> omega)
    rintro e w' ⟨rfl, rfl⟩
    go_wp2_with fail
    all_goals
      refine (same_yes _ _ _ _ _ _ (xs.drop m) (xs.drop m) _ w1.heap.size w.heap.size (R1'.out.alloc K2.out.size _) ?_ ?_ ?_ rfl).mono ?_
      · first | exact (HW.out.alloc K12.out.size _).cutAdd m | exact Rd.empty _ _ _ (List.drop_of_length_le (by have := HN.out; have := HJ.out; omega))
      · have := HN.out; have := HJ.out; (simp <;> omega)
      · have := HN.out; have := HJ.out; (simp <;> omega)
      rintro e w' ⟨rfl, rfl⟩
      go_wp2_with fail
      go_ret
      exact ⟨rfl, (K12.out.alloc _).belowN⟩

theorem law_FnElementAgain (A : Option Addr) (n c : Nat) (xs : List Int) (w : World) (h : Rd w w.heap.size A xs) (hn : n = xs.length) (hc : n ≤ c) (_hcm : c ≤ maxLen) :
    Calls Try.prog 14 #[.slice A n c] w fun e w' => e = .returned (.bool true) ∧ Below w.heap.size w w' := by
  by_cases hbig : 1048576 < n
  · clear h hn
    have F := fun w => fits_no A n c w hbig
    have HF := Lib.hid F
    clear F
    by_cases hz : 2147483647 < n
    · go_enter Try.func14, Try.ntmps14
      go_wp2_with fail
      go_ret
      exact ⟨rfl, Below.refl _ _⟩
    · go_enter Try.func14, Try.ntmps14
      go_wp2_with fail
      refine (HF.out _).mono ?_; rintro e w' ⟨rfl, rfl⟩
      go_wp2_with fail
      go_ret
      exact ⟨rfl, Below.refl _ _⟩
  have F := fun w => fits_yes A n c w (by omega)
  have HF := Lib.hid F
  clear F
  have hz : n ≤ 2147483647 := by omega
  cases hf : first xs with
  | none =>
    have FI := Lib.hid (fun w B h hB => isElement_any A n c xs w B h hn hc hB (by omega))
    rw [hf] at FI
    have I := Lib.hid (fun w B h => ImReadAnyElement_no A n c xs w B h hn (by omega) hf)
    have HH := Lib.hid h
    clear h hn hf
    go_enter Try.func14, Try.ntmps14
    go_wp2_with fail
    refine (HF.out _).mono ?_; rintro e w' ⟨rfl, rfl⟩
    go_wp2_with fail
    refine (I.out _ _ HH.out).mono ?_
    rintro e w1 ⟨t, A0, c0, A1, c1, rfl, hr0, hr1, hk1⟩
    have K1 := Lib.hid hk1
    clear hr0 hr1 hk1
    go_wp2_with fail
    refine (FI.out _ _ (HH.out.only K1.out (by simp) (Nat.le_refl _)) K1.out.size).mono ?_
    rintro e w2 ⟨rfl, hk2⟩
    have K2 := Lib.hid hk2
    clear hk2
    go_wp2_with fail
    go_ret
    exact ⟨rfl, (K1.out.trans K2.out).belowN⟩
  | some q =>
    obtain ⟨t, hd, m⟩ := q
    obtain ⟨f1, f2, f3, _, _, _⟩ := first_le hf
    have I := Lib.hid (fun w B h => ImReadAnyElement_ok A n c xs w B h hn (by omega) t hd m hf)
    have hl : (xs.take m).length = m := by simp; omega
    have I2 := Lib.hid (fun A' c' w B h => ImReadAnyElement_ok A' m c' (xs.take m) w B h hl.symm (by omega) t hd m (first_take hf))
    have hd1 : (xs.take m).take m = xs.take m := by rw [List.take_take, Nat.min_self]
    have hd2 : (xs.take m).drop m = [] := List.drop_of_length_le (by omega)
    rw [hd1, hd2] at I2
    obtain ⟨ys, hy⟩ : ∃ ys, xs.take m = ys := ⟨_, rfl⟩
    rw [hy] at I I2 hl
    have HL := Lib.hid hl
    have HH := Lib.hid h
    clear h hn hf f3 hd1 hd2 hy hl
    go_enter Try.func14, Try.ntmps14
    go_wp2_with fail
    refine (HF.out _).mono ?_; rintro e w' ⟨rfl, rfl⟩
    go_wp2_with fail
    refine (I.out _ _ HH.out).mono ?_
    rintro e w1 ⟨A0, c0, A1, c1, rfl, hr0, hr1, hk1⟩
    have R0 := Lib.hid hr0
    have K1 := Lib.hid hk1
    clear hr0 hr1 hk1
    rw [HL.out]
    go_wp2_with fail
    refine (I2.out _ _ _ _ R0.out).mono ?_
    rintro e w2 ⟨A3, c3, A4, c4, rfl, hr3, hr4, hk2⟩
    have R3 := Lib.hid hr3
    have K2 := Lib.hid hk2
    clear hr3 hr4 hk2
    go_wp2_with fail
    refine (same_yes _ _ _ _ _ _ ys ys _ w1.heap.size w2.heap.size (R0.out.only K2.out (by simp) (Nat.le_refl _)) R3.out (by have := HL.out; omega) (by have := HL.out; omega) rfl).mono ?_
    rintro e w' ⟨rfl, rfl⟩
    go_wp2_with fail
    go_ret
    exact ⟨rfl, (K1.out.trans K2.out).belowN⟩
end Go.Proofs.Ytglgiplmolmdoaa
