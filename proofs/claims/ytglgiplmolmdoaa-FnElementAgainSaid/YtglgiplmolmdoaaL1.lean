/- The laws on reading numbers: walks. -/
import Derived.Test.YtglgiplmolmdoaaIm1
import Derived.Test.YtglgiplmolmdoaaSpec
namespace Go.Proofs.Ytglgiplmolmdoaa
open Go.RowKit

theorem fits_yes (A : Option Addr) (n c : Nat) (w : World) (h : n ≤ 1048576) : Calls Try.prog 18 #[.slice A n c] w fun e w' => e = .returned (.bool true) ∧ w = w' := by
  have h' : decide ((n : Int) ≤ 1048576) = true := by simp; omega
  go_enter Try.func18, Try.ntmps18
  go_wp2
  go_ret
  exact ⟨rfl, rfl⟩
theorem fits_no (A : Option Addr) (n c : Nat) (w : World) (h : 1048576 < n) : Calls Try.prog 18 #[.slice A n c] w fun e w' => e = .returned (.bool false) ∧ w = w' := by
  have h' : decide ((n : Int) ≤ 1048576) = false := by simp; omega
  go_enter Try.func18, Try.ntmps18
  go_wp2
  go_ret
  exact ⟨rfl, rfl⟩

theorem law_FnExactReadUint8 (A : Option Addr) (n c : Nat) (xs : List Int) (w : World) (h : Rd w w.heap.size A xs) (hn : n = xs.length) (hc : n ≤ c) (_hcm : c ≤ maxLen) :
    Calls Try.prog 9 #[.slice A n c] w fun e w' => e = .returned (.bool true) ∧ Below w.heap.size w w' := by
  by_cases hbig : 1048576 < n
  · clear h hn
    have F := fun w => fits_no A n c w hbig
    have HF := Lib.hid F
    clear F
    by_cases hz : 2147483647 < n
    · go_enter Try.func9, Try.ntmps9
      go_wp2_with fail
      go_ret
      exact ⟨rfl, Below.refl _ _⟩
    · go_enter Try.func9, Try.ntmps9
      go_wp2_with fail
      refine (HF.out _).mono ?_; rintro e w' ⟨rfl, rfl⟩
      go_wp2_with fail
      go_ret
      exact ⟨rfl, Below.refl _ _⟩
  · have F := fun w => fits_yes A n c w (by omega)
    have HF := Lib.hid F
    clear F
    have hz : n ≤ 2147483647 := by omega
    by_cases hl : 1 ≤ n
    · have I := Lib.hid (fun w B h => ImReadUint8_ok A n c xs w B h hn (by omega) (by omega))
      have NU := Lib.hid (fun w B h => number_ok A n c 1 xs w B h hn (by omega) (by omega) (by omega) (by omega))
      obtain ⟨v, hv0, hv1, hvd⟩ : ∃ v, 0 ≤ v ∧ v ≤ 255 ∧ beN (xs.take 1) = v := by
        have := beN_take_bd xs h.byt 1 1 (Nat.le_refl _)
        exact ⟨_, this.1, by omega, rfl⟩
      rw [hvd] at I NU
      have S := Lib.hid (fun A' n' c' w B B' h h' hn hn' => same_yes A' (cutA A c 1) n' (n - 1) c' (c - 1) (xs.drop 1) (xs.drop 1) w B B' h h' hn hn' rfl)
      have hw : IntKind.i64.wrap v = v := IntWalk.i64_in _ (by omega)
      have HN := Lib.hid hn
      have HH := Lib.hid h
      clear hn h hvd
      go_enter Try.func9, Try.ntmps9
      go_wp2_with fail
      refine (HF.out _).mono ?_; rintro e w' ⟨rfl, rfl⟩
      go_wp2_with fail
      refine (I.out _ _ HH.out).mono ?_
      rintro e w1 ⟨A1, c1, rfl, hr1, hk1⟩
      have R1 := Lib.hid hr1
      have K1 := Lib.hid hk1
      clear hr1 hk1
      go_wp2_with fail
      refine (NU.out _ _ (HH.out.only K1.out (by simp) (Nat.le_refl _))).mono ?_; rintro e w' ⟨rfl, rfl⟩
      go_wp2_with fail
      all_goals
        refine (same_yes _ _ _ _ _ _ (xs.drop 1) (xs.drop 1) _ w1.heap.size w.heap.size R1.out ?_ (by simp) ?_ rfl).mono ?_
        · first | exact (HH.out.only K1.out (by simp) (Nat.le_refl _)).cutM 1 | exact Rd.empty _ _ _ (List.drop_of_length_le (by have := HN.out; omega))
        · have := HN.out; simp; omega
        rintro e w' ⟨rfl, rfl⟩
        go_wp2_with fail
        go_ret
        exact ⟨rfl, K1.out.belowN⟩
    · have I := Lib.hid (fun w B h => ImReadUint8_no A n c xs w B h hn (by omega) (by omega))
      have NU := Lib.hid (fun w => number_no A n c 1 w (by omega))
      have HH := Lib.hid h
      clear h hn
      go_enter Try.func9, Try.ntmps9
      go_wp2_with fail
      refine (HF.out _).mono ?_; rintro e w' ⟨rfl, rfl⟩
      go_wp2_with fail
      refine (I.out _ _ HH.out).mono ?_
      rintro e w1 ⟨A1, c1, rfl, hr1, hk1⟩
      have K1 := Lib.hid hk1
      clear hr1 hk1
      go_wp2_with fail
      refine (NU.out _).mono ?_; rintro e w' ⟨rfl, rfl⟩
      go_wp2_with fail
      go_ret
      exact ⟨rfl, K1.out.belowN⟩

theorem law_FnExactReadUint24 (A : Option Addr) (n c : Nat) (xs : List Int) (w : World) (h : Rd w w.heap.size A xs) (hn : n = xs.length) (hc : n ≤ c) (_hcm : c ≤ maxLen) :
    Calls Try.prog 7 #[.slice A n c] w fun e w' => e = .returned (.bool true) ∧ Below w.heap.size w w' := by
  by_cases hbig : 1048576 < n
  · clear h hn
    have F := fun w => fits_no A n c w hbig
    have HF := Lib.hid F
    clear F
    by_cases hz : 2147483647 < n
    · go_enter Try.func7, Try.ntmps7
      go_wp2_with fail
      go_ret
      exact ⟨rfl, Below.refl _ _⟩
    · go_enter Try.func7, Try.ntmps7
      go_wp2_with fail
      refine (HF.out _).mono ?_; rintro e w' ⟨rfl, rfl⟩
      go_wp2_with fail
      go_ret
      exact ⟨rfl, Below.refl _ _⟩
  · have F := fun w => fits_yes A n c w (by omega)
    have HF := Lib.hid F
    clear F
    have hz : n ≤ 2147483647 := by omega
    by_cases hl : 3 ≤ n
    · have I := Lib.hid (fun w B h => ImReadUint24_ok A n c xs w B h hn (by omega) (by omega))
      have NU := Lib.hid (fun w B h => number_ok A n c 3 xs w B h hn (by omega) (by omega) (by omega) (by omega))
      obtain ⟨v, hv0, hv1, hvd⟩ : ∃ v, 0 ≤ v ∧ v ≤ 16777215 ∧ beN (xs.take 3) = v := by
        have := beN_take_bd xs h.byt 3 3 (Nat.le_refl _)
        exact ⟨_, this.1, by omega, rfl⟩
      rw [hvd] at I NU
      have S := Lib.hid (fun A' n' c' w B B' h h' hn hn' => same_yes A' (cutA A c 3) n' (n - 3) c' (c - 3) (xs.drop 3) (xs.drop 3) w B B' h h' hn hn' rfl)
      have hw : IntKind.i64.wrap v = v := IntWalk.i64_in _ (by omega)
      have HN := Lib.hid hn
      have HH := Lib.hid h
      clear hn h hvd
      go_enter Try.func7, Try.ntmps7
      go_wp2_with fail
      refine (HF.out _).mono ?_; rintro e w' ⟨rfl, rfl⟩
      go_wp2_with fail
      refine (I.out _ _ HH.out).mono ?_
      rintro e w1 ⟨A1, c1, rfl, hr1, hk1⟩
      have R1 := Lib.hid hr1
      have K1 := Lib.hid hk1
      clear hr1 hk1
      go_wp2_with fail
      refine (NU.out _ _ (HH.out.only K1.out (by simp) (Nat.le_refl _))).mono ?_; rintro e w' ⟨rfl, rfl⟩
      go_wp2_with fail
      all_goals
        refine (same_yes _ _ _ _ _ _ (xs.drop 3) (xs.drop 3) _ w1.heap.size w.heap.size R1.out ?_ (by simp) ?_ rfl).mono ?_
        · first | exact (HH.out.only K1.out (by simp) (Nat.le_refl _)).cutM 3 | exact Rd.empty _ _ _ (List.drop_of_length_le (by have := HN.out; omega))
        · have := HN.out; simp; omega
        rintro e w' ⟨rfl, rfl⟩
        go_wp2_with fail
        go_ret
        exact ⟨rfl, K1.out.belowN⟩
    · have I := Lib.hid (fun w B h => ImReadUint24_no A n c xs w B h hn (by omega) (by omega))
      have NU := Lib.hid (fun w => number_no A n c 3 w (by omega))
      have HH := Lib.hid h
      clear h hn
      go_enter Try.func7, Try.ntmps7
      go_wp2_with fail
      refine (HF.out _).mono ?_; rintro e w' ⟨rfl, rfl⟩
      go_wp2_with fail
      refine (I.out _ _ HH.out).mono ?_
      rintro e w1 ⟨A1, c1, rfl, hr1, hk1⟩
      have K1 := Lib.hid hk1
      clear hr1 hk1
      go_wp2_with fail
      refine (NU.out _).mono ?_; rintro e w' ⟨rfl, rfl⟩
      go_wp2_with fail
      go_ret
      exact ⟨rfl, K1.out.belowN⟩

theorem law_FnExactReadUint48 (A : Option Addr) (n c : Nat) (xs : List Int) (w : World) (h : Rd w w.heap.size A xs) (hn : n = xs.length) (hc : n ≤ c) (_hcm : c ≤ maxLen) :
    Calls Try.prog 8 #[.slice A n c] w fun e w' => e = .returned (.bool true) ∧ Below w.heap.size w w' := by
  by_cases hbig : 1048576 < n
  · clear h hn
    have F := fun w => fits_no A n c w hbig
    have HF := Lib.hid F
    clear F
    by_cases hz : 2147483647 < n
    · go_enter Try.func8, Try.ntmps8
      go_wp2_with fail
      go_ret
      exact ⟨rfl, Below.refl _ _⟩
    · go_enter Try.func8, Try.ntmps8
      go_wp2_with fail
      refine (HF.out _).mono ?_; rintro e w' ⟨rfl, rfl⟩
      go_wp2_with fail
      go_ret
      exact ⟨rfl, Below.refl _ _⟩
  · have F := fun w => fits_yes A n c w (by omega)
    have HF := Lib.hid F
    clear F
    have hz : n ≤ 2147483647 := by omega
    by_cases hl : 6 ≤ n
    · have I := Lib.hid (fun w B h => ImReadUint48_ok A n c xs w B h hn (by omega) (by omega))
      have NU := Lib.hid (fun w B h => number_ok A n c 6 xs w B h hn (by omega) (by omega) (by omega) (by omega))
      obtain ⟨v, hv0, hv1, hvd⟩ : ∃ v, 0 ≤ v ∧ v ≤ 281474976710655 ∧ beN (xs.take 6) = v := by
        have := beN_take_bd xs h.byt 6 6 (Nat.le_refl _)
        exact ⟨_, this.1, by omega, rfl⟩
      rw [hvd] at I NU
      have S := Lib.hid (fun A' n' c' w B B' h h' hn hn' => same_yes A' (cutA A c 6) n' (n - 6) c' (c - 6) (xs.drop 6) (xs.drop 6) w B B' h h' hn hn' rfl)
      have hw : IntKind.i64.wrap v = v := IntWalk.i64_in _ (by omega)
      have HN := Lib.hid hn
      have HH := Lib.hid h
      clear hn h hvd
      go_enter Try.func8, Try.ntmps8
      go_wp2_with fail
      refine (HF.out _).mono ?_; rintro e w' ⟨rfl, rfl⟩
      go_wp2_with fail
      refine (I.out _ _ HH.out).mono ?_
      rintro e w1 ⟨A1, c1, rfl, hr1, hk1⟩
      have R1 := Lib.hid hr1
      have K1 := Lib.hid hk1
      clear hr1 hk1
      go_wp2_with fail
      refine (NU.out _ _ (HH.out.only K1.out (by simp) (Nat.le_refl _))).mono ?_; rintro e w' ⟨rfl, rfl⟩
      go_wp2_with fail
      all_goals
        refine (same_yes _ _ _ _ _ _ (xs.drop 6) (xs.drop 6) _ w1.heap.size w.heap.size R1.out ?_ (by simp) ?_ rfl).mono ?_
        · first | exact (HH.out.only K1.out (by simp) (Nat.le_refl _)).cutM 6 | exact Rd.empty _ _ _ (List.drop_of_length_le (by have := HN.out; omega))
        · have := HN.out; simp; omega
        rintro e w' ⟨rfl, rfl⟩
        go_wp2_with fail
        go_ret
        exact ⟨rfl, K1.out.belowN⟩
    · have I := Lib.hid (fun w B h => ImReadUint48_no A n c xs w B h hn (by omega) (by omega))
      have NU := Lib.hid (fun w => number_no A n c 6 w (by omega))
      have HH := Lib.hid h
      clear h hn
      go_enter Try.func8, Try.ntmps8
      go_wp2_with fail
      refine (HF.out _).mono ?_; rintro e w' ⟨rfl, rfl⟩
      go_wp2_with fail
      refine (I.out _ _ HH.out).mono ?_
      rintro e w1 ⟨A1, c1, rfl, hr1, hk1⟩
      have K1 := Lib.hid hk1
      clear hr1 hk1
      go_wp2_with fail
      refine (NU.out _).mono ?_; rintro e w' ⟨rfl, rfl⟩
      go_wp2_with fail
      go_ret
      exact ⟨rfl, K1.out.belowN⟩
end Go.Proofs.Ytglgiplmolmdoaa
