/- The laws on reading bytes: walks. -/
import Derived.Test.YtglgiplmolmdoaaIm2
import Derived.Test.YtglgiplmolmdoaaCp
import Derived.Test.YtglgiplmolmdoaaL1
namespace Go.Proofs.Ytglgiplmolmdoaa
open Go.RowKit

theorem Rd.cutAdd {w : World} {B : Nat} {A : Option Addr} {xs : List Int} (h : Rd w B A xs) (k : Nat) : Rd w B (Option.map (fun x => x.add k) A) (xs.drop k) := by
  have h1 := h.cut (k := k) (c := xs.length + k + 1) (by omega)
  unfold cutA at h1
  rwa [if_neg (by omega)] at h1

theorem law_FnExactSkip (A : Option Addr) (n c : Nat) (xs : List Int) (k : Int) (w : World) (h : Rd w w.heap.size A xs) (hn : n = xs.length) (hc : n ≤ c) (_hcm : c ≤ maxLen) :
    Calls Try.prog 5 #[.slice A n c, .int .i64 k] w fun e w' => e = .returned (.bool true) ∧ Below w.heap.size w w' := by
  by_cases hbig : 1048576 < n
  · clear h hn
    have F := fun w => fits_no A n c w hbig
    have HF := Lib.hid F
    clear F
    by_cases hz : 2147483647 < n
    · go_enter Try.func5, Try.ntmps5
      go_wp2_with fail
      go_ret
      exact ⟨rfl, Below.refl _ _⟩
    · go_enter Try.func5, Try.ntmps5
      go_wp2_with fail
      refine (HF.out _).mono ?_; rintro e w' ⟨rfl, rfl⟩
      go_wp2_with fail
      go_ret
      exact ⟨rfl, Below.refl _ _⟩
  have F := fun w => fits_yes A n c w (by omega)
  have HF := Lib.hid F
  clear F
  have hz : n ≤ 2147483647 := by omega
  by_cases hk0 : n = 0 ∧ k = 0
  · obtain ⟨h1, h2⟩ := hk0
    subst h1 h2
    clear h hn
    go_enter Try.func5, Try.ntmps5
    go_wp2_with fail
    refine (HF.out _).mono ?_; rintro e w' ⟨rfl, rfl⟩
    go_wp2_with fail
    go_ret
    exact ⟨rfl, Below.refl _ _⟩
  by_cases hk : 0 ≤ k ∧ k ≤ (n : Int)
  · obtain ⟨k0, k1⟩ := hk
    obtain ⟨j, rfl⟩ := Int.eq_ofNat_of_zero_le k0
    have I := Lib.hid (fun w B h => ImSkip_ok A n c xs w B h hn (by omega) j k0 (by omega) (by omega))
    rw [Int.toNat_natCast] at I
    have HN := Lib.hid hn
    have HH := Lib.hid h
    have hjn : j ≤ n := by omega
    have HJ := Lib.hid hjn
    have hpos : 0 < n := by omega
    have hnz : ((n : Int) == 0) = false := by simp; omega
    have hge : decide ((0 : Int) ≤ (j : Int)) = true := by simp
    have hle : decide (j ≤ n) = true := by simpa using hjn
    clear hn h hk0 k0 k1
    by_cases hj : ((j : Int) == 0) = true
    all_goals
      try (rw [Bool.not_eq_true] at hj)
      go_enter Try.func5, Try.ntmps5
      go_wp2_with fail
      refine (HF.out _).mono ?_; rintro e w' ⟨rfl, rfl⟩
      go_wp2_with fail
      refine (I.out _ _ HH.out).mono ?_
      rintro e w1 ⟨A1, c1, rfl, hr1, hk1⟩
      have R1 := Lib.hid hr1
      have K1 := Lib.hid hk1
      clear hr1 hk1
      go_wp2_with fail
      all_goals
        refine (same_yes _ _ _ _ _ _ (xs.drop j) (xs.drop j) _ w1.heap.size w.heap.size R1.out ?_ ?_ ?_ rfl).mono ?_
        · first | exact (HH.out.only K1.out (by simp) (Nat.le_refl _)).cutAdd j | exact Rd.empty _ _ _ (List.drop_of_length_le (by have := HN.out; omega))
        · (simp <;> omega)
        · have := HN.out; have := HJ.out; (simp <;> omega)
        rintro e w' ⟨rfl, rfl⟩
        go_wp2_with fail
        go_ret
        exact ⟨rfl, K1.out.belowN⟩
  · have hk' : k < 0 ∨ (xs.length : Int) < k := by omega
    have I := Lib.hid (fun w B h => ImSkip_no A n c xs w B h hn (by omega) k hk')
    have HH := Lib.hid h
    have hkz : (k == 0) = true ∨ (k == 0) = false := by cases (k == 0) <;> simp
    by_cases hneg : k < 0
    · have hkq : (k == 0) = false := by simp; omega
      clear hn h hk hk0 hk' hkz
      go_enter Try.func5, Try.ntmps5
      go_wp2_with fail
      refine (HF.out _).mono ?_; rintro e w' ⟨rfl, rfl⟩
      go_wp2_with fail
      refine (I.out _ _ HH.out).mono ?_
      rintro e w1 ⟨A1, c1, rfl, hr1, hk1⟩
      have K1 := Lib.hid hk1
      clear hr1 hk1
      go_wp2_with fail
      go_ret
      exact ⟨rfl, K1.out.belowN⟩
    · have hkq : (k == 0) = false := by simp; omega
      have h0 : 0 ≤ k := by omega
      have hgt : decide (k ≤ (n : Int)) = false := by simp; omega
      clear hn h hk hk0 hk' hkz
      go_enter Try.func5, Try.ntmps5
      go_wp2_with fail
      refine (HF.out _).mono ?_; rintro e w' ⟨rfl, rfl⟩
      go_wp2_with fail
      refine (I.out _ _ HH.out).mono ?_
      rintro e w1 ⟨A1, c1, rfl, hr1, hk1⟩
      have K1 := Lib.hid hk1
      clear hr1 hk1
      go_wp2_with fail
      go_ret
      exact ⟨rfl, K1.out.belowN⟩

theorem law_FnExactReadBytes (A : Option Addr) (n c : Nat) (xs : List Int) (k : Int) (w : World) (h : Rd w w.heap.size A xs) (hn : n = xs.length) (hc : n ≤ c) (_hcm : c ≤ maxLen) :
    Calls Try.prog 6 #[.slice A n c, .int .i64 k] w fun e w' => e = .returned (.bool true) ∧ Below w.heap.size w w' := by
  by_cases hbig : 1048576 < n
  · clear h hn
    have F := fun w => fits_no A n c w hbig
    have HF := Lib.hid F
    clear F
    by_cases hz : 2147483647 < n
    · go_enter Try.func6, Try.ntmps6
      go_wp2_with fail
      go_ret
      exact ⟨rfl, Below.refl _ _⟩
    · go_enter Try.func6, Try.ntmps6
      go_wp2_with fail
      refine (HF.out _).mono ?_; rintro e w' ⟨rfl, rfl⟩
      go_wp2_with fail
      go_ret
      exact ⟨rfl, Below.refl _ _⟩
  have F := fun w => fits_yes A n c w (by omega)
  have HF := Lib.hid F
  clear F
  have hz : n ≤ 2147483647 := by omega
  by_cases hk0 : n = 0 ∧ k = 0
  · obtain ⟨h1, h2⟩ := hk0
    subst h1 h2
    clear h hn
    go_enter Try.func6, Try.ntmps6
    go_wp2_with fail
    refine (HF.out _).mono ?_; rintro e w' ⟨rfl, rfl⟩
    go_wp2_with fail
    go_ret
    exact ⟨rfl, Below.refl _ _⟩
  by_cases hk : 0 ≤ k ∧ k ≤ (n : Int)
  · obtain ⟨k0, k1⟩ := hk
    obtain ⟨j, rfl⟩ := Int.eq_ofNat_of_zero_le k0
    have I := Lib.hid (fun w B h => ImReadBytes_ok A n c xs w B h hn (by omega) j k0 (by omega) (by omega))
    rw [Int.toNat_natCast] at I
    have HN := Lib.hid hn
    have HH := Lib.hid h
    have hjn : j ≤ n := by omega
    have HJ := Lib.hid hjn
    have hpos : 0 < n := by omega
    have hnz : ((n : Int) == 0) = false := by simp; omega
    have hge : decide ((0 : Int) ≤ (j : Int)) = true := by simp
    have hle : decide (j ≤ n) = true := by simpa using hjn
    clear hn h hk0 k0 k1
    by_cases hj : ((j : Int) == 0) = true
    all_goals
      try (rw [Bool.not_eq_true] at hj)
      go_enter Try.func6, Try.ntmps6
      go_wp2_with fail
      refine (HF.out _).mono ?_; rintro e w' ⟨rfl, rfl⟩
      go_wp2_with fail
      refine (I.out _ _ HH.out).mono ?_
      rintro e w1 ⟨A0, c0, A1, c1, rfl, hr0, hr1, hk1⟩
      have R0 := Lib.hid hr0
      clear hr0
      have R1 := Lib.hid hr1
      have K1 := Lib.hid hk1
      clear hr1 hk1
      go_wp2_with fail
      all_goals
        refine (same_yes _ _ _ _ _ _ (xs.take j) (xs.take j) _ w1.heap.size w.heap.size R0.out ?_ ?_ ?_ rfl).mono ?_
        · first | exact (HH.out.only K1.out (by simp) (Nat.le_refl _)).take j
        · (simp <;> omega)
        · have := HN.out; have := HJ.out; (simp <;> omega)
        rintro e w' ⟨rfl, rfl⟩
        go_wp2_with fail
        all_goals
          refine (same_yes _ _ _ _ _ _ (xs.drop j) (xs.drop j) _ w1.heap.size w.heap.size R1.out ?_ ?_ ?_ rfl).mono ?_
          · first | exact (HH.out.only K1.out (by simp) (Nat.le_refl _)).cutAdd j | exact Rd.empty _ _ _ (List.drop_of_length_le (by have := HN.out; omega))
          · (simp <;> omega)
          · have := HN.out; have := HJ.out; (simp <;> omega)
          rintro e w' ⟨rfl, rfl⟩
          go_wp2_with fail
          go_ret
          exact ⟨rfl, K1.out.belowN⟩
  · have hk' : k < 0 ∨ (xs.length : Int) < k := by omega
    have I := Lib.hid (fun w B h => ImReadBytes_no A n c xs w B h hn (by omega) k hk')
    have HH := Lib.hid h
    have hkz : (k == 0) = true ∨ (k == 0) = false := by cases (k == 0) <;> simp
    by_cases hneg : k < 0
    · have hkq : (k == 0) = false := by simp; omega
      clear hn h hk hk0 hk' hkz
      go_enter Try.func6, Try.ntmps6
      go_wp2_with fail
      refine (HF.out _).mono ?_; rintro e w' ⟨rfl, rfl⟩
      go_wp2_with fail
      refine (I.out _ _ HH.out).mono ?_
      rintro e w1 ⟨A0, c0, A1, c1, rfl, hr0, hr1, hk1⟩
      have K1 := Lib.hid hk1
      clear hr1 hk1 hr0
      go_wp2_with fail
      go_ret
      exact ⟨rfl, K1.out.belowN⟩
    · have hkq : (k == 0) = false := by simp; omega
      have h0 : 0 ≤ k := by omega
      have hgt : decide (k ≤ (n : Int)) = false := by simp; omega
      clear hn h hk hk0 hk' hkz
      go_enter Try.func6, Try.ntmps6
      go_wp2_with fail
      refine (HF.out _).mono ?_; rintro e w' ⟨rfl, rfl⟩
      go_wp2_with fail
      refine (I.out _ _ HH.out).mono ?_
      rintro e w1 ⟨A0, c0, A1, c1, rfl, hr0, hr1, hk1⟩
      have K1 := Lib.hid hk1
      clear hr1 hk1 hr0
      go_wp2_with fail
      go_ret
      exact ⟨rfl, K1.out.belowN⟩

theorem law_FnExactRead8Prefixed (A : Option Addr) (n c : Nat) (xs : List Int) (w : World) (h : Rd w w.heap.size A xs) (hn : n = xs.length) (hc : n ≤ c) (_hcm : c ≤ maxLen) :
    Calls Try.prog 11 #[.slice A n c] w fun e w' => e = .returned (.bool true) ∧ Below w.heap.size w w' := by
  by_cases hbig : 1048576 < n
  · clear h hn
    have F := fun w => fits_no A n c w hbig
    have HF := Lib.hid F
    clear F
    by_cases hz : 2147483647 < n
    · go_enter Try.func11, Try.ntmps11
      go_wp2_with fail
      go_ret
      exact ⟨rfl, Below.refl _ _⟩
    · go_enter Try.func11, Try.ntmps11
      go_wp2_with fail
      refine (HF.out _).mono ?_; rintro e w' ⟨rfl, rfl⟩
      go_wp2_with fail
      go_ret
      exact ⟨rfl, Below.refl _ _⟩
  have F := fun w => fits_yes A n c w (by omega)
  have HF := Lib.hid F
  clear F
  have hz : n ≤ 2147483647 := by omega
  by_cases hl : 1 ≤ n
  · obtain ⟨s0, s1⟩ := beN_take_le3 xs h.byt 1 (by omega)
    have NU := Lib.hid (fun w B h => number_ok A n c 1 xs w B h hn (by omega) (by omega) (by omega) (by omega))
    obtain ⟨z, hz1⟩ : ∃ z, lpSize xs 1 = z := ⟨_, rfl⟩
    have hz2 : beN (xs.take 1) = (z : Int) := by rw [← hz1]; unfold lpSize; omega
    rw [hz2] at NU s1
    have hzm : z ≤ 16777215 := by omega
    have hw : IntKind.i64.wrap (z : Int) = z := IntWalk.i64_in _ (by omega)
    by_cases hf : z ≤ n - 1
    · have I := Lib.hid (fun w B h => ImRead8Prefixed_ok A n c xs w B h hn (by omega) (by omega) (by rw [hz1]; omega))
      rw [hz1] at I
      have HN := Lib.hid hn
      have HH := Lib.hid h
      have hle : decide (z ≤ n - 1) = true := by simpa using hf
      have hf' : (z : Int) ≤ (n : Int) - 1 := by omega
      have HJ := Lib.hid hf'
      clear hn h hz1 hz2 s0 s1
      go_enter Try.func11, Try.ntmps11
      go_wp2_with fail
      refine (HF.out _).mono ?_; rintro e w' ⟨rfl, rfl⟩
      go_wp2_with fail
      refine (I.out _ _ HH.out).mono ?_
      rintro e w1 ⟨A0, c0, A1, c1, rfl, hr0, hr1, hk1⟩
      have R0 := Lib.hid hr0
      have R1 := Lib.hid hr1
      have K1 := Lib.hid hk1
      clear hr0 hr1 hk1
      go_wp2_with fail
      refine (NU.out _ _ (HH.out.only K1.out (by simp) (Nat.le_refl _))).mono ?_; rintro e w' ⟨rfl, rfl⟩
      go_wp2_with fail
      all_goals
        refine (same_yes _ _ _ _ _ _ ((xs.drop 1).take z) ((xs.drop 1).take z) _ w1.heap.size w.heap.size R0.out ?_ ?_ ?_ rfl).mono ?_
        · first | exact ((HH.out.only K1.out (by simp) (Nat.le_refl _)).cutM 1).take z | exact Rd.empty _ _ _ (List.drop_of_length_le (by have := HN.out; omega)) | exact Rd.empty _ _ _ (by rw [List.drop_of_length_le (by have := HN.out; omega)]; exact List.take_nil)
        · (simp <;> omega)
        · have := HN.out; have := HJ.out; (simp <;> omega)
        rintro e w' ⟨rfl, rfl⟩
        go_wp2_with fail
        all_goals
          refine (same_yes _ _ _ _ _ _ (xs.drop (1 + z)) (xs.drop (1 + z)) _ w1.heap.size w.heap.size R1.out ?_ ?_ ?_ rfl).mono ?_
          · first | exact (HH.out.only K1.out (by simp) (Nat.le_refl _)).cutM (1 + z) | exact (HH.out.only K1.out (by simp) (Nat.le_refl _)).cutAdd (1 + z) | exact Rd.empty _ _ _ (List.drop_of_length_le (by have := HN.out; omega)) | exact Rd.empty _ _ _ (by rw [List.drop_of_length_le (by have := HN.out; omega)]; exact List.take_nil)
          · (simp <;> omega)
          · have := HN.out; have := HJ.out; (simp <;> omega)
          rintro e w' ⟨rfl, rfl⟩
          go_wp2_with fail
          go_ret
          exact ⟨rfl, K1.out.belowN⟩
    · have hf' : ¬ (z : Int) ≤ (n : Int) - 1 := by omega
      have I := Lib.hid (fun w B h => ImRead8Prefixed_long A n c xs w B h hn (by omega) (by omega) (by rw [hz1]; omega))
      have hle : decide ((z : Int) ≤ (n : Int) - 1) = false := by simpa using hf'
      have HH := Lib.hid h
      clear hn h hz1 hz2 s0 s1
      go_enter Try.func11, Try.ntmps11
      go_wp2_with fail
      refine (HF.out _).mono ?_; rintro e w' ⟨rfl, rfl⟩
      go_wp2_with fail
      refine (I.out _ _ HH.out).mono ?_
      rintro e w1 ⟨A0, c0, A1, c1, rfl, hr0, hr1, hk1⟩
      have K1 := Lib.hid hk1
      clear hr0 hr1 hk1
      go_wp2_with fail
      refine (NU.out _ _ (HH.out.only K1.out (by simp) (Nat.le_refl _))).mono ?_; rintro e w' ⟨rfl, rfl⟩
      go_wp2_with fail
      go_ret
      exact ⟨rfl, K1.out.belowN⟩
  · have I := Lib.hid (fun w B h => ImRead8Prefixed_short A n c xs w B h hn (by omega) (by omega))
    have NU := Lib.hid (fun w => number_no A n c 1 w (by omega))
    have HH := Lib.hid h
    clear h hn
    go_enter Try.func11, Try.ntmps11
    go_wp2_with fail
    refine (HF.out _).mono ?_; rintro e w' ⟨rfl, rfl⟩
    go_wp2_with fail
    refine (I.out _ _ HH.out).mono ?_
    rintro e w1 ⟨A0, c0, A1, c1, rfl, hr0, hr1, hk1⟩
    have K1 := Lib.hid hk1
    clear hr0 hr1 hk1
    go_wp2_with fail
    refine (NU.out _).mono ?_; rintro e w' ⟨rfl, rfl⟩
    go_wp2_with fail
    go_ret
    exact ⟨rfl, K1.out.belowN⟩

theorem law_FnExactRead24Prefixed (A : Option Addr) (n c : Nat) (xs : List Int) (w : World) (h : Rd w w.heap.size A xs) (hn : n = xs.length) (hc : n ≤ c) (_hcm : c ≤ maxLen) :
    Calls Try.prog 10 #[.slice A n c] w fun e w' => e = .returned (.bool true) ∧ Below w.heap.size w w' := by
  by_cases hbig : 1048576 < n
  · clear h hn
    have F := fun w => fits_no A n c w hbig
    have HF := Lib.hid F
    clear F
    by_cases hz : 2147483647 < n
    · go_enter Try.func10, Try.ntmps10
      go_wp2_with fail
      go_ret
      exact ⟨rfl, Below.refl _ _⟩
    · go_enter Try.func10, Try.ntmps10
      go_wp2_with fail
      refine (HF.out _).mono ?_; rintro e w' ⟨rfl, rfl⟩
      go_wp2_with fail
      go_ret
      exact ⟨rfl, Below.refl _ _⟩
  have F := fun w => fits_yes A n c w (by omega)
  have HF := Lib.hid F
  clear F
  have hz : n ≤ 2147483647 := by omega
  by_cases hl : 3 ≤ n
  · obtain ⟨s0, s1⟩ := beN_take_le3 xs h.byt 3 (by omega)
    have NU := Lib.hid (fun w B h => number_ok A n c 3 xs w B h hn (by omega) (by omega) (by omega) (by omega))
    obtain ⟨z, hz1⟩ : ∃ z, lpSize xs 3 = z := ⟨_, rfl⟩
    have hz2 : beN (xs.take 3) = (z : Int) := by rw [← hz1]; unfold lpSize; omega
    rw [hz2] at NU s1
    have hzm : z ≤ 16777215 := by omega
    have hw : IntKind.i64.wrap (z : Int) = z := IntWalk.i64_in _ (by omega)
    by_cases hf : z ≤ n - 3
    · have I := Lib.hid (fun w B h => ImRead24Prefixed_ok A n c xs w B h hn (by omega) (by omega) (by rw [hz1]; omega))
      rw [hz1] at I
      have HN := Lib.hid hn
      have HH := Lib.hid h
      have hle : decide (z ≤ n - 3) = true := by simpa using hf
      have hf' : (z : Int) ≤ (n : Int) - 3 := by omega
      have HJ := Lib.hid hf'
      clear hn h hz1 hz2 s0 s1
      go_enter Try.func10, Try.ntmps10
      go_wp2_with fail
      refine (HF.out _).mono ?_; rintro e w' ⟨rfl, rfl⟩
      go_wp2_with fail
      refine (I.out _ _ HH.out).mono ?_
      rintro e w1 ⟨A0, c0, A1, c1, rfl, hr0, hr1, hk1⟩
      have R0 := Lib.hid hr0
      have R1 := Lib.hid hr1
      have K1 := Lib.hid hk1
      clear hr0 hr1 hk1
      go_wp2_with fail
      refine (NU.out _ _ (HH.out.only K1.out (by simp) (Nat.le_refl _))).mono ?_; rintro e w' ⟨rfl, rfl⟩
      go_wp2_with fail
      all_goals
        refine (same_yes _ _ _ _ _ _ ((xs.drop 3).take z) ((xs.drop 3).take z) _ w1.heap.size w.heap.size R0.out ?_ ?_ ?_ rfl).mono ?_
        · first | exact ((HH.out.only K1.out (by simp) (Nat.le_refl _)).cutM 3).take z | exact Rd.empty _ _ _ (List.drop_of_length_le (by have := HN.out; omega)) | exact Rd.empty _ _ _ (by rw [List.drop_of_length_le (by have := HN.out; omega)]; exact List.take_nil)
        · (simp <;> omega)
        · have := HN.out; have := HJ.out; (simp <;> omega)
        rintro e w' ⟨rfl, rfl⟩
        go_wp2_with fail
        all_goals
          refine (same_yes _ _ _ _ _ _ (xs.drop (3 + z)) (xs.drop (3 + z)) _ w1.heap.size w.heap.size R1.out ?_ ?_ ?_ rfl).mono ?_
          · first | exact (HH.out.only K1.out (by simp) (Nat.le_refl _)).cutM (3 + z) | exact (HH.out.only K1.out (by simp) (Nat.le_refl _)).cutAdd (3 + z) | exact Rd.empty _ _ _ (List.drop_of_length_le (by have := HN.out; omega)) | exact Rd.empty _ _ _ (by rw [List.drop_of_length_le (by have := HN.out; omega)]; exact List.take_nil)
          · (simp <;> omega)
          · have := HN.out; have := HJ.out; (simp <;> omega)
          rintro e w' ⟨rfl, rfl⟩
          go_wp2_with fail
          go_ret
          exact ⟨rfl, K1.out.belowN⟩
    · have hf' : ¬ (z : Int) ≤ (n : Int) - 3 := by omega
      have I := Lib.hid (fun w B h => ImRead24Prefixed_long A n c xs w B h hn (by omega) (by omega) (by rw [hz1]; omega))
      have hle : decide ((z : Int) ≤ (n : Int) - 3) = false := by simpa using hf'
      have HH := Lib.hid h
      clear hn h hz1 hz2 s0 s1
      go_enter Try.func10, Try.ntmps10
      go_wp2_with fail
      refine (HF.out _).mono ?_; rintro e w' ⟨rfl, rfl⟩
      go_wp2_with fail
      refine (I.out _ _ HH.out).mono ?_
      rintro e w1 ⟨A0, c0, A1, c1, rfl, hr0, hr1, hk1⟩
      have K1 := Lib.hid hk1
      clear hr0 hr1 hk1
      go_wp2_with fail
      refine (NU.out _ _ (HH.out.only K1.out (by simp) (Nat.le_refl _))).mono ?_; rintro e w' ⟨rfl, rfl⟩
      go_wp2_with fail
      go_ret
      exact ⟨rfl, K1.out.belowN⟩
  · have I := Lib.hid (fun w B h => ImRead24Prefixed_short A n c xs w B h hn (by omega) (by omega))
    have NU := Lib.hid (fun w => number_no A n c 3 w (by omega))
    have HH := Lib.hid h
    clear h hn
    go_enter Try.func10, Try.ntmps10
    go_wp2_with fail
    refine (HF.out _).mono ?_; rintro e w' ⟨rfl, rfl⟩
    go_wp2_with fail
    refine (I.out _ _ HH.out).mono ?_
    rintro e w1 ⟨A0, c0, A1, c1, rfl, hr0, hr1, hk1⟩
    have K1 := Lib.hid hk1
    clear hr0 hr1 hk1
    go_wp2_with fail
    refine (NU.out _).mono ?_; rintro e w' ⟨rfl, rfl⟩
    go_wp2_with fail
    go_ret
    exact ⟨rfl, K1.out.belowN⟩
end Go.Proofs.Ytglgiplmolmdoaa
