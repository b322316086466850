/- The law on CopyBytes and ReadBytes: its walk. -/
import Derived.Test.YtglgiplmolmdoaaIm2
import Derived.Test.YtglgiplmolmdoaaCp
import Derived.Test.YtglgiplmolmdoaaL1
namespace Go.Proofs.Ytglgiplmolmdoaa
open Go.RowKit

theorem law_FnBytesCopy (A A2 : Option Addr) (n c m c2 : Nat) (xs zs : List Int) (w : World) (h : Rd w w.heap.size A xs) (h2 : Rd w w.heap.size A2 zs) (hn : n = xs.length) (hm : m = zs.length) :
    Calls Try.prog 12 #[.slice A n c, .slice A2 m c2] w fun e w' => e = .returned (.bool true) ∧ Below w.heap.size w w' := by
  by_cases hbig : 2147483647 < n
  · clear h hn h2 hm
    go_enter Try.func12, Try.ntmps12
    go_wp2_with fail
    go_ret
    exact ⟨rfl, Below.refl _ _⟩
  have hd1 : decide (2147483647 < (n : Int)) = false := by simp; omega
  by_cases hbig2 : 2147483647 < m
  · clear h hn h2 hm
    go_enter Try.func12, Try.ntmps12
    go_wp2_with fail
    go_ret
    exact ⟨rfl, Below.refl _ _⟩
  have hd2 : decide (2147483647 < (m : Int)) = false := by simp; omega
  by_cases hf1 : 1048576 < n
  · have F := fun w => fits_no A n c w hf1
    have HF := Lib.hid F
    clear F h hn h2 hm
    go_enter Try.func12, Try.ntmps12
    go_wp2_with fail
    refine (HF.out _).mono ?_; rintro e w' ⟨rfl, rfl⟩
    go_wp2_with fail
    go_ret
    exact ⟨rfl, Below.refl _ _⟩
  have F1 := Lib.hid (fun w => fits_yes A n c w (by omega))
  by_cases hf2 : 1048576 < m
  · have F := fun w => fits_no A2 m c2 w hf2
    have HF := Lib.hid F
    clear F h hn h2 hm
    go_enter Try.func12, Try.ntmps12
    go_wp2_with fail
    refine (F1.out _).mono ?_; rintro e w' ⟨rfl, rfl⟩
    go_wp2_with fail
    refine (HF.out _).mono ?_; rintro e w' ⟨rfl, rfl⟩
    go_wp2_with fail
    go_ret
    exact ⟨rfl, Below.refl _ _⟩
  have F2 := Lib.hid (fun w => fits_yes A2 m c2 w (by omega))
  by_cases h00 : m = 0 ∧ n = 0
  · obtain ⟨h0, h1⟩ := h00
    subst h0 h1
    clear h hn h2 hm
    go_enter Try.func12, Try.ntmps12
    go_wp2_with fail
    refine (F1.out _).mono ?_; rintro e w' ⟨rfl, rfl⟩
    go_wp2_with fail
    refine (F2.out _).mono ?_; rintro e w' ⟨rfl, rfl⟩
    go_wp2_with fail
    go_ret
    exact ⟨rfl, Below.refl _ _⟩
  have hq : ((m : Int) == 0) = false ∨ (((m : Int) == 0) = true ∧ ((n : Int) == 0) = false) := by
    rcases Nat.eq_zero_or_pos m with h0 | h0
    · right; simp; omega
    · left; simp; omega
  by_cases hle : m ≤ n
  · have I1 := Lib.hid (fun w B h => ImReadBytes_ok A n c xs w B h hn (by omega) m (by omega) (by omega) (by omega))
    rw [Int.toNat_natCast] at I1
    have I2 := Lib.hid (fun w h h2 => ImCopy_ok A A2 n c m c2 xs zs w h h2 hn hm (by omega) (by omega) (by omega))
    rw [← hm] at I2
    have H1 := Lib.hid h
    have H2 := Lib.hid h2
    have hle' : decide (m ≤ n) = true := by simpa using hle
    clear h hn h2 hm h00
    rcases hq with hq | ⟨hq, hq2⟩
    all_goals
      go_enter Try.func12, Try.ntmps12
      go_wp2_with fail
      refine (F1.out _).mono ?_; rintro e w' ⟨rfl, rfl⟩
      go_wp2_with fail
      refine (F2.out _).mono ?_; rintro e w' ⟨rfl, rfl⟩
      go_wp2_with fail
      refine (I1.out _ _ H1.out).mono ?_
      rintro e w1 ⟨A3, c3, A4, c4, rfl, hr3, hr4, hk1⟩
      have R3 := Lib.hid hr3
      have R4 := Lib.hid hr4
      have K1 := Lib.hid hk1
      have G1 := Lib.hid ((H1.out.only hk1 (by simp) (Nat.le_refl _)).more hk1.size)
      have G2 := Lib.hid ((H2.out.only hk1 (by simp) (Nat.le_refl _)).more hk1.size)
      clear hr3 hr4 hk1
      go_wp2_with fail
      refine (I2.out _ G1.out G2.out).mono ?_
      rintro e w2 ⟨A5, c5, A6, c6, rfl, hr5, hr6, hk2⟩
      have R5 := Lib.hid hr5
      have R6 := Lib.hid hr6
      have K2 := Lib.hid hk2
      clear hr5 hr6 hk2
      go_wp2_with fail
      refine (same_yes _ _ _ _ _ _ (xs.take m) (xs.take m) _ w1.heap.size w2.heap.size (R3.out.only K2.out (by simp) (Nat.le_refl _)) R5.out (by simp) (by simp) rfl).mono ?_
      rintro e w' ⟨rfl, rfl⟩
      go_wp2_with fail
      refine (same_yes _ _ _ _ _ _ (xs.drop m) (xs.drop m) _ w1.heap.size w2.heap.size (R4.out.only K2.out (by simp) (Nat.le_refl _)) R6.out (by simp) (by simp) rfl).mono ?_
      rintro e w' ⟨rfl, rfl⟩
      go_wp2_with fail
      go_ret
      exact ⟨rfl, (K1.out.trans K2.out).belowN⟩
  · have I1 := Lib.hid (fun w B h => ImReadBytes_no A n c xs w B h hn (by omega) m (.inr (by omega)))
    have I2 := Lib.hid (fun w h h2 => ImCopy_no A A2 n c m c2 xs zs w h h2 hn hm (by omega) (by omega))
    have H1 := Lib.hid h
    have H2 := Lib.hid h2
    have hle' : decide (m ≤ n) = false := by simpa using hle
    clear h hn h2 hm h00
    rcases hq with hq | ⟨hq, hq2⟩
    all_goals
      go_enter Try.func12, Try.ntmps12
      go_wp2_with fail
      refine (F1.out _).mono ?_; rintro e w' ⟨rfl, rfl⟩
      go_wp2_with fail
      refine (F2.out _).mono ?_; rintro e w' ⟨rfl, rfl⟩
      go_wp2_with fail
      refine (I1.out _ _ H1.out).mono ?_
      rintro e w1 ⟨A3, c3, A4, c4, rfl, hr3, hr4, hk1⟩
      have K1 := Lib.hid hk1
      have G1 := Lib.hid ((H1.out.only hk1 (by simp) (Nat.le_refl _)).more hk1.size)
      have G2 := Lib.hid ((H2.out.only hk1 (by simp) (Nat.le_refl _)).more hk1.size)
      clear hr3 hr4 hk1
      go_wp2_with fail
      refine (I2.out _ G1.out G2.out).mono ?_
      rintro e w2 ⟨A5, c5, A6, c6, rfl, hr5, hr6, hk2⟩
      have K2 := Lib.hid hk2
      clear hr5 hr6 hk2
      go_wp2_with fail
      go_ret
      exact ⟨rfl, (K1.out.trans K2.out).belowN⟩
end Go.Proofs.Ytglgiplmolmdoaa
