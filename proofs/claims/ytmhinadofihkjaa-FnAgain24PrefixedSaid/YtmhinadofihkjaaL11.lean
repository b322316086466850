/- The laws on bytes that are read behind their length and added again: walks. -/
import Derived.Test.YtmhinadofihkjaaBl8
import Derived.Test.YtmhinadofihkjaaL1
import Derived.Test.YtmhinadofihkjaaIm2
namespace Go.Proofs.Ytmhinadofihkjaa
open Go.RowKit

theorem law_FnAgain8Prefixed (A : Option Addr) (n c : Nat) (xs : List Int) (w : World) (h : Rd w w.heap.size A xs) (hn : n = xs.length) (_hc : n ≤ c) (_hcm : c ≤ maxLen) :
    Calls Try.prog 13 #[.slice A n c] w fun e w' => e = .returned (.bool true) ∧ Below w.heap.size w w' := by
  by_cases hbig : 1048576 < n
  · clear h hn
    have F := fun w => fits_no A n c w hbig
    have HF := Lib.hid F
    clear F
    by_cases hz : 2147483647 < n
    · go_enter Try.func13, Try.ntmps13
      go_wp2_with fail
      go_ret
      exact ⟨rfl, Below.refl _ _⟩
    · go_enter Try.func13, Try.ntmps13
      go_wp2_with fail
      refine (HF.out _).mono ?_; rintro e w' ⟨rfl, rfl⟩
      go_wp2_with fail
      go_ret
      exact ⟨rfl, Below.refl _ _⟩
  have F := fun w => fits_yes A n c w (by omega)
  have HF := Lib.hid F
  clear F
  have hz : n ≤ 2147483647 := by omega
  have HH := Lib.hid h
  by_cases hl : 1 ≤ n
  · obtain ⟨s0, s1⟩ := beN_take_le3 xs h.byt 1 (by omega)
    have NU := Lib.hid (fun w B h => number_ok A n c 1 xs w B h hn (by omega) (by omega) (by omega) (by omega))
    obtain ⟨z, hz1⟩ : ∃ z, lpSize xs 1 = z := ⟨_, rfl⟩
    have hz2 : beN (xs.take 1) = (z : Int) := by rw [← hz1]; unfold lpSize; omega
    have hbd := beN_bd 1 (xs.take 1) (h.byt.take 1) (by simp; omega)
    have hbb := bigB_beN 1 (xs.take 1) (h.byt.take 1) (by simp; omega)
    rw [hz2] at NU s1 hbd hbb
    have hzm : z ≤ 16777215 := by omega
    have hw : IntKind.i64.wrap (z : Int) = z := IntWalk.i64_in _ (by omega)
    by_cases hf : z ≤ n - 1
    · have I := Lib.hid (fun w B h => ImRead8Prefixed_ok A n c xs w B h hn (by omega) (by omega) (by rw [hz1]; omega))
      rw [hz1] at I
      have hvl : ((xs.drop 1).take z).length = z := by simp; omega
      have AD := Lib.hid (fun A c w h => ImAdd8Prefixed_any A z c ((xs.drop 1).take z) w w.heap.size h hvl.symm (Nat.le_refl _) (by rw [hvl]; omega))
      have hfl : (fl false 1 ((xs.drop 1).take z).length).map (· ++ (xs.drop 1).take z) = some (xs.take 1 ++ (xs.drop 1).take z) := by
        rw [hvl]
        unfold fl
        have hlt : z < 256 ^ 1 := by
          have h := hbd.2
          rw [show (256 : Int) ^ 1 = 256 by decide] at h
          rw [show (256 : Nat) ^ 1 = 256 by decide]
          omega
        rw [if_neg (by decide), if_pos hlt, hbb]
        rfl
      rw [hfl] at AD
      have hall : xs.take 1 ++ (xs.drop 1).take z ++ xs.drop (1 + z) = xs := by
        rw [← List.drop_drop, List.append_assoc, List.take_append_drop, List.take_append_drop]
      have hvb : Byt (xs.take 1 ++ (xs.drop 1).take z) := (h.byt.take _).append ((h.byt.drop _).take _)
      have hrl : xs.length ≤ 1048576 := by omega
      obtain ⟨v, hv⟩ : ∃ v, (xs.drop 1).take z = v := ⟨_, rfl⟩
      obtain ⟨r, hr⟩ : ∃ r, xs.drop (1 + z) = r := ⟨_, rfl⟩
      obtain ⟨o, ho⟩ : ∃ o, xs.take 1 ++ v = o := ⟨_, rfl⟩
      rw [hv] at I AD hvl hall hvb
      rw [hr] at I hall
      rw [ho] at AD hall hvb
      have hlen : o.length + r.length ≤ 1048576 := by rw [← List.length_append, hall]; exact hrl
      have HVL := Lib.hid hvl
      have HA := Lib.hid (And.intro hall (And.intro hlen hvb))
      have HN := Lib.hid hn
      clear hn h hz1 hz2 s0 s1 hfl hbd hbb hvl hall hvb hrl hv hr ho hlen hbig NU hf
      go_enter Try.func13, Try.ntmps13
      go_wp2_with fail
      refine (HF.out _).mono ?_; rintro e w' ⟨rfl, rfl⟩
      go_wp2_with fail
      refine (I.out _ _ HH.out).mono ?_
      rintro e w1 ⟨A0, c0, A1, c1, rfl, hr0, hr1, hk1⟩
      have R0 := Lib.hid hr0
      have R1 := Lib.hid hr1
      have K1 := Lib.hid hk1
      clear hr0 hr1 hk1
      rw [HVL.out]
      go_wp2_with fail
      refine (AD.out _ _ _ R0.out).mono ?_
      rintro e w2 ⟨A2, c2, ys, ok, rfl, hr2, hk2, _, _, rfl, rfl⟩
      have R2 := Lib.hid hr2
      have K2 := Lib.hid hk2
      have K12 := Lib.hid (K1.out.trans hk2)
      clear hr2 hk2
      go_wp2_with fail
      refine (behind_any _ _ _ _ _ _ ys r w2 w2.heap.size w1.heap.size R2.out (R1.out.only K2.out (by simp) (Nat.le_refl _)) (Nat.le_refl _) K2.out.size rfl rfl (by have := HA.out.2.1; omega)).mono ?_
      rw [HA.out.1]
      rintro e w3 ⟨A3, c3, rfl, hc3, hm3, hown3, hk3⟩
      have R3 := Lib.hid (Rd.of_own HH.out.byt hown3)
      have K3 := Lib.hid (K12.out.trans hk3)
      clear hc3 hm3 hown3 hk3
      go_wp2_with fail
      refine (same_yes _ _ _ _ _ _ xs xs _ w3.heap.size w.heap.size R3.out (HH.out.only K3.out (by simp) (Nat.le_refl _)) rfl HN.out rfl).mono ?_
      rintro e w' ⟨rfl, rfl⟩
      go_wp2_with fail
      go_ret
      exact ⟨rfl, K3.out.belowN⟩
    · have hf' : ¬ (z : Int) ≤ (n : Int) - 1 := by omega
      have I := Lib.hid (fun w B h => ImRead8Prefixed_long A n c xs w B h hn (by omega) (by omega) (by rw [hz1]; omega))
      have hle : decide ((n : Int) - 1 < (z : Int)) = true := decide_eq_true (by omega)
      clear hn h hz1 hz2 s0 s1 hbd hbb hbig hf hf'
      go_enter Try.func13, Try.ntmps13
      go_wp2_with fail
      refine (HF.out _).mono ?_; rintro e w' ⟨rfl, rfl⟩
      go_wp2_with fail
      refine (I.out _ _ HH.out).mono ?_
      rintro e w1 ⟨A0, c0, A1, c1, rfl, hr0, hr1, hk1⟩
      have K1 := Lib.hid hk1
      clear hr0 hr1 hk1
      go_wp2_with fail
      refine (NU.out _ _ (HH.out.only K1.out (by simp) (Nat.le_refl _))).mono ?_; rintro e w' ⟨rfl, rfl⟩
      go_wp2_with fail
      go_ret
      exact ⟨rfl, K1.out.belowN⟩
  · have I := Lib.hid (fun w B h => ImRead8Prefixed_short A n c xs w B h hn (by omega) (by omega))
    have NU := Lib.hid (fun w => number_no A n c 1 w (by omega))
    clear h hn hbig hl
    go_enter Try.func13, Try.ntmps13
    go_wp2_with fail
    refine (HF.out _).mono ?_; rintro e w' ⟨rfl, rfl⟩
    go_wp2_with fail
    refine (I.out _ _ HH.out).mono ?_
    rintro e w1 ⟨A0, c0, A1, c1, rfl, hr0, hr1, hk1⟩
    have K1 := Lib.hid hk1
    clear hr0 hr1 hk1
    go_wp2_with fail
    refine (NU.out _).mono ?_; rintro e w' ⟨rfl, rfl⟩
    go_wp2_with fail
    go_ret
    exact ⟨rfl, K1.out.belowN⟩

theorem law_FnAgain16Prefixed (A : Option Addr) (n c : Nat) (xs : List Int) (w : World) (h : Rd w w.heap.size A xs) (hn : n = xs.length) (_hc : n ≤ c) (_hcm : c ≤ maxLen) :
    Calls Try.prog 11 #[.slice A n c] w fun e w' => e = .returned (.bool true) ∧ Below w.heap.size w w' := by
  by_cases hbig : 1048576 < n
  · clear h hn
    have F := fun w => fits_no A n c w hbig
    have HF := Lib.hid F
    clear F
    by_cases hz : 2147483647 < n
    · go_enter Try.func11, Try.ntmps11
      go_wp2_with fail
      go_ret
      exact ⟨rfl, Below.refl _ _⟩
    · go_enter Try.func11, Try.ntmps11
      go_wp2_with fail
      refine (HF.out _).mono ?_; rintro e w' ⟨rfl, rfl⟩
      go_wp2_with fail
      go_ret
      exact ⟨rfl, Below.refl _ _⟩
  have F := fun w => fits_yes A n c w (by omega)
  have HF := Lib.hid F
  clear F
  have hz : n ≤ 2147483647 := by omega
  have HH := Lib.hid h
  by_cases hl : 2 ≤ n
  · obtain ⟨s0, s1⟩ := beN_take_le3 xs h.byt 2 (by omega)
    have NU := Lib.hid (fun w B h => number_ok A n c 2 xs w B h hn (by omega) (by omega) (by omega) (by omega))
    obtain ⟨z, hz1⟩ : ∃ z, lpSize xs 2 = z := ⟨_, rfl⟩
    have hz2 : beN (xs.take 2) = (z : Int) := by rw [← hz1]; unfold lpSize; omega
    have hbd := beN_bd 2 (xs.take 2) (h.byt.take 2) (by simp; omega)
    have hbb := bigB_beN 2 (xs.take 2) (h.byt.take 2) (by simp; omega)
    rw [hz2] at NU s1 hbd hbb
    have hzm : z ≤ 16777215 := by omega
    have hw : IntKind.i64.wrap (z : Int) = z := IntWalk.i64_in _ (by omega)
    by_cases hf : z ≤ n - 2
    · have I := Lib.hid (fun w B h => ImRead16Prefixed_ok A n c xs w B h hn (by omega) (by omega) (by rw [hz1]; omega))
      rw [hz1] at I
      have hvl : ((xs.drop 2).take z).length = z := by simp; omega
      have AD := Lib.hid (fun A c w h => ImAdd16Prefixed_any A z c ((xs.drop 2).take z) w w.heap.size h hvl.symm (Nat.le_refl _) (by rw [hvl]; omega))
      have hfl : (fl false 2 ((xs.drop 2).take z).length).map (· ++ (xs.drop 2).take z) = some (xs.take 2 ++ (xs.drop 2).take z) := by
        rw [hvl]
        unfold fl
        have hlt : z < 256 ^ 2 := by
          have h := hbd.2
          rw [show (256 : Int) ^ 2 = 65536 by decide] at h
          rw [show (256 : Nat) ^ 2 = 65536 by decide]
          omega
        rw [if_neg (by decide), if_pos hlt, hbb]
        rfl
      rw [hfl] at AD
      have hall : xs.take 2 ++ (xs.drop 2).take z ++ xs.drop (2 + z) = xs := by
        rw [← List.drop_drop, List.append_assoc, List.take_append_drop, List.take_append_drop]
      have hvb : Byt (xs.take 2 ++ (xs.drop 2).take z) := (h.byt.take _).append ((h.byt.drop _).take _)
      have hrl : xs.length ≤ 1048576 := by omega
      obtain ⟨v, hv⟩ : ∃ v, (xs.drop 2).take z = v := ⟨_, rfl⟩
      obtain ⟨r, hr⟩ : ∃ r, xs.drop (2 + z) = r := ⟨_, rfl⟩
      obtain ⟨o, ho⟩ : ∃ o, xs.take 2 ++ v = o := ⟨_, rfl⟩
      rw [hv] at I AD hvl hall hvb
      rw [hr] at I hall
      rw [ho] at AD hall hvb
      have hlen : o.length + r.length ≤ 1048576 := by rw [← List.length_append, hall]; exact hrl
      have HVL := Lib.hid hvl
      have HA := Lib.hid (And.intro hall (And.intro hlen hvb))
      have HN := Lib.hid hn
      clear hn h hz1 hz2 s0 s1 hfl hbd hbb hvl hall hvb hrl hv hr ho hlen hbig NU hf
      go_enter Try.func11, Try.ntmps11
      go_wp2_with fail
      refine (HF.out _).mono ?_; rintro e w' ⟨rfl, rfl⟩
      go_wp2_with fail
      refine (I.out _ _ HH.out).mono ?_
      rintro e w1 ⟨A0, c0, A1, c1, rfl, hr0, hr1, hk1⟩
      have R0 := Lib.hid hr0
      have R1 := Lib.hid hr1
      have K1 := Lib.hid hk1
      clear hr0 hr1 hk1
      rw [HVL.out]
      go_wp2_with fail
      refine (AD.out _ _ _ R0.out).mono ?_
      rintro e w2 ⟨A2, c2, ys, ok, rfl, hr2, hk2, _, _, rfl, rfl⟩
      have R2 := Lib.hid hr2
      have K2 := Lib.hid hk2
      have K12 := Lib.hid (K1.out.trans hk2)
      clear hr2 hk2
      go_wp2_with fail
      refine (behind_any _ _ _ _ _ _ ys r w2 w2.heap.size w1.heap.size R2.out (R1.out.only K2.out (by simp) (Nat.le_refl _)) (Nat.le_refl _) K2.out.size rfl rfl (by have := HA.out.2.1; omega)).mono ?_
      rw [HA.out.1]
      rintro e w3 ⟨A3, c3, rfl, hc3, hm3, hown3, hk3⟩
      have R3 := Lib.hid (Rd.of_own HH.out.byt hown3)
      have K3 := Lib.hid (K12.out.trans hk3)
      clear hc3 hm3 hown3 hk3
      go_wp2_with fail
      refine (same_yes _ _ _ _ _ _ xs xs _ w3.heap.size w.heap.size R3.out (HH.out.only K3.out (by simp) (Nat.le_refl _)) rfl HN.out rfl).mono ?_
      rintro e w' ⟨rfl, rfl⟩
      go_wp2_with fail
      go_ret
      exact ⟨rfl, K3.out.belowN⟩
    · have hf' : ¬ (z : Int) ≤ (n : Int) - 2 := by omega
      have I := Lib.hid (fun w B h => ImRead16Prefixed_long A n c xs w B h hn (by omega) (by omega) (by rw [hz1]; omega))
      have hle : decide ((n : Int) - 2 < (z : Int)) = true := decide_eq_true (by omega)
      clear hn h hz1 hz2 s0 s1 hbd hbb hbig hf hf'
      go_enter Try.func11, Try.ntmps11
      go_wp2_with fail
      refine (HF.out _).mono ?_; rintro e w' ⟨rfl, rfl⟩
      go_wp2_with fail
      refine (I.out _ _ HH.out).mono ?_
      rintro e w1 ⟨A0, c0, A1, c1, rfl, hr0, hr1, hk1⟩
      have K1 := Lib.hid hk1
      clear hr0 hr1 hk1
      go_wp2_with fail
      refine (NU.out _ _ (HH.out.only K1.out (by simp) (Nat.le_refl _))).mono ?_; rintro e w' ⟨rfl, rfl⟩
      go_wp2_with fail
      go_ret
      exact ⟨rfl, K1.out.belowN⟩
  · have I := Lib.hid (fun w B h => ImRead16Prefixed_short A n c xs w B h hn (by omega) (by omega))
    have NU := Lib.hid (fun w => number_no A n c 2 w (by omega))
    clear h hn hbig hl
    go_enter Try.func11, Try.ntmps11
    go_wp2_with fail
    refine (HF.out _).mono ?_; rintro e w' ⟨rfl, rfl⟩
    go_wp2_with fail
    refine (I.out _ _ HH.out).mono ?_
    rintro e w1 ⟨A0, c0, A1, c1, rfl, hr0, hr1, hk1⟩
    have K1 := Lib.hid hk1
    clear hr0 hr1 hk1
    go_wp2_with fail
    refine (NU.out _).mono ?_; rintro e w' ⟨rfl, rfl⟩
    go_wp2_with fail
    go_ret
    exact ⟨rfl, K1.out.belowN⟩

theorem law_FnAgain24Prefixed (A : Option Addr) (n c : Nat) (xs : List Int) (w : World) (h : Rd w w.heap.size A xs) (hn : n = xs.length) (_hc : n ≤ c) (_hcm : c ≤ maxLen) :
    Calls Try.prog 12 #[.slice A n c] w fun e w' => e = .returned (.bool true) ∧ Below w.heap.size w w' := by
  by_cases hbig : 1048576 < n
  · clear h hn
    have F := fun w => fits_no A n c w hbig
    have HF := Lib.hid F
    clear F
    by_cases hz : 2147483647 < n
    · go_enter Try.func12, Try.ntmps12
      go_wp2_with fail
      go_ret
      exact ⟨rfl, Below.refl _ _⟩
    · go_enter Try.func12, Try.ntmps12
      go_wp2_with fail
      refine (HF.out _).mono ?_; rintro e w' ⟨rfl, rfl⟩
      go_wp2_with fail
      go_ret
      exact ⟨rfl, Below.refl _ _⟩
  have F := fun w => fits_yes A n c w (by omega)
  have HF := Lib.hid F
  clear F
  have hz : n ≤ 2147483647 := by omega
  have HH := Lib.hid h
  by_cases hl : 3 ≤ n
  · obtain ⟨s0, s1⟩ := beN_take_le3 xs h.byt 3 (by omega)
    have NU := Lib.hid (fun w B h => number_ok A n c 3 xs w B h hn (by omega) (by omega) (by omega) (by omega))
    obtain ⟨z, hz1⟩ : ∃ z, lpSize xs 3 = z := ⟨_, rfl⟩
    have hz2 : beN (xs.take 3) = (z : Int) := by rw [← hz1]; unfold lpSize; omega
    have hbd := beN_bd 3 (xs.take 3) (h.byt.take 3) (by simp; omega)
    have hbb := bigB_beN 3 (xs.take 3) (h.byt.take 3) (by simp; omega)
    rw [hz2] at NU s1 hbd hbb
    have hzm : z ≤ 16777215 := by omega
    have hw : IntKind.i64.wrap (z : Int) = z := IntWalk.i64_in _ (by omega)
    by_cases hf : z ≤ n - 3
    · have I := Lib.hid (fun w B h => ImRead24Prefixed_ok A n c xs w B h hn (by omega) (by omega) (by rw [hz1]; omega))
      rw [hz1] at I
      have hvl : ((xs.drop 3).take z).length = z := by simp; omega
      have AD := Lib.hid (fun A c w h => ImAdd24Prefixed_any A z c ((xs.drop 3).take z) w w.heap.size h hvl.symm (Nat.le_refl _) (by rw [hvl]; omega))
      have hfl : (fl false 3 ((xs.drop 3).take z).length).map (· ++ (xs.drop 3).take z) = some (xs.take 3 ++ (xs.drop 3).take z) := by
        rw [hvl]
        unfold fl
        have hlt : z < 256 ^ 3 := by
          have h := hbd.2
          rw [show (256 : Int) ^ 3 = 16777216 by decide] at h
          rw [show (256 : Nat) ^ 3 = 16777216 by decide]
          omega
        rw [if_neg (by decide), if_pos hlt, hbb]
        rfl
      rw [hfl] at AD
      have hall : xs.take 3 ++ (xs.drop 3).take z ++ xs.drop (3 + z) = xs := by
        rw [← List.drop_drop, List.append_assoc, List.take_append_drop, List.take_append_drop]
      have hvb : Byt (xs.take 3 ++ (xs.drop 3).take z) := (h.byt.take _).append ((h.byt.drop _).take _)
      have hrl : xs.length ≤ 1048576 := by omega
      obtain ⟨v, hv⟩ : ∃ v, (xs.drop 3).take z = v := ⟨_, rfl⟩
      obtain ⟨r, hr⟩ : ∃ r, xs.drop (3 + z) = r := ⟨_, rfl⟩
      obtain ⟨o, ho⟩ : ∃ o, xs.take 3 ++ v = o := ⟨_, rfl⟩
      rw [hv] at I AD hvl hall hvb
      rw [hr] at I hall
      rw [ho] at AD hall hvb
      have hlen : o.length + r.length ≤ 1048576 := by rw [← List.length_append, hall]; exact hrl
      have HVL := Lib.hid hvl
      have HA := Lib.hid (And.intro hall (And.intro hlen hvb))
      have HN := Lib.hid hn
      clear hn h hz1 hz2 s0 s1 hfl hbd hbb hvl hall hvb hrl hv hr ho hlen hbig NU hf
      go_enter Try.func12, Try.ntmps12
      go_wp2_with fail
      refine (HF.out _).mono ?_; rintro e w' ⟨rfl, rfl⟩
      go_wp2_with fail
      refine (I.out _ _ HH.out).mono ?_
      rintro e w1 ⟨A0, c0, A1, c1, rfl, hr0, hr1, hk1⟩
      have R0 := Lib.hid hr0
      have R1 := Lib.hid hr1
      have K1 := Lib.hid hk1
      clear hr0 hr1 hk1
      rw [HVL.out]
      go_wp2_with fail
      refine (AD.out _ _ _ R0.out).mono ?_
      rintro e w2 ⟨A2, c2, ys, ok, rfl, hr2, hk2, _, _, rfl, rfl⟩
      have R2 := Lib.hid hr2
      have K2 := Lib.hid hk2
      have K12 := Lib.hid (K1.out.trans hk2)
      clear hr2 hk2
      go_wp2_with fail
      refine (behind_any _ _ _ _ _ _ ys r w2 w2.heap.size w1.heap.size R2.out (R1.out.only K2.out (by simp) (Nat.le_refl _)) (Nat.le_refl _) K2.out.size rfl rfl (by have := HA.out.2.1; omega)).mono ?_
      rw [HA.out.1]
      rintro e w3 ⟨A3, c3, rfl, hc3, hm3, hown3, hk3⟩
      have R3 := Lib.hid (Rd.of_own HH.out.byt hown3)
      have K3 := Lib.hid (K12.out.trans hk3)
      clear hc3 hm3 hown3 hk3
      go_wp2_with fail
      refine (same_yes _ _ _ _ _ _ xs xs _ w3.heap.size w.heap.size R3.out (HH.out.only K3.out (by simp) (Nat.le_refl _)) rfl HN.out rfl).mono ?_
      rintro e w' ⟨rfl, rfl⟩
      go_wp2_with fail
      go_ret
      exact ⟨rfl, K3.out.belowN⟩
    · have hf' : ¬ (z : Int) ≤ (n : Int) - 3 := by omega
      have I := Lib.hid (fun w B h => ImRead24Prefixed_long A n c xs w B h hn (by omega) (by omega) (by rw [hz1]; omega))
      have hle : decide ((n : Int) - 3 < (z : Int)) = true := decide_eq_true (by omega)
      clear hn h hz1 hz2 s0 s1 hbd hbb hbig hf hf'
      go_enter Try.func12, Try.ntmps12
      go_wp2_with fail
      refine (HF.out _).mono ?_; rintro e w' ⟨rfl, rfl⟩
      go_wp2_with fail
      refine (I.out _ _ HH.out).mono ?_
      rintro e w1 ⟨A0, c0, A1, c1, rfl, hr0, hr1, hk1⟩
      have K1 := Lib.hid hk1
      clear hr0 hr1 hk1
      go_wp2_with fail
      refine (NU.out _ _ (HH.out.only K1.out (by simp) (Nat.le_refl _))).mono ?_; rintro e w' ⟨rfl, rfl⟩
      go_wp2_with fail
      go_ret
      exact ⟨rfl, K1.out.belowN⟩
  · have I := Lib.hid (fun w B h => ImRead24Prefixed_short A n c xs w B h hn (by omega) (by omega))
    have NU := Lib.hid (fun w => number_no A n c 3 w (by omega))
    clear h hn hbig hl
    go_enter Try.func12, Try.ntmps12
    go_wp2_with fail
    refine (HF.out _).mono ?_; rintro e w' ⟨rfl, rfl⟩
    go_wp2_with fail
    refine (I.out _ _ HH.out).mono ?_
    rintro e w1 ⟨A0, c0, A1, c1, rfl, hr0, hr1, hk1⟩
    have K1 := Lib.hid hk1
    clear hr0 hr1 hk1
    go_wp2_with fail
    refine (NU.out _).mono ?_; rintro e w' ⟨rfl, rfl⟩
    go_wp2_with fail
    go_ret
    exact ⟨rfl, K1.out.belowN⟩

end Go.Proofs.Ytmhinadofihkjaa
