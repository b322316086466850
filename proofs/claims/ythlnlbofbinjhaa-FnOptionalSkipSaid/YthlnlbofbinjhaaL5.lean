/- The laws on reading elements of a tag, truths and numbers: walks. -/
import Derived.Test.YthlnlbofbinjhaaIm4
import Derived.Test.YthlnlbofbinjhaaSp4
import Derived.Test.YthlnlbofbinjhaaL1
import Derived.Test.YthlnlbofbinjhaaTag
namespace Go.Proofs.Ythlnlbofbinjhaa
open Go.RowKit


theorem law_FnExactReadASN1 (A : Option Addr) (n c : Nat) (xs : List Int) (tag : Int) (w : World) (h : Rd w w.heap.size A xs) (hn : n = xs.length) (hc : n ≤ c) (_hcm : c ≤ maxLen) :
    Calls Try.prog 3 #[.slice A n c, .int .i64 tag] w fun e w' => e = .returned (.bool true) ∧ Below w.heap.size w w' := by
  by_cases hz0 : 2147483647 < n
  · clear h hn
    go_enter Try.func3, Try.ntmps3
    go_wp2_with fail
    go_ret
    exact ⟨rfl, Below.refl _ _⟩
  have hz : n ≤ 2147483647 := by omega
  clear hz0
  by_cases ht : 0 ≤ tag ∧ tag ≤ 255
  case neg =>
    have HT := Lib.hid (fun w => tagOk_no tag w (by omega))
    clear h hn ht
    go_enter Try.func3, Try.ntmps3
    go_wp2_with fail
    refine (HT.out _).mono ?_; rintro e w' ⟨rfl, rfl⟩
    go_wp2_with fail
    go_ret
    exact ⟨rfl, Below.refl _ _⟩
  have HT := Lib.hid (fun w => tagOk_yes tag w ht.1 ht.2)
  by_cases hbig : 1048576 < n
  · have HF := Lib.hid (fun w => fits_no A n c w hbig)
    clear h hn ht
    go_enter Try.func3, Try.ntmps3
    go_wp2_with fail
    refine (HT.out _).mono ?_; rintro e w' ⟨rfl, rfl⟩
    go_wp2_with fail
    refine (HF.out _).mono ?_; rintro e w' ⟨rfl, rfl⟩
    go_wp2_with fail
    go_ret
    exact ⟨rfl, Below.refl _ _⟩
  have HF := Lib.hid (fun w => fits_yes A n c w (by omega))
  have I := Lib.hid (fun w B h => ImReadASN1_of A n c xs w B h hn (by omega) tag ht)
  have FO := Lib.hid (fun w B h hB => firstOf_any A n c xs tag w B h hn hc _hcm hB (by omega))
  have HH := Lib.hid h
  clear h hn ht hbig
  go_enter Try.func3, Try.ntmps3
  go_wp2_with fail
  refine (HT.out _).mono ?_; rintro e w' ⟨rfl, rfl⟩
  go_wp2_with fail
  refine (HF.out _).mono ?_; rintro e w' ⟨rfl, rfl⟩
  go_wp2_with fail
  refine (I.out _ _ HH.out).mono ?_
  rintro e w1 ⟨ok, zs, ys, A0, c0, A1, c1, rfl, hr0, hr1, hk1, _, _, hg⟩
  have R0 := Lib.hid hr0
  have R1 := Lib.hid hr1
  have K1 := Lib.hid hk1
  clear hr0 hr1 hk1
  go_wp2_with fail
  refine (FO.out _ _ (HH.out.only K1.out (by simp) (Nat.le_refl _)) K1.out.size).mono ?_
  intro e w2 hF
  unfold FirstOfSaid at hF
  obtain ⟨hk2, hF⟩ := hF
  have K2 := Lib.hid (K1.out.trans hk2)
  have KK := Lib.hid hk2
  revert hF hg
  clear hk2
  cases firstOf xs tag with
  | none =>
    intro hg hF
    have hg : ok = false := hg
    subst hg hF
    go_wp2_with fail
    go_ret
    exact ⟨rfl, K2.out.belowN⟩
  | some q =>
    obtain ⟨cc, r⟩ := q
    intro hg
    obtain ⟨rfl, rfl, rfl⟩ : ok = true ∧ zs = cc ∧ ys = r := hg
    rintro ⟨A3, k3, A4, k4, rfl, _, _, _, _, hr3, hr4⟩
    have R3 := Lib.hid hr3
    have R4 := Lib.hid hr4
    clear hr3 hr4
    go_wp2_with fail
    refine (same_yes _ _ _ _ _ _ _ _ _ w1.heap.size w.heap.size (R0.out.only KK.out (by simp) (Nat.le_refl _)) R3.out rfl rfl rfl).mono ?_
    rintro e w' ⟨rfl, rfl⟩
    go_wp2_with fail
    refine (same_yes _ _ _ _ _ _ _ _ _ w1.heap.size w.heap.size (R1.out.only KK.out (by simp) (Nat.le_refl _)) R4.out rfl rfl rfl).mono ?_
    rintro e w' ⟨rfl, rfl⟩
    go_wp2_with fail
    go_ret
    exact ⟨rfl, K2.out.belowN⟩

theorem law_FnExactReadASN1Bytes (A : Option Addr) (n c : Nat) (xs : List Int) (tag : Int) (w : World) (h : Rd w w.heap.size A xs) (hn : n = xs.length) (hc : n ≤ c) (_hcm : c ≤ maxLen) :
    Calls Try.prog 4 #[.slice A n c, .int .i64 tag] w fun e w' => e = .returned (.bool true) ∧ Below w.heap.size w w' := by
  by_cases hz0 : 2147483647 < n
  · clear h hn
    go_enter Try.func4, Try.ntmps4
    go_wp2_with fail
    go_ret
    exact ⟨rfl, Below.refl _ _⟩
  have hz : n ≤ 2147483647 := by omega
  clear hz0
  by_cases ht : 0 ≤ tag ∧ tag ≤ 255
  case neg =>
    have HT := Lib.hid (fun w => tagOk_no tag w (by omega))
    clear h hn ht
    go_enter Try.func4, Try.ntmps4
    go_wp2_with fail
    refine (HT.out _).mono ?_; rintro e w' ⟨rfl, rfl⟩
    go_wp2_with fail
    go_ret
    exact ⟨rfl, Below.refl _ _⟩
  have HT := Lib.hid (fun w => tagOk_yes tag w ht.1 ht.2)
  by_cases hbig : 1048576 < n
  · have HF := Lib.hid (fun w => fits_no A n c w hbig)
    clear h hn ht
    go_enter Try.func4, Try.ntmps4
    go_wp2_with fail
    refine (HT.out _).mono ?_; rintro e w' ⟨rfl, rfl⟩
    go_wp2_with fail
    refine (HF.out _).mono ?_; rintro e w' ⟨rfl, rfl⟩
    go_wp2_with fail
    go_ret
    exact ⟨rfl, Below.refl _ _⟩
  have HF := Lib.hid (fun w => fits_yes A n c w (by omega))
  have I := Lib.hid (fun w B h => ImReadASN1Bytes_of A n c xs w B h hn (by omega) tag ht)
  have FO := Lib.hid (fun w B h hB => firstOf_any A n c xs tag w B h hn hc _hcm hB (by omega))
  have HH := Lib.hid h
  clear h hn ht hbig
  go_enter Try.func4, Try.ntmps4
  go_wp2_with fail
  refine (HT.out _).mono ?_; rintro e w' ⟨rfl, rfl⟩
  go_wp2_with fail
  refine (HF.out _).mono ?_; rintro e w' ⟨rfl, rfl⟩
  go_wp2_with fail
  refine (I.out _ _ HH.out).mono ?_
  rintro e w1 ⟨ok, zs, ys, A0, c0, A1, c1, rfl, hr0, hr1, hk1, _, _, hg⟩
  have R0 := Lib.hid hr0
  have R1 := Lib.hid hr1
  have K1 := Lib.hid hk1
  clear hr0 hr1 hk1
  go_wp2_with fail
  refine (FO.out _ _ (HH.out.only K1.out (by simp) (Nat.le_refl _)) K1.out.size).mono ?_
  intro e w2 hF
  unfold FirstOfSaid at hF
  obtain ⟨hk2, hF⟩ := hF
  have K2 := Lib.hid (K1.out.trans hk2)
  have KK := Lib.hid hk2
  revert hF hg
  clear hk2
  cases firstOf xs tag with
  | none =>
    intro hg hF
    have hg : ok = false := hg
    subst hg hF
    go_wp2_with fail
    go_ret
    exact ⟨rfl, K2.out.belowN⟩
  | some q =>
    obtain ⟨cc, r⟩ := q
    intro hg
    obtain ⟨rfl, rfl, rfl⟩ : ok = true ∧ zs = cc ∧ ys = r := hg
    rintro ⟨A3, k3, A4, k4, rfl, _, _, _, _, hr3, hr4⟩
    have R3 := Lib.hid hr3
    have R4 := Lib.hid hr4
    clear hr3 hr4
    go_wp2_with fail
    refine (same_yes _ _ _ _ _ _ _ _ _ w1.heap.size w.heap.size (R0.out.only KK.out (by simp) (Nat.le_refl _)) R3.out rfl rfl rfl).mono ?_
    rintro e w' ⟨rfl, rfl⟩
    go_wp2_with fail
    refine (same_yes _ _ _ _ _ _ _ _ _ w1.heap.size w.heap.size (R1.out.only KK.out (by simp) (Nat.le_refl _)) R4.out rfl rfl rfl).mono ?_
    rintro e w' ⟨rfl, rfl⟩
    go_wp2_with fail
    go_ret
    exact ⟨rfl, K2.out.belowN⟩

theorem law_FnExactReadBool (A : Option Addr) (n c : Nat) (xs : List Int) (w : World) (h : Rd w w.heap.size A xs) (hn : n = xs.length) (hc : n ≤ c) (_hcm : c ≤ maxLen) :
    Calls Try.prog 10 #[.slice A n c] w fun e w' => e = .returned (.bool true) ∧ Below w.heap.size w w' := by
  by_cases hbig : 1048576 < n
  · clear h hn
    have F := fun w => fits_no A n c w hbig
    have HF := Lib.hid F
    clear F
    by_cases hz : 2147483647 < n
    · go_enter Try.func10, Try.ntmps10
      go_wp2_with fail
      go_ret
      exact ⟨rfl, Below.refl _ _⟩
    · go_enter Try.func10, Try.ntmps10
      go_wp2_with fail
      refine (HF.out _).mono ?_; rintro e w' ⟨rfl, rfl⟩
      go_wp2_with fail
      go_ret
      exact ⟨rfl, Below.refl _ _⟩
  have F := fun w => fits_yes A n c w (by omega)
  have HF := Lib.hid F
  clear F
  have hz : n ≤ 2147483647 := by omega
  have I := Lib.hid (fun w B h => ImReadBool_of A n c xs w B h hn (by omega))
  have FO := Lib.hid (fun w B h hB => firstOf_any A n c xs 1 w B h hn hc _hcm hB (by omega))
  have HNil : Hid (boolOf [] = none) := Lib.hid (by simp [boolOf])
  have HH := Lib.hid h
  clear h hn hbig
  go_enter Try.func10, Try.ntmps10
  go_wp2_with fail
  refine (HF.out _).mono ?_; rintro e w' ⟨rfl, rfl⟩
  go_wp2_with fail
  refine (I.out _ _ HH.out).mono ?_
  rintro e w1 ⟨ok, x, ys, A1, c1, rfl, hr1, hk1, _, hg⟩
  have R1 := Lib.hid hr1
  have K1 := Lib.hid hk1
  clear hr1 hk1
  unfold asOf at hg
  go_wp2_with fail
  refine (FO.out _ _ (HH.out.only K1.out (by simp) (Nat.le_refl _)) K1.out.size).mono ?_
  intro e w2 hF
  unfold FirstOfSaid at hF
  obtain ⟨hk2, hF⟩ := hF
  have K2 := Lib.hid (K1.out.trans hk2)
  have KK := Lib.hid hk2
  revert hF hg
  clear hk2
  cases firstOf xs 1 with
  | none =>
    intro hg hF
    have hg : ok = false := hg
    subst hg hF
    go_wp2_with fail
    refine (boolOf_any none 0 0 [] w2 0 (Rd.nil _ _ _) rfl).mono ?_
    rw [HNil.out]
    rintro e w' ⟨rfl, rfl⟩
    go_wp2_with fail
    go_ret
    exact ⟨rfl, K2.out.belowN⟩
  | some q =>
    obtain ⟨cc, r⟩ := q
    intro hg
    rintro ⟨A3, k3, A4, k4, rfl, _, _, _, _, hr3, hr4⟩
    have R3 := Lib.hid hr3
    have R4 := Lib.hid hr4
    clear hr3 hr4
    go_wp2_with fail
    refine (boolOf_any A3 _ k3 cc w2 _ R3.out rfl).mono ?_
    revert hg
    cases boolOf cc with
    | none =>
      intro hg
      have hg : ok = false := hg
      subst hg
      rintro e w' ⟨rfl, rfl⟩
      go_wp2_with fail
      go_ret
      exact ⟨rfl, K2.out.belowN⟩
    | some v =>
      intro hg
      obtain ⟨rfl, rfl, rfl⟩ : ok = true ∧ x = v ∧ ys = r := hg
      rintro e w' ⟨rfl, rfl⟩
      simp only [Option.getD_some, Option.isSome_some]
      go_wp2_with fail
      all_goals
        refine (same_yes _ _ _ _ _ _ _ _ _ w1.heap.size w.heap.size (R1.out.only KK.out (by simp) (Nat.le_refl _)) R4.out rfl rfl rfl).mono ?_
        rintro e w' ⟨rfl, rfl⟩
        go_wp2_with fail
        go_ret
        exact ⟨rfl, K2.out.belowN⟩



theorem law_FnPeekRead (A : Option Addr) (n c : Nat) (xs : List Int) (tag : Int) (w : World) (h : Rd w w.heap.size A xs) (hn : n = xs.length) (hc : n ≤ c) (_hcm : c ≤ maxLen) :
    Calls Try.prog 5 #[.slice A n c, .int .i64 tag] w fun e w' => e = .returned (.bool true) ∧ Below w.heap.size w w' := by
  by_cases hz0 : 2147483647 < n
  · clear h hn
    go_enter Try.func5, Try.ntmps5
    go_wp2_with fail
    go_ret
    exact ⟨rfl, Below.refl _ _⟩
  have hz : n ≤ 2147483647 := by omega
  clear hz0
  by_cases ht : 0 ≤ tag ∧ tag ≤ 255
  case neg =>
    have HT := Lib.hid (fun w => tagOk_no tag w (by omega))
    clear h hn ht
    go_enter Try.func5, Try.ntmps5
    go_wp2_with fail
    refine (HT.out _).mono ?_; rintro e w' ⟨rfl, rfl⟩
    go_wp2_with fail
    go_ret
    exact ⟨rfl, Below.refl _ _⟩
  have HT := Lib.hid (fun w => tagOk_yes tag w ht.1 ht.2)
  by_cases hbig : 1048576 < n
  · have HF := Lib.hid (fun w => fits_no A n c w hbig)
    clear h hn ht
    go_enter Try.func5, Try.ntmps5
    go_wp2_with fail
    refine (HT.out _).mono ?_; rintro e w' ⟨rfl, rfl⟩
    go_wp2_with fail
    refine (HF.out _).mono ?_; rintro e w' ⟨rfl, rfl⟩
    go_wp2_with fail
    go_ret
    exact ⟨rfl, Below.refl _ _⟩
  have HF := Lib.hid (fun w => fits_yes A n c w (by omega))
  have I := Lib.hid (fun w B h => ImReadASN1_of A n c xs w B h hn (by omega) tag ht)
  have IP := Lib.hid (fun w B h => ImPeekTag A n c xs w B h hn (by omega) tag ht)
  have TG := Lib.hid (fun w B h hB => tagged_any A n c xs tag w B h hn hc _hcm hB (by omega))
  have HH := Lib.hid h
  clear h hn ht hbig
  go_enter Try.func5, Try.ntmps5
  go_wp2_with fail
  refine (HT.out _).mono ?_; rintro e w' ⟨rfl, rfl⟩
  go_wp2_with fail
  refine (HF.out _).mono ?_; rintro e w' ⟨rfl, rfl⟩
  go_wp2_with fail
  refine (I.out _ _ HH.out).mono ?_
  rintro e w1 ⟨ok, zs, ys, A0, c0, A1, c1, rfl, hr0, hr1, hk1, _, _, hg⟩
  have K1 := Lib.hid hk1
  clear hr0 hr1 hk1
  go_wp2_with fail
  refine (TG.out _ _ (HH.out.only K1.out (by simp) (Nat.le_refl _)) K1.out.size).mono ?_
  rintro e w2 ⟨rfl, hk2⟩
  have K2 := Lib.hid (K1.out.trans hk2)
  have KK2 := Lib.hid hk2
  clear hk2
  cases hf : firstOf xs tag with
  | none =>
    rw [hf] at hg
    have hg : ok = false := hg
    subst hg
    clear hf
    go_wp2_with fail
    go_ret
    exact ⟨rfl, K2.out.belowN⟩
  | some q =>
    rw [hf] at hg
    have hg : ok = true := hg.1
    subst hg
    have HP := Lib.hid (peek_firstOf hf)
    clear hf
    go_wp2_with fail
    refine (IP.out _ _ (HH.out.only K2.out (by simp) (Nat.le_refl _))).mono ?_
    rw [HP.out]
    rintro e w3 ⟨rfl, hk3⟩
    have K3 := Lib.hid (K2.out.trans hk3)
    clear hk3
    go_wp2_with fail
    go_ret
    exact ⟨rfl, K3.out.belowN⟩

theorem law_FnBytesASN1 (A : Option Addr) (n c : Nat) (xs : List Int) (tag : Int) (w : World) (h : Rd w w.heap.size A xs) (hn : n = xs.length) (hc : n ≤ c) (_hcm : c ≤ maxLen) :
    Calls Try.prog 6 #[.slice A n c, .int .i64 tag] w fun e w' => e = .returned (.bool true) ∧ Below w.heap.size w w' := by
  by_cases hz0 : 2147483647 < n
  · clear h hn
    go_enter Try.func6, Try.ntmps6
    go_wp2_with fail
    go_ret
    exact ⟨rfl, Below.refl _ _⟩
  have hz : n ≤ 2147483647 := by omega
  clear hz0
  by_cases ht : 0 ≤ tag ∧ tag ≤ 255
  case neg =>
    have HT := Lib.hid (fun w => tagOk_no tag w (by omega))
    clear h hn ht
    go_enter Try.func6, Try.ntmps6
    go_wp2_with fail
    refine (HT.out _).mono ?_; rintro e w' ⟨rfl, rfl⟩
    go_wp2_with fail
    go_ret
    exact ⟨rfl, Below.refl _ _⟩
  have HT := Lib.hid (fun w => tagOk_yes tag w ht.1 ht.2)
  by_cases hbig : 1048576 < n
  · have HF := Lib.hid (fun w => fits_no A n c w hbig)
    clear h hn ht
    go_enter Try.func6, Try.ntmps6
    go_wp2_with fail
    refine (HT.out _).mono ?_; rintro e w' ⟨rfl, rfl⟩
    go_wp2_with fail
    refine (HF.out _).mono ?_; rintro e w' ⟨rfl, rfl⟩
    go_wp2_with fail
    go_ret
    exact ⟨rfl, Below.refl _ _⟩
  have HF := Lib.hid (fun w => fits_yes A n c w (by omega))
  have I := Lib.hid (fun w B h => ImReadASN1_of A n c xs w B h hn (by omega) tag ht)
  have J := Lib.hid (fun w B h => ImReadASN1Bytes_of A n c xs w B h hn (by omega) tag ht)
  have TG := Lib.hid (fun w B h hB => tagged_any A n c xs tag w B h hn hc _hcm hB (by omega))
  have HH := Lib.hid h
  clear h hn ht hbig
  go_enter Try.func6, Try.ntmps6
  go_wp2_with fail
  refine (HT.out _).mono ?_; rintro e w' ⟨rfl, rfl⟩
  go_wp2_with fail
  refine (HF.out _).mono ?_; rintro e w' ⟨rfl, rfl⟩
  go_wp2_with fail
  refine (I.out _ _ HH.out).mono ?_
  rintro e w1 ⟨ok, zs, ys, A0, c0, A1, c1, rfl, hr0, hr1, hk1, _, _, hg⟩
  have R0 := Lib.hid hr0
  have R1 := Lib.hid hr1
  have K1 := Lib.hid hk1
  clear hr0 hr1 hk1
  go_wp2_with fail
  refine (J.out _ _ (HH.out.only K1.out (by simp) (Nat.le_refl _))).mono ?_
  rintro e w2 ⟨ok2, zs2, ys2, A2, c2, A3, c3, rfl, hr2, hr3, hk2, _, _, hg2⟩
  have R2 := Lib.hid hr2
  have R3 := Lib.hid hr3
  have KK2 := Lib.hid hk2
  have K2 := Lib.hid (K1.out.trans hk2)
  clear hr2 hr3 hk2
  go_wp2_with fail
  refine (TG.out _ _ (HH.out.only K2.out (by simp) (Nat.le_refl _)) K2.out.size).mono ?_
  rintro e w3 ⟨rfl, hk3⟩
  have K3 := Lib.hid (K2.out.trans hk3)
  have KK3 := Lib.hid hk3
  clear hk3
  cases hf : firstOf xs tag with
  | none =>
    rw [hf] at hg hg2
    have hg : ok = false := hg
    have hg2 : ok2 = false := hg2
    subst hg hg2
    clear hf
    go_wp2_with fail
    go_ret
    exact ⟨rfl, K3.out.belowN⟩
  | some q =>
    obtain ⟨cc, r⟩ := q
    rw [hf] at hg hg2
    obtain ⟨rfl, rfl, rfl⟩ : ok = true ∧ zs = cc ∧ ys = r := hg
    obtain ⟨rfl, rfl, rfl⟩ : ok2 = true ∧ zs2 = zs ∧ ys2 = ys := hg2
    clear hf
    go_wp2_with fail
    refine (same_yes _ _ _ _ _ _ _ _ _ w1.heap.size w2.heap.size ((R0.out.only KK2.out (by simp) (Nat.le_refl _)).only KK3.out (by simp) KK2.out.size) (R2.out.only KK3.out (by simp) (Nat.le_refl _)) rfl rfl rfl).mono ?_
    rintro e w' ⟨rfl, rfl⟩
    go_wp2_with fail
    refine (same_yes _ _ _ _ _ _ _ _ _ w1.heap.size w2.heap.size ((R1.out.only KK2.out (by simp) (Nat.le_refl _)).only KK3.out (by simp) KK2.out.size) (R3.out.only KK3.out (by simp) (Nat.le_refl _)) rfl rfl rfl).mono ?_
    rintro e w' ⟨rfl, rfl⟩
    go_wp2_with fail
    go_ret
    exact ⟨rfl, K3.out.belowN⟩
end Go.Proofs.Ythlnlbofbinjhaa
