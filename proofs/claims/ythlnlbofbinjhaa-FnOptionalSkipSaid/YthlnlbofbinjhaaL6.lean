/- The laws on optional elements: walks. -/
import Derived.Test.YthlnlbofbinjhaaL5
namespace Go.Proofs.Ythlnlbofbinjhaa
open Go.RowKit

theorem law_FnExactSkipOptional (A : Option Addr) (n c : Nat) (xs : List Int) (tag : Int) (w : World) (h : Rd w w.heap.size A xs) (hn : n = xs.length) (hc : n ≤ c) (_hcm : c ≤ maxLen) :
    Calls Try.prog 7 #[.slice A n c, .int .i64 tag] w fun e w' => e = .returned (.bool true) ∧ Below w.heap.size w w' := by
  by_cases hz0 : 2147483647 < n
  · clear h hn
    go_enter Try.func7, Try.ntmps7
    go_wp2_with fail
    go_ret
    exact ⟨rfl, Below.refl _ _⟩
  have hz : n ≤ 2147483647 := by omega
  clear hz0
  by_cases ht : 0 ≤ tag ∧ tag ≤ 255
  case neg =>
    have HT := Lib.hid (fun w => tagOk_no tag w (by omega))
    clear h hn ht
    go_enter Try.func7, Try.ntmps7
    go_wp2_with fail
    refine (HT.out _).mono ?_; rintro e w' ⟨rfl, rfl⟩
    go_wp2_with fail
    go_ret
    exact ⟨rfl, Below.refl _ _⟩
  have HT := Lib.hid (fun w => tagOk_yes tag w ht.1 ht.2)
  by_cases hbig : 1048576 < n
  · have HF := Lib.hid (fun w => fits_no A n c w hbig)
    clear h hn ht
    go_enter Try.func7, Try.ntmps7
    go_wp2_with fail
    refine (HT.out _).mono ?_; rintro e w' ⟨rfl, rfl⟩
    go_wp2_with fail
    refine (HF.out _).mono ?_; rintro e w' ⟨rfl, rfl⟩
    go_wp2_with fail
    go_ret
    exact ⟨rfl, Below.refl _ _⟩
  have HF := Lib.hid (fun w => fits_yes A n c w (by omega))
  have I := Lib.hid (fun w B h => ImSkipOptional_of A n c xs w B h hn (by omega) tag ht)
  have FO := Lib.hid (fun w B h hB => firstOf_any A n c xs tag w B h hn hc _hcm hB (by omega))
  have HN := Lib.hid hn
  have HH := Lib.hid h
  cases hp : peek xs tag with
  | false =>
    have HS := Lib.hid (skipOpt_no hp)
    rcases peek_no hp with h0 | ⟨h0, h1⟩
    · have hn0 : n = 0 := by omega
      subst hn0
      clear h hn ht hbig hp h0
      go_enter Try.func7, Try.ntmps7
      go_wp2_with fail
      refine (HT.out _).mono ?_; rintro e w' ⟨rfl, rfl⟩
      go_wp2_with fail
      refine (HF.out _).mono ?_; rintro e w' ⟨rfl, rfl⟩
      go_wp2_with fail
      refine (I.out _ _ HH.out).mono ?_
      rintro e w1 ⟨ok, ys, A1, c1, rfl, hr1, hk1, _, hg⟩
      rw [HS.out] at hg
      have R1 := Lib.hid hr1
      have K1 := Lib.hid hk1
      clear hr1 hk1
      obtain ⟨rfl, _, rfl⟩ : ok = true ∧ () = () ∧ ys = xs := hg
      go_wp2_with fail
      refine (same_yes _ _ _ _ _ _ _ _ _ w1.heap.size w.heap.size R1.out (HH.out.only K1.out (by simp) (Nat.le_refl _)) rfl HN.out rfl).mono ?_
      rintro e w' ⟨rfl, rfl⟩
      go_wp2_with fail
      go_ret
      exact ⟨rfl, K1.out.belowN⟩
    · have hz1 : ((n : Int) == 0) = false := beq_eq_false_iff_ne.2 (by omega)
      have hz2 : decide (0 < (n : Int)) = true := decide_eq_true (by omega)
      have hpos : 0 < n := by omega
      obtain ⟨ab, aoff, rfl, hab, hcells⟩ := h.2 h0
      have hcell0 := hcells 0 h0
      rw [Nat.add_zero] at hcell0
      have hx : (xs.getD 0 0 != tag) = true := by simpa using h1
      have hx2 : (xs.getD 0 0 == tag) = false := by simpa using h1
      obtain ⟨y0, y1⟩ := Byt.getD h.byt 0
      have hwx : wrap64 (xs.getD 0 0) = xs.getD 0 0 := IntWalk.wrap64_in _ (by omega)
      clear h hn ht hbig hp h0 h1 hcells
      generalize xs.getD 0 0 = x0 at *
      go_enter Try.func7, Try.ntmps7
      go_wp2_with fail
      refine (HT.out _).mono ?_; rintro e w' ⟨rfl, rfl⟩
      go_wp2_with fail
      refine (HF.out _).mono ?_; rintro e w' ⟨rfl, rfl⟩
      go_wp2_with fail
      refine (I.out _ _ HH.out).mono ?_
      rintro e w1 ⟨ok, ys, A1, c1, rfl, hr1, hk1, _, hg⟩
      rw [HS.out] at hg
      have R1 := Lib.hid hr1
      have K1 := Lib.hid hk1
      have hcell1 := (hk1.cell (p := ⟨ab, aoff, none⟩) hab (by simp)).trans hcell0
      clear hr1 hk1
      obtain ⟨rfl, _, rfl⟩ : ok = true ∧ () = () ∧ ys = xs := hg
      go_wp2_with fail
      refine (same_yes _ _ _ _ _ _ _ _ _ w1.heap.size w.heap.size R1.out (HH.out.only K1.out (by simp) (Nat.le_refl _)) rfl HN.out rfl).mono ?_
      rintro e w' ⟨rfl, rfl⟩
      go_wp2_with fail
      go_ret
      exact ⟨rfl, K1.out.belowN⟩
  | true =>
    have HS := Lib.hid (skipOpt_yes hp)
    obtain ⟨h0, h1⟩ := peek_yes hp
    have hz1 : ((n : Int) == 0) = false := beq_eq_false_iff_ne.2 (by omega)
    have hz2 : decide (0 < (n : Int)) = true := decide_eq_true (by omega)
    have hpos : 0 < n := by omega
    obtain ⟨ab, aoff, rfl, hab, hcells⟩ := h.2 h0
    have hcell0 := hcells 0 h0
    rw [Nat.add_zero, h1] at hcell0
    have hx : (tag != tag) = false := by simp
    have hwx : wrap64 tag = tag := IntWalk.wrap64_in _ (by omega)
    clear h hn ht hbig hp h0 h1 hcells
    go_enter Try.func7, Try.ntmps7
    go_wp2_with fail
    refine (HT.out _).mono ?_; rintro e w' ⟨rfl, rfl⟩
    go_wp2_with fail
    refine (HF.out _).mono ?_; rintro e w' ⟨rfl, rfl⟩
    go_wp2_with fail
    refine (I.out _ _ HH.out).mono ?_
    rintro e w1 ⟨ok, ys, A1, c1, rfl, hr1, hk1, _, hg⟩
    rw [HS.out] at hg
    have R1 := Lib.hid hr1
    have K1 := Lib.hid hk1
    have hcell1 := (hk1.cell (p := ⟨ab, aoff, none⟩) hab (by simp)).trans hcell0
    clear hr1 hk1
    go_wp2_with fail
    refine (FO.out _ _ (HH.out.only K1.out (by simp) (Nat.le_refl _)) K1.out.size).mono ?_
    intro e w2 hF
    unfold FirstOfSaid at hF
    obtain ⟨hk2, hF⟩ := hF
    have K2 := Lib.hid (K1.out.trans hk2)
    have hcell2 := (K2.out.cell (p := ⟨ab, aoff, none⟩) hab (by simp)).trans hcell0
    have KK := Lib.hid hk2
    revert hF hg
    clear hk2
    cases firstOf xs tag with
    | none =>
      intro hg hF
      have hg : ok = false := hg
      subst hg hF
      go_wp2_with fail
      go_ret
      exact ⟨rfl, K2.out.belowN⟩
    | some q =>
      obtain ⟨cc, r⟩ := q
      intro hg
      obtain ⟨rfl, _, rfl⟩ : ok = true ∧ () = () ∧ ys = r := hg
      rintro ⟨A3, k3, A4, k4, rfl, _, _, _, _, hr3, hr4⟩
      have R4 := Lib.hid hr4
      clear hr3 hr4
      go_wp2_with fail
      refine (same_yes _ _ _ _ _ _ _ _ _ w1.heap.size w.heap.size (R1.out.only KK.out (by simp) (Nat.le_refl _)) R4.out rfl rfl rfl).mono ?_
      rintro e w' ⟨rfl, rfl⟩
      go_wp2_with fail
      go_ret
      exact ⟨rfl, K2.out.belowN⟩

theorem law_FnExactReadOptionalOctets (A : Option Addr) (n c : Nat) (xs : List Int) (tag : Int) (w : World) (h : Rd w w.heap.size A xs) (hn : n = xs.length) (hc : n ≤ c) (_hcm : c ≤ maxLen) :
    Calls Try.prog 9 #[.slice A n c, .int .i64 tag] w fun e w' => e = .returned (.bool true) ∧ Below w.heap.size w w' := by
  by_cases hz0 : 2147483647 < n
  · clear h hn
    go_enter Try.func9, Try.ntmps9
    go_wp2_with fail
    go_ret
    exact ⟨rfl, Below.refl _ _⟩
  have hz : n ≤ 2147483647 := by omega
  clear hz0
  by_cases ht : 0 ≤ tag ∧ tag ≤ 255
  case neg =>
    have HT := Lib.hid (fun w => tagOk_no tag w (by omega))
    clear h hn ht
    go_enter Try.func9, Try.ntmps9
    go_wp2_with fail
    refine (HT.out _).mono ?_; rintro e w' ⟨rfl, rfl⟩
    go_wp2_with fail
    go_ret
    exact ⟨rfl, Below.refl _ _⟩
  have HT := Lib.hid (fun w => tagOk_yes tag w ht.1 ht.2)
  by_cases hbig : 1048576 < n
  · have HF := Lib.hid (fun w => fits_no A n c w hbig)
    clear h hn ht
    go_enter Try.func9, Try.ntmps9
    go_wp2_with fail
    refine (HT.out _).mono ?_; rintro e w' ⟨rfl, rfl⟩
    go_wp2_with fail
    refine (HF.out _).mono ?_; rintro e w' ⟨rfl, rfl⟩
    go_wp2_with fail
    go_ret
    exact ⟨rfl, Below.refl _ _⟩
  have HF := Lib.hid (fun w => fits_yes A n c w (by omega))
  have I := Lib.hid (fun w B h => ImReadOptionalOctets_of A n c xs w B h hn (by omega) tag ht)
  have FO := Lib.hid (fun w B h hB => firstOf_any A n c xs tag w B h hn hc _hcm hB (by omega))
  have HN := Lib.hid hn
  have HL := Lib.hid (show xs.length ≤ 1048576 by omega)
  have HH := Lib.hid h
  cases hp : peek xs tag with
  | false =>
    have HS := Lib.hid (readOpt8_no hp)
    have HP := Lib.hid hp
    rcases peek_no hp with h0 | ⟨h0, h1⟩
    · have hn0 : n = 0 := by omega
      subst hn0
      clear h hn ht hbig hp h0
      go_enter Try.func9, Try.ntmps9
      go_wp2_with fail
      refine (HT.out _).mono ?_; rintro e w' ⟨rfl, rfl⟩
      go_wp2_with fail
      refine (HF.out _).mono ?_; rintro e w' ⟨rfl, rfl⟩
      go_wp2_with fail
      refine (I.out _ _ HH.out).mono ?_
      rintro e w1 ⟨ok, zs, ys, q, A0, c0, A1, c1, rfl, hr0, hr1, hk1, _, _, hg, hq⟩
      rw [HS.out] at hg
      rw [HP.out] at hq
      have R0 := Lib.hid hr0
      have R1 := Lib.hid hr1
      have K1 := Lib.hid hk1
      clear hr0 hr1 hk1
      obtain ⟨rfl, rfl, rfl⟩ : ok = true ∧ zs = [] ∧ ys = xs := hg
      have hq := hq rfl
      subst hq
      go_wp2_with fail
      refine (same_yes _ _ _ _ _ _ _ _ _ w1.heap.size w.heap.size R1.out (HH.out.only K1.out (by simp) (Nat.le_refl _)) rfl HN.out rfl).mono ?_
      rintro e w' ⟨rfl, rfl⟩
      go_wp2_with fail
      go_ret
      exact ⟨rfl, K1.out.belowN⟩
    · have hz1 : ((n : Int) == 0) = false := beq_eq_false_iff_ne.2 (by omega)
      have hz2 : decide (0 < (n : Int)) = true := decide_eq_true (by omega)
      have hpos : 0 < n := by omega
      obtain ⟨ab, aoff, rfl, hab, hcells⟩ := h.2 h0
      have hcell0 := hcells 0 h0
      rw [Nat.add_zero] at hcell0
      have hx : (xs.getD 0 0 != tag) = true := by simpa using h1
      have hx2 : (xs.getD 0 0 == tag) = false := by simpa using h1
      obtain ⟨y0, y1⟩ := Byt.getD h.byt 0
      have hwx : wrap64 (xs.getD 0 0) = xs.getD 0 0 := IntWalk.wrap64_in _ (by omega)
      clear h hn ht hbig hp h0 h1 hcells
      generalize xs.getD 0 0 = x0 at *
      go_enter Try.func9, Try.ntmps9
      go_wp2_with fail
      refine (HT.out _).mono ?_; rintro e w' ⟨rfl, rfl⟩
      go_wp2_with fail
      refine (HF.out _).mono ?_; rintro e w' ⟨rfl, rfl⟩
      go_wp2_with fail
      refine (I.out _ _ HH.out).mono ?_
      rintro e w1 ⟨ok, zs, ys, q, A0, c0, A1, c1, rfl, hr0, hr1, hk1, _, _, hg, hq⟩
      rw [HS.out] at hg
      rw [HP.out] at hq
      have R0 := Lib.hid hr0
      have R1 := Lib.hid hr1
      have K1 := Lib.hid hk1
      have hcell1 := (hk1.cell (p := ⟨ab, aoff, none⟩) hab (by simp)).trans hcell0
      clear hr0 hr1 hk1
      obtain ⟨rfl, rfl, rfl⟩ : ok = true ∧ zs = [] ∧ ys = xs := hg
      have hq := hq rfl
      subst hq
      go_wp2_with fail
      refine (same_yes _ _ _ _ _ _ _ _ _ w1.heap.size w.heap.size R1.out (HH.out.only K1.out (by simp) (Nat.le_refl _)) rfl HN.out rfl).mono ?_
      rintro e w' ⟨rfl, rfl⟩
      go_wp2_with fail
      go_ret
      exact ⟨rfl, K1.out.belowN⟩
  | true =>
    have HS := Lib.hid (readOpt8_yes hp)
    have HP := Lib.hid hp
    obtain ⟨h0, h1⟩ := peek_yes hp
    have hz1 : ((n : Int) == 0) = false := beq_eq_false_iff_ne.2 (by omega)
    have hz2 : decide (0 < (n : Int)) = true := decide_eq_true (by omega)
    have hpos : 0 < n := by omega
    obtain ⟨ab, aoff, rfl, hab, hcells⟩ := h.2 h0
    have hcell0 := hcells 0 h0
    rw [Nat.add_zero, h1] at hcell0
    have hx : (tag != tag) = false := by simp
    have hwx : wrap64 tag = tag := IntWalk.wrap64_in _ (by omega)
    clear h hn ht hbig hp h0 h1 hcells
    go_enter Try.func9, Try.ntmps9
    go_wp2_with fail
    refine (HT.out _).mono ?_; rintro e w' ⟨rfl, rfl⟩
    go_wp2_with fail
    refine (HF.out _).mono ?_; rintro e w' ⟨rfl, rfl⟩
    go_wp2_with fail
    refine (I.out _ _ HH.out).mono ?_
    rintro e w1 ⟨ok, zs, ys, q, A0, c0, A1, c1, rfl, hr0, hr1, hk1, _, _, hg, hq⟩
    rw [HS.out] at hg
    rw [HP.out] at hq
    have R0 := Lib.hid hr0
    have R1 := Lib.hid hr1
    have K1 := Lib.hid hk1
    have hcell1 := (hk1.cell (p := ⟨ab, aoff, none⟩) hab (by simp)).trans hcell0
    clear hr0 hr1 hk1
    unfold asOf at hg
    go_wp2_with fail
    refine (FO.out _ _ (HH.out.only K1.out (by simp) (Nat.le_refl _)) K1.out.size).mono ?_
    intro e w2 hF
    unfold FirstOfSaid at hF
    obtain ⟨hk2, hF⟩ := hF
    have K2 := Lib.hid (K1.out.trans hk2)
    have hcell2 := (K2.out.cell (p := ⟨ab, aoff, none⟩) hab (by simp)).trans hcell0
    have KK := Lib.hid hk2
    have HLE := Lib.hid (fun c r (h : firstOf xs tag = some (c, r)) => Nat.le_trans (firstOf_le h).1 HL.out)
    clear hk2
    cases hf : firstOf xs tag with
    | none =>
      rw [hf] at hg hF
      have hg : ok = false := hg
      subst hg hF
      clear hf hq
      go_wp2_with fail
      refine (firstOf_any none 0 0 [] 4 w2 _ (Rd.nil _ 0 _) rfl (Nat.le_refl _) (Nat.zero_le _) (Nat.zero_le _) (by simp)).mono ?_
      intro e w3 hF2
      unfold FirstOfSaid at hF2
      obtain ⟨hk3, hF2⟩ := hF2
      have K3 := Lib.hid (K2.out.trans hk3)
      have KK3 := Lib.hid hk3
      clear hk3
      have hF2 : e = .returned (.tuple #[.slice none 0 0, .slice none 0 0, .bool false]) := hF2
      subst hF2
      go_wp2_with fail
      go_ret
      exact ⟨rfl, K3.out.belowN⟩
    | some q0 =>
      obtain ⟨cc, r⟩ := q0
      rw [hf] at hg hF
      obtain ⟨A3, k3, A4, k4, rfl, hk3, _, hm3, _, hr3, hr4⟩ := hF
      have HC := Lib.hid (HLE.out _ _ hf)
      have R3 := Lib.hid hr3
      have R4 := Lib.hid hr4
      have HK3 := Lib.hid (And.intro hk3 hm3)
      clear hr3 hr4 hf hk3 hm3
      simp only at hg
      go_wp2_with fail
      refine (firstOf_any A3 _ k3 cc 4 w2 _ R3.out rfl HK3.out.1 HK3.out.2 K2.out.size HC.out).mono ?_
      intro e w3 hF2
      unfold FirstOfSaid at hF2
      obtain ⟨hk3, hF2⟩ := hF2
      have K3 := Lib.hid (K2.out.trans hk3)
      have KK3 := Lib.hid hk3
      clear hk3
      unfold octOf at hg
      revert hg hF2
      cases firstOf cc 4 with
      | none =>
        intro hg hF2
        have hg : ok = false := hg
        subst hg hF2
        clear hq
        go_wp2_with fail
        go_ret
        exact ⟨rfl, K3.out.belowN⟩
      | some q1 =>
        obtain ⟨d, m⟩ := q1
        intro hg
        rintro ⟨A5, k5, A6, k6, rfl, _, _, _, _, hr5, hr6⟩
        have R5 := Lib.hid hr5
        clear hr5 hr6
        simp only at hg
        by_cases hm : m = []
        · rw [if_pos hm] at hg
          obtain ⟨rfl, rfl, rfl⟩ : ok = true ∧ zs = d ∧ ys = r := hg
          have hq := hq rfl
          subst hq
          subst hm
          go_wp2_with fail
          refine (same_yes _ _ _ _ _ _ _ _ _ w1.heap.size w.heap.size ((R0.out.only KK.out (by simp) (Nat.le_refl _)).only KK3.out (by simp) KK.out.size) R5.out rfl rfl rfl).mono ?_
          rintro e w' ⟨rfl, rfl⟩
          go_wp2_with fail
          refine (same_yes _ _ _ _ _ _ _ _ _ w1.heap.size w.heap.size ((R1.out.only KK.out (by simp) (Nat.le_refl _)).only KK3.out (by simp) KK.out.size) (R4.out.only KK3.out (by simp) K2.out.size) rfl rfl rfl).mono ?_
          rintro e w' ⟨rfl, rfl⟩
          go_wp2_with fail
          go_ret
          exact ⟨rfl, K3.out.belowN⟩
        · rw [if_neg hm] at hg
          have hg : ok = false := hg
          subst hg
          have hml : ((m.length : Int) == 0) = false := beq_eq_false_iff_ne.2 (fun e => hm (List.length_eq_zero_iff.1 (by omega)))
          clear hq hm
          go_wp2_with fail
          go_ret
          exact ⟨rfl, K3.out.belowN⟩

theorem law_FnOptionalSkip (A : Option Addr) (n c : Nat) (xs : List Int) (tag : Int) (w : World) (h : Rd w w.heap.size A xs) (hn : n = xs.length) (hc : n ≤ c) (_hcm : c ≤ maxLen) :
    Calls Try.prog 8 #[.slice A n c, .int .i64 tag] w fun e w' => e = .returned (.bool true) ∧ Below w.heap.size w w' := by
  by_cases hz0 : 2147483647 < n
  · clear h hn
    go_enter Try.func8, Try.ntmps8
    go_wp2_with fail
    go_ret
    exact ⟨rfl, Below.refl _ _⟩
  have hz : n ≤ 2147483647 := by omega
  clear hz0
  by_cases ht : 0 ≤ tag ∧ tag ≤ 255
  case neg =>
    have HT := Lib.hid (fun w => tagOk_no tag w (by omega))
    clear h hn ht
    go_enter Try.func8, Try.ntmps8
    go_wp2_with fail
    refine (HT.out _).mono ?_; rintro e w' ⟨rfl, rfl⟩
    go_wp2_with fail
    go_ret
    exact ⟨rfl, Below.refl _ _⟩
  have HT := Lib.hid (fun w => tagOk_yes tag w ht.1 ht.2)
  by_cases hbig : 1048576 < n
  · have HF := Lib.hid (fun w => fits_no A n c w hbig)
    clear h hn ht
    go_enter Try.func8, Try.ntmps8
    go_wp2_with fail
    refine (HT.out _).mono ?_; rintro e w' ⟨rfl, rfl⟩
    go_wp2_with fail
    refine (HF.out _).mono ?_; rintro e w' ⟨rfl, rfl⟩
    go_wp2_with fail
    go_ret
    exact ⟨rfl, Below.refl _ _⟩
  have HF := Lib.hid (fun w => fits_yes A n c w (by omega))
  have I := Lib.hid (fun w B h => ImReadOptional_of A n c xs w B h hn (by omega) tag ht)
  have J := Lib.hid (fun w B h => ImSkipOptional_of A n c xs w B h hn (by omega) tag ht)
  have TG := Lib.hid (fun w B h hB => tagged_any A n c xs tag w B h hn hc _hcm hB (by omega))
  have HN := Lib.hid hn
  have HH := Lib.hid h
  cases hp : peek xs tag with
  | false =>
    have HS := Lib.hid (readOpt_no (ws := []) hp)
    have HS2 := Lib.hid (skipOpt_no hp)
    rcases peek_no hp with h0 | ⟨h0, h1⟩
    · have hn0 : n = 0 := by omega
      subst hn0
      clear h hn ht hbig hp h0
      go_enter Try.func8, Try.ntmps8
      go_wp2_with fail
      refine (HT.out _).mono ?_; rintro e w' ⟨rfl, rfl⟩
      go_wp2_with fail
      refine (HF.out _).mono ?_; rintro e w' ⟨rfl, rfl⟩
      go_wp2_with fail
      refine (I.out _ _ HH.out).mono ?_
      rintro e w1 ⟨ok, zs, ys, q, A0, c0, A1, c1, rfl, hr0, hr1, hk1, _, _, hg, hq⟩
      rw [HS.out] at hg
      have R1 := Lib.hid hr1
      have K1 := Lib.hid hk1
      clear hr0 hr1 hk1 hq
      go_wp2_with fail
      refine (J.out _ _ (HH.out.only K1.out (by simp) (Nat.le_refl _))).mono ?_
      rintro e w2 ⟨ok2, ys2, A2, c2, rfl, hr2, hk2, _, hg2⟩
      rw [HS2.out] at hg2
      have R2 := Lib.hid hr2
      have KK2 := Lib.hid hk2
      have K2 := Lib.hid (K1.out.trans hk2)
      clear hr2 hk2
      obtain ⟨rfl, rfl, rfl⟩ : ok = true ∧ zs = [] ∧ ys = xs := hg
      obtain ⟨rfl, _, rfl⟩ : ok2 = true ∧ () = () ∧ ys2 = ys := hg2
      go_wp2_with fail
      refine (same_yes _ _ _ _ _ _ _ _ _ w1.heap.size w2.heap.size (R1.out.only KK2.out (by simp) (Nat.le_refl _)) R2.out rfl rfl rfl).mono ?_
      rintro e w' ⟨rfl, rfl⟩
      go_wp2_with fail
      go_ret
      exact ⟨rfl, K2.out.belowN⟩
    · have hz1 : ((n : Int) == 0) = false := beq_eq_false_iff_ne.2 (by omega)
      have hz2 : decide (0 < (n : Int)) = true := decide_eq_true (by omega)
      have hpos : 0 < n := by omega
      obtain ⟨ab, aoff, rfl, hab, hcells⟩ := h.2 h0
      have hcell0 := hcells 0 h0
      rw [Nat.add_zero] at hcell0
      have hx : (xs.getD 0 0 != tag) = true := by simpa using h1
      have hx2 : (xs.getD 0 0 == tag) = false := by simpa using h1
      obtain ⟨y0, y1⟩ := Byt.getD h.byt 0
      have hwx : wrap64 (xs.getD 0 0) = xs.getD 0 0 := IntWalk.wrap64_in _ (by omega)
      clear h hn ht hbig hp h0 h1 hcells
      generalize xs.getD 0 0 = x0 at *
      go_enter Try.func8, Try.ntmps8
      go_wp2_with fail
      refine (HT.out _).mono ?_; rintro e w' ⟨rfl, rfl⟩
      go_wp2_with fail
      refine (HF.out _).mono ?_; rintro e w' ⟨rfl, rfl⟩
      go_wp2_with fail
      refine (I.out _ _ HH.out).mono ?_
      rintro e w1 ⟨ok, zs, ys, q, A0, c0, A1, c1, rfl, hr0, hr1, hk1, _, _, hg, hq⟩
      rw [HS.out] at hg
      have R1 := Lib.hid hr1
      have K1 := Lib.hid hk1
      have hcell1 := (hk1.cell (p := ⟨ab, aoff, none⟩) hab (by simp)).trans hcell0
      clear hr0 hr1 hk1 hq
      go_wp2_with fail
      refine (J.out _ _ (HH.out.only K1.out (by simp) (Nat.le_refl _))).mono ?_
      rintro e w2 ⟨ok2, ys2, A2, c2, rfl, hr2, hk2, _, hg2⟩
      rw [HS2.out] at hg2
      have R2 := Lib.hid hr2
      have KK2 := Lib.hid hk2
      have K2 := Lib.hid (K1.out.trans hk2)
      have hcell2 := (K2.out.cell (p := ⟨ab, aoff, none⟩) hab (by simp)).trans hcell0
      clear hr2 hk2
      obtain ⟨rfl, rfl, rfl⟩ : ok = true ∧ zs = [] ∧ ys = xs := hg
      obtain ⟨rfl, _, rfl⟩ : ok2 = true ∧ () = () ∧ ys2 = ys := hg2
      go_wp2_with fail
      refine (same_yes _ _ _ _ _ _ _ _ _ w1.heap.size w2.heap.size (R1.out.only KK2.out (by simp) (Nat.le_refl _)) R2.out rfl rfl rfl).mono ?_
      rintro e w' ⟨rfl, rfl⟩
      go_wp2_with fail
      go_ret
      exact ⟨rfl, K2.out.belowN⟩
  | true =>
    have HS := Lib.hid (readOpt_yes (ws := []) hp)
    have HS2 := Lib.hid (skipOpt_yes hp)
    obtain ⟨h0, h1⟩ := peek_yes hp
    have hz1 : ((n : Int) == 0) = false := beq_eq_false_iff_ne.2 (by omega)
    have hz2 : decide (0 < (n : Int)) = true := decide_eq_true (by omega)
    have hpos : 0 < n := by omega
    obtain ⟨ab, aoff, rfl, hab, hcells⟩ := h.2 h0
    have hcell0 := hcells 0 h0
    rw [Nat.add_zero, h1] at hcell0
    have hx : (tag != tag) = false := by simp
    have hwx : wrap64 tag = tag := IntWalk.wrap64_in _ (by omega)
    clear h hn ht hbig hp h0 h1 hcells
    go_enter Try.func8, Try.ntmps8
    go_wp2_with fail
    refine (HT.out _).mono ?_; rintro e w' ⟨rfl, rfl⟩
    go_wp2_with fail
    refine (HF.out _).mono ?_; rintro e w' ⟨rfl, rfl⟩
    go_wp2_with fail
    refine (I.out _ _ HH.out).mono ?_
    rintro e w1 ⟨ok, zs, ys, q, A0, c0, A1, c1, rfl, hr0, hr1, hk1, _, _, hg, hq⟩
    rw [HS.out] at hg
    have R1 := Lib.hid hr1
    have K1 := Lib.hid hk1
    have hcell1 := (hk1.cell (p := ⟨ab, aoff, none⟩) hab (by simp)).trans hcell0
    clear hr0 hr1 hk1 hq
    go_wp2_with fail
    refine (J.out _ _ (HH.out.only K1.out (by simp) (Nat.le_refl _))).mono ?_
    rintro e w2 ⟨ok2, ys2, A2, c2, rfl, hr2, hk2, _, hg2⟩
    rw [HS2.out] at hg2
    have R2 := Lib.hid hr2
    have KK2 := Lib.hid hk2
    have K2 := Lib.hid (K1.out.trans hk2)
    have hcell2 := (K2.out.cell (p := ⟨ab, aoff, none⟩) hab (by simp)).trans hcell0
    clear hr2 hk2
    go_wp2_with fail
    refine (TG.out _ _ (HH.out.only K2.out (by simp) (Nat.le_refl _)) K2.out.size).mono ?_
    rintro e w3 ⟨rfl, hk3⟩
    have K3 := Lib.hid (K2.out.trans hk3)
    have KK3 := Lib.hid hk3
    clear hk3
    revert hg hg2
    cases firstOf xs tag with
    | none =>
      intro hg hg2
      have hg : ok = false := hg
      have hg2 : ok2 = false := hg2
      subst hg hg2
      go_wp2_with fail
      go_ret
      exact ⟨rfl, K3.out.belowN⟩
    | some q0 =>
      obtain ⟨cc, r⟩ := q0
      intro hg hg2
      obtain ⟨rfl, rfl, rfl⟩ : ok = true ∧ zs = cc ∧ ys = r := hg
      obtain ⟨rfl, _, rfl⟩ : ok2 = true ∧ () = () ∧ ys2 = ys := hg2
      go_wp2_with fail
      refine (same_yes _ _ _ _ _ _ _ _ _ w1.heap.size w2.heap.size ((R1.out.only KK2.out (by simp) (Nat.le_refl _)).only KK3.out (by simp) KK2.out.size) (R2.out.only KK3.out (by simp) (Nat.le_refl _)) rfl rfl rfl).mono ?_
      rintro e w' ⟨rfl, rfl⟩
      go_wp2_with fail
      go_ret
      exact ⟨rfl, K3.out.belowN⟩
end Go.Proofs.Ythlnlbofbinjhaa
