/- The laws on strings of bits that are read: walks. -/
import Derived.Test.YtdocgembogocjaaBits2
namespace Go.Proofs.Ytdocgembogocjaa
open Go.RowKit

theorem asOfB {xs r : List Int} {tag : Int} {v : List Int} {k : Int} (h : asOf bitsOf xs tag = some ((v, k), r)) : ∃ cc, firstOf xs tag = some (cc, r) ∧ bitsOf cc = some (v, k) := by
  unfold asOf at h
  split at h
  · rename_i c r' hf
    cases hv : bitsOf c with
    | none => rw [hv] at h; cases h
    | some u =>
      rw [hv] at h
      simp only [Option.map_some, Option.some.injEq, Prod.mk.injEq] at h
      obtain ⟨rfl, rfl⟩ := h
      exact ⟨c, hf, hv⟩
  · cases h
/-- The bits that are left over are none, or 0 in the last byte. -/
theorem bitsOf_is {cc v : List Int} {k : Int} (hb : Byt cc) (h : bitsOf cc = some (v, k)) : ∃ p : Nat, p ≤ 7 ∧ k = 8 * (v.length : Int) - p ∧ (p = 0 ∨ ∃ m, v.length = m + 1 ∧ v.getD m 0 % 2 ^ p = 0) := by
  unfold bitsOf at h
  split at h
  · cases h
  · rename_i h1
    split at h
    · cases h
    · rename_i h2
      simp only [Option.some.injEq, Prod.mk.injEq] at h
      obtain ⟨rfl, rfl⟩ := h
      obtain ⟨x0, _⟩ := Byt.getD hb 0
      refine ⟨(cc.getD 0 0).toNat, by omega, ?_, ?_⟩
      · rw [List.length_drop]; omega
      · by_cases hz : cc.getD 0 0 = 0
        · left; omega
        · right
          refine ⟨cc.length - 2, by rw [List.length_drop]; omega, ?_⟩
          have h3 : cc.getD (cc.length - 1) 0 % 2 ^ (cc.getD 0 0).toNat = 0 := by
            apply Decidable.byContradiction
            intro h4
            exact h2 ⟨by omega, h4⟩
          rw [List.getD_eq_getElem?_getD, List.getElem?_drop, show 1 + (cc.length - 2) = cc.length - 1 by omega, ← List.getD_eq_getElem?_getD]
          exact h3

theorem isBits_any (A : Option Addr) (n c : Nat) (xs : List Int) (w : World) (B : Nat) (h : Rd w B A xs) (hn : n = xs.length) (hnc : n ≤ c) (hcm : c ≤ maxLen) (hBw : B ≤ w.heap.size) (hb : xs.length ≤ 4194304) :
    Calls Try.prog 25 #[.slice A n c] w fun e w' => e = .returned (.bool (asOf bitsOf xs 3).isSome) ∧ Only [] w w' := by
  have H := Lib.hid (firstOf_any A n c xs 3 w B h hn hnc hcm hBw hb)
  have HXL := Lib.hid hb
  have HNil : Hid (bitsOf [] = none) := Lib.hid (by simp [bitsOf])
  clear h hn hnc hBw hb hcm
  go_enter Try.func25, Try.ntmps25
  go_wp2_with fail
  refine H.out.mono ?_
  intro e w1 hF
  unfold FirstOfSaid at hF
  obtain ⟨hk, hF⟩ := hF
  have K := Lib.hid hk
  revert hF
  clear hk H
  cases hf : firstOf xs 3 with
  | none =>
    intro hF
    subst hF
    have HQ : Hid ((asOf bitsOf xs 3).isSome = false) := Lib.hid (by unfold asOf; rw [hf]; rfl)
    clear hf
    go_wp2_with fail
    refine (bitsOf_any none 0 0 [] w1 0 (Rd.nil _ _ _) rfl (Nat.le_refl _) (Nat.zero_le _) (by simp)).mono ?_
    rintro e w' ⟨hS, hk9⟩
    unfold BitsSaid at hS
    rw [HNil.out] at hS
    subst hS
    have K := Lib.hid (K.out.trans hk9)
    clear hk9
    go_wp2_with fail
    go_ret
    exact ⟨by rw [HQ.out]; rfl, K.out⟩
  | some q =>
    obtain ⟨cc, r⟩ := q
    rintro ⟨A1, k1, A2, k2, rfl, hk3, _, hm3, _, hr3, _⟩
    have HK3 := Lib.hid (And.intro hk3 (And.intro hm3 (Nat.le_trans (firstOf_le hf).1 HXL.out)))
    clear hk3 hm3
    have R3 := Lib.hid hr3
    have HQ : Hid ((asOf bitsOf xs 3).isSome = (bitsOf cc).isSome) := Lib.hid (by unfold asOf; rw [hf]; simp)
    clear hf hr3
    go_wp2_with fail
    refine (bitsOf_any A1 _ k1 cc w1 _ R3.out rfl HK3.out.1 HK3.out.2.1 HK3.out.2.2).mono ?_
    rintro e w' ⟨hS, hk9⟩
    have K := Lib.hid (K.out.trans hk9)
    clear hk9
    unfold BitsSaid at hS
    revert hS HQ
    cases bitsOf cc with
    | none =>
      intro HQ hS
      subst hS
      go_wp2_with fail
      go_ret
      exact ⟨by rw [HQ.out]; rfl, K.out⟩
    | some p =>
      obtain ⟨pv, pk⟩ := p
      rintro HQ ⟨A5, c5, rfl, _⟩
      go_wp2_with fail
      go_ret
      exact ⟨by rw [HQ.out]; rfl, K.out⟩

theorem law_FnExactReadBits (A : Option Addr) (n c : Nat) (xs : List Int) (w : World) (h : Rd w w.heap.size A xs) (hn : n = xs.length) (hc : n ≤ c) (_hcm : c ≤ maxLen) :
    Calls Try.prog 7 #[.slice A n c] w fun e w' => e = .returned (.bool true) ∧ Below w.heap.size w w' := by
  by_cases hbig : 1048576 < n
  · clear h hn
    have F := fun w => fits_no A n c w hbig
    have HF := Lib.hid F
    clear F
    by_cases hz : 2147483647 < n
    · go_enter Try.func7, Try.ntmps7
      go_wp2_with fail
      go_ret
      exact ⟨rfl, Below.refl _ _⟩
    · go_enter Try.func7, Try.ntmps7
      go_wp2_with fail
      refine (HF.out _).mono ?_; rintro e w' ⟨rfl, rfl⟩
      go_wp2_with fail
      go_ret
      exact ⟨rfl, Below.refl _ _⟩
  have F := fun w => fits_yes A n c w (by omega)
  have HF := Lib.hid F
  clear F
  have hz : n ≤ 2147483647 := by omega
  have I := Lib.hid (fun w B h => ImReadBits_of A n c xs w B h hn (by omega))
  have FO := Lib.hid (fun w B h hB => firstOf_any A n c xs 3 w B h hn hc _hcm hB (by omega))
  have HNil : Hid (bitsOf [] = none) := Lib.hid (by simp [bitsOf])
  have HH := Lib.hid h
  have HXL : Hid (xs.length ≤ 4194304) := Lib.hid (by omega)
  clear h hn hbig
  go_enter Try.func7, Try.ntmps7
  go_wp2_with fail
  refine (HF.out _).mono ?_; rintro e w' ⟨rfl, rfl⟩
  go_wp2_with fail
  refine (I.out _ _ HH.out).mono ?_
  rintro e w1 ⟨ok, v, k, ys, A1, c1, A2, c2, rfl, hr1, hr2, hk1, _, _, hg⟩
  have R1 := Lib.hid hr1
  have R2 := Lib.hid hr2
  have K1 := Lib.hid hk1
  clear hr1 hr2 hk1
  unfold asOf at hg
  go_wp2_with fail
  refine (FO.out _ _ (HH.out.only K1.out (by simp) (Nat.le_refl _)) K1.out.size).mono ?_
  intro e w2 hF
  unfold FirstOfSaid at hF
  obtain ⟨hk2, hF⟩ := hF
  have K2 := Lib.hid (K1.out.trans hk2)
  have KK := Lib.hid hk2
  revert hF hg
  clear hk2
  cases hf : firstOf xs 3 with
  | none =>
    intro hg hF
    have hg : ok = false := hg
    subst hg hF
    clear hf
    go_wp2_with fail
    refine (bitsOf_any none 0 0 [] w2 0 (Rd.nil _ _ _) rfl (Nat.le_refl _) (Nat.zero_le _) (by simp)).mono ?_
    rintro e w9 ⟨hS, hk9⟩
    have K9 := Lib.hid hk9
    clear hk9
    unfold BitsSaid at hS
    rw [HNil.out] at hS
    subst hS
    go_wp2_with fail
    go_ret
    exact ⟨rfl, (K2.out.trans K9.out).belowN⟩

  | some q =>
    obtain ⟨cc, r⟩ := q
    intro hg
    rintro ⟨A3, k3, A4, k4, rfl, hk3, _, hm3, _, hr3, hr4⟩
    have R3 := Lib.hid hr3
    have R4 := Lib.hid hr4
    have HK3 := Lib.hid (And.intro hk3 (And.intro hm3 (Nat.le_trans (firstOf_le hf).1 HXL.out)))
    clear hr3 hr4 hk3 hm3 hf
    go_wp2_with fail
    refine (bitsOf_any A3 _ k3 cc w2 _ R3.out rfl HK3.out.1 HK3.out.2.1 HK3.out.2.2).mono ?_
    rintro e w9 ⟨hS, hk9⟩
    have K9 := Lib.hid hk9
    clear hk9
    unfold BitsSaid at hS
    revert hS hg
    cases bitsOf cc with
    | none =>
      intro hg hS
      have hg : ok = false := hg
      subst hg hS
      go_wp2_with fail
      go_ret
      exact ⟨rfl, (K2.out.trans K9.out).belowN⟩

    | some p =>
      obtain ⟨pv, pk⟩ := p
      intro hg
      obtain ⟨rfl, hvk, rfl⟩ : ok = true ∧ (v, k) = (pv, pk) ∧ ys = r := hg
      obtain ⟨rfl, rfl⟩ : v = pv ∧ k = pk := by simpa using hvk
      rintro ⟨A5, c5, rfl, hR5⟩
      have R5 := Lib.hid (hR5 _ _ (R3.out.only K9.out (by simp) K2.out.size))
      have R9 := Lib.hid (R4.out.only K9.out (by simp) K2.out.size)
      clear hR5 hvk
      go_wp2_with fail
      refine (same_yes _ _ _ _ _ _ _ _ _ w1.heap.size w.heap.size (R1.out.only (KK.out.trans K9.out) (by simp) (Nat.le_refl _)) R5.out rfl rfl rfl).mono ?_
      rintro e w' ⟨rfl, rfl⟩
      go_wp2_with fail
      refine (same_yes _ _ _ _ _ _ _ _ _ w1.heap.size w.heap.size (R2.out.only (KK.out.trans K9.out) (by simp) (Nat.le_refl _)) R9.out rfl rfl rfl).mono ?_
      rintro e w' ⟨rfl, rfl⟩
      go_wp2_with fail
      go_ret
      exact ⟨rfl, (K2.out.trans K9.out).belowN⟩

end Go.Proofs.Ytdocgembogocjaa
