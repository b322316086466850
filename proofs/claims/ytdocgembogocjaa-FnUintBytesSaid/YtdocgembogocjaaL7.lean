/- The laws on integers read in two ways: walks. -/
import Derived.Test.YtdocgembogocjaaL5
namespace Go.Proofs.Ytdocgembogocjaa
open Go.RowKit


theorem isInt_any (A : Option Addr) (n c : Nat) (xs : List Int) (tag : Int) (w : World) (B : Nat) (h : Rd w B A xs) (hn : n = xs.length) (hnc : n ≤ c) (hcm : c ≤ maxLen) (hBw : B ≤ w.heap.size) (hb : xs.length ≤ 1048576) :
    Calls Try.prog 19 #[.slice A n c, .int .i64 tag] w fun e w' => e = .returned (.bool (asOf intOf' xs tag).isSome) ∧ Only [] w w' := by
  have H := Lib.hid (firstOf_any A n c xs tag w B h hn hnc hcm hBw hb)
  have HNil : Hid (intOf' [] = none) := Lib.hid (by simp [intOf', intRight])
  clear h hn hnc hBw hb hcm
  go_enter Try.func19, Try.ntmps19
  go_wp2_with fail
  refine H.out.mono ?_
  intro e w1 hF
  unfold FirstOfSaid at hF
  obtain ⟨hk, hF⟩ := hF
  have K := Lib.hid hk
  revert hF
  clear hk H
  cases hf : firstOf xs tag with
  | none =>
    intro hF
    subst hF
    have HQ : Hid ((asOf intOf' xs tag).isSome = false) := Lib.hid (by unfold asOf; rw [hf]; rfl)
    clear hf
    go_wp2_with fail
    refine (intOf_any none 0 0 [] w1 0 (Rd.nil _ _ _) rfl).mono ?_
    rw [HNil.out]
    rintro e w' ⟨rfl, rfl⟩
    go_wp2_with fail
    go_ret
    exact ⟨by rw [HQ.out]; rfl, K.out⟩
  | some q =>
    obtain ⟨cc, r⟩ := q
    rintro ⟨A1, k1, A2, k2, rfl, _, _, _, _, hr3, _⟩
    have R3 := Lib.hid hr3
    have HQ : Hid ((asOf intOf' xs tag).isSome = (intOf' cc).isSome) := Lib.hid (by unfold asOf; rw [hf]; simp)
    clear hf hr3
    go_wp2_with fail
    refine (intOf_any A1 _ k1 cc w1 _ R3.out rfl).mono ?_
    rintro e w' ⟨rfl, rfl⟩
    generalize intOf' cc = o at *
    cases o
    all_goals
      go_wp2_with fail
      go_ret
      exact ⟨by rw [HQ.out]; rfl, K.out⟩

theorem isUint_any (A : Option Addr) (n c : Nat) (xs : List Int) (w : World) (B : Nat) (h : Rd w B A xs) (hn : n = xs.length) (hnc : n ≤ c) (hcm : c ≤ maxLen) (hBw : B ≤ w.heap.size) (hb : xs.length ≤ 1048576) :
    Calls Try.prog 21 #[.slice A n c] w fun e w' => e = .returned (.bool (asOf uintOf xs 2).isSome) ∧ Only [] w w' := by
  have H := Lib.hid (firstOf_any A n c xs 2 w B h hn hnc hcm hBw hb)
  have HNil : Hid (uintOf [] = none) := Lib.hid (by simp [uintOf, intRight])
  clear h hn hnc hBw hb hcm
  go_enter Try.func21, Try.ntmps21
  go_wp2_with fail
  refine H.out.mono ?_
  intro e w1 hF
  unfold FirstOfSaid at hF
  obtain ⟨hk, hF⟩ := hF
  have K := Lib.hid hk
  revert hF
  clear hk H
  cases hf : firstOf xs 2 with
  | none =>
    intro hF
    subst hF
    have HQ : Hid ((asOf uintOf xs 2).isSome = false) := Lib.hid (by unfold asOf; rw [hf]; rfl)
    clear hf
    go_wp2_with fail
    refine (uintOf_any none 0 0 [] w1 0 (Rd.nil _ _ _) rfl).mono ?_
    rw [HNil.out]
    rintro e w' ⟨rfl, rfl⟩
    go_wp2_with fail
    go_ret
    exact ⟨by rw [HQ.out]; rfl, K.out⟩
  | some q =>
    obtain ⟨cc, r⟩ := q
    rintro ⟨A1, k1, A2, k2, rfl, _, _, _, _, hr3, _⟩
    have R3 := Lib.hid hr3
    have HQ : Hid ((asOf uintOf xs 2).isSome = (uintOf cc).isSome) := Lib.hid (by unfold asOf; rw [hf]; simp)
    clear hf hr3
    go_wp2_with fail
    refine (uintOf_any A1 _ k1 cc w1 _ R3.out rfl).mono ?_
    rintro e w' ⟨rfl, rfl⟩
    generalize uintOf cc = o at *
    cases o
    all_goals
      go_wp2_with fail
      go_ret
      exact ⟨by rw [HQ.out]; rfl, K.out⟩

theorem law_FnEnumTagged (A : Option Addr) (n c : Nat) (xs : List Int) (w : World) (h : Rd w w.heap.size A xs) (hn : n = xs.length) (hc : n ≤ c) (_hcm : c ≤ maxLen) :
    Calls Try.prog 5 #[.slice A n c] w fun e w' => e = .returned (.bool true) ∧ Below w.heap.size w w' := by
  by_cases hbig : 1048576 < n
  · clear h hn
    have F := fun w => fits_no A n c w hbig
    have HF := Lib.hid F
    clear F
    by_cases hz : 2147483647 < n
    · go_enter Try.func5, Try.ntmps5
      go_wp2_with fail
      go_ret
      exact ⟨rfl, Below.refl _ _⟩
    · go_enter Try.func5, Try.ntmps5
      go_wp2_with fail
      refine (HF.out _).mono ?_; rintro e w' ⟨rfl, rfl⟩
      go_wp2_with fail
      go_ret
      exact ⟨rfl, Below.refl _ _⟩
  have F := fun w => fits_yes A n c w (by omega)
  have HF := Lib.hid F
  clear F
  have hz : n ≤ 2147483647 := by omega
  have I := Lib.hid (fun w B h => ImReadEnum_of A n c xs w B h hn (by omega))
  have J := Lib.hid (fun w B h => ImReadInt64WithTag_of A n c xs w B h hn (by omega) 10 (by decide))
  have TG := Lib.hid (fun w B h hB => isInt_any A n c xs 10 w B h hn hc _hcm hB (by omega))
  have HH := Lib.hid h
  clear h hn hbig
  go_enter Try.func5, Try.ntmps5
  go_wp2_with fail
  refine (HF.out _).mono ?_; rintro e w' ⟨rfl, rfl⟩
  go_wp2_with fail
  refine (I.out _ _ HH.out).mono ?_
  rintro e w1 ⟨ok, x, ys, A1, c1, rfl, hr1, hk1, _, hg⟩
  have R1 := Lib.hid hr1
  have K1 := Lib.hid hk1
  clear hr1 hk1
  go_wp2_with fail
  refine (J.out _ _ (HH.out.only K1.out (by simp) (Nat.le_refl _))).mono ?_
  rintro e w2 ⟨ok2, x2, ys2, A2, c2, rfl, hr2, hk2, _, hg2⟩
  have R2 := Lib.hid hr2
  have KK2 := Lib.hid hk2
  have K2 := Lib.hid (K1.out.trans hk2)
  clear hr2 hk2
  go_wp2_with fail
  refine (TG.out _ _ (HH.out.only K2.out (by simp) (Nat.le_refl _)) K2.out.size).mono ?_
  rintro e w3 ⟨rfl, hk3⟩
  have K3 := Lib.hid (K2.out.trans hk3)
  have KK3 := Lib.hid hk3
  clear hk3
  revert hg hg2
  generalize asOf intOf' xs 10 = o at *
  cases o with
  | none =>
    intro hg hg2
    have hg : ok = false := hg
    have hg2 : ok2 = false := hg2
    subst hg hg2
    go_wp2_with fail
    go_ret
    exact ⟨rfl, K3.out.belowN⟩
  | some q =>
    obtain ⟨v, r⟩ := q
    intro hg hg2
    obtain ⟨rfl, rfl, rfl⟩ : ok = true ∧ x = v ∧ ys = r := hg
    obtain ⟨rfl, rfl, rfl⟩ : ok2 = true ∧ x2 = x ∧ ys2 = ys := hg2
    go_wp2_with fail
    refine (same_yes _ _ _ _ _ _ _ _ _ w1.heap.size w2.heap.size ((R1.out.only KK2.out (by simp) (Nat.le_refl _)).only KK3.out (by simp) KK2.out.size) (R2.out.only KK3.out (by simp) (Nat.le_refl _)) rfl rfl rfl).mono ?_
    rintro e w' ⟨rfl, rfl⟩
    go_wp2_with fail
    go_ret
    exact ⟨rfl, K3.out.belowN⟩
end Go.Proofs.Ytdocgembogocjaa
