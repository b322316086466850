/- The laws on reading elements of a tag, truths and numbers: walks. -/
import Derived.Test.YtdocgembogocjaaIm4
import Derived.Test.YtdocgembogocjaaSp4
import Derived.Test.YtdocgembogocjaaL1
import Derived.Test.YtdocgembogocjaaTag
namespace Go.Proofs.Ytdocgembogocjaa
open Go.RowKit





theorem law_FnExactReadEnum (A : Option Addr) (n c : Nat) (xs : List Int) (w : World) (h : Rd w w.heap.size A xs) (hn : n = xs.length) (hc : n ≤ c) (_hcm : c ≤ maxLen) :
    Calls Try.prog 3 #[.slice A n c] w fun e w' => e = .returned (.bool true) ∧ Below w.heap.size w w' := by
  by_cases hbig : 1048576 < n
  · clear h hn
    have F := fun w => fits_no A n c w hbig
    have HF := Lib.hid F
    clear F
    by_cases hz : 2147483647 < n
    · go_enter Try.func3, Try.ntmps3
      go_wp2_with fail
      go_ret
      exact ⟨rfl, Below.refl _ _⟩
    · go_enter Try.func3, Try.ntmps3
      go_wp2_with fail
      refine (HF.out _).mono ?_; rintro e w' ⟨rfl, rfl⟩
      go_wp2_with fail
      go_ret
      exact ⟨rfl, Below.refl _ _⟩
  have F := fun w => fits_yes A n c w (by omega)
  have HF := Lib.hid F
  clear F
  have hz : n ≤ 2147483647 := by omega
  have I := Lib.hid (fun w B h => ImReadEnum_of A n c xs w B h hn (by omega))
  have FO := Lib.hid (fun w B h hB => firstOf_any A n c xs 10 w B h hn hc _hcm hB (by omega))
  have HNil : Hid (intOf' [] = none) := Lib.hid (by simp [intOf', intRight])
  have HH := Lib.hid h
  clear h hn hbig
  go_enter Try.func3, Try.ntmps3
  go_wp2_with fail
  refine (HF.out _).mono ?_; rintro e w' ⟨rfl, rfl⟩
  go_wp2_with fail
  refine (I.out _ _ HH.out).mono ?_
  rintro e w1 ⟨ok, x, ys, A1, c1, rfl, hr1, hk1, _, hg⟩
  have R1 := Lib.hid hr1
  have K1 := Lib.hid hk1
  clear hr1 hk1
  unfold asOf at hg
  go_wp2_with fail
  refine (FO.out _ _ (HH.out.only K1.out (by simp) (Nat.le_refl _)) K1.out.size).mono ?_
  intro e w2 hF
  unfold FirstOfSaid at hF
  obtain ⟨hk2, hF⟩ := hF
  have K2 := Lib.hid (K1.out.trans hk2)
  have KK := Lib.hid hk2
  revert hF hg
  clear hk2
  cases firstOf xs 10 with
  | none =>
    intro hg hF
    have hg : ok = false := hg
    subst hg hF
    go_wp2_with fail
    refine (intOf_any none 0 0 [] w2 0 (Rd.nil _ _ _) rfl).mono ?_
    rw [HNil.out]
    rintro e w' ⟨rfl, rfl⟩
    go_wp2_with fail
    go_ret
    exact ⟨rfl, K2.out.belowN⟩
  | some q =>
    obtain ⟨cc, r⟩ := q
    intro hg
    rintro ⟨A3, k3, A4, k4, rfl, _, _, _, _, hr3, hr4⟩
    have R3 := Lib.hid hr3
    have R4 := Lib.hid hr4
    clear hr3 hr4
    go_wp2_with fail
    refine (intOf_any A3 _ k3 cc w2 _ R3.out rfl).mono ?_
    revert hg
    cases intOf' cc with
    | none =>
      intro hg
      have hg : ok = false := hg
      subst hg
      rintro e w' ⟨rfl, rfl⟩
      go_wp2_with fail
      go_ret
      exact ⟨rfl, K2.out.belowN⟩
    | some v =>
      intro hg
      obtain ⟨rfl, rfl, rfl⟩ : ok = true ∧ x = v ∧ ys = r := hg
      rintro e w' ⟨rfl, rfl⟩
      simp only [Option.getD_some, Option.isSome_some]
      go_wp2_with fail
      all_goals
        refine (same_yes _ _ _ _ _ _ _ _ _ w1.heap.size w.heap.size (R1.out.only KK.out (by simp) (Nat.le_refl _)) R4.out rfl rfl rfl).mono ?_
        rintro e w' ⟨rfl, rfl⟩
        go_wp2_with fail
        go_ret
        exact ⟨rfl, K2.out.belowN⟩

theorem law_FnExactReadUint (A : Option Addr) (n c : Nat) (xs : List Int) (w : World) (h : Rd w w.heap.size A xs) (hn : n = xs.length) (hc : n ≤ c) (_hcm : c ≤ maxLen) :
    Calls Try.prog 4 #[.slice A n c] w fun e w' => e = .returned (.bool true) ∧ Below w.heap.size w w' := by
  by_cases hbig : 1048576 < n
  · clear h hn
    have F := fun w => fits_no A n c w hbig
    have HF := Lib.hid F
    clear F
    by_cases hz : 2147483647 < n
    · go_enter Try.func4, Try.ntmps4
      go_wp2_with fail
      go_ret
      exact ⟨rfl, Below.refl _ _⟩
    · go_enter Try.func4, Try.ntmps4
      go_wp2_with fail
      refine (HF.out _).mono ?_; rintro e w' ⟨rfl, rfl⟩
      go_wp2_with fail
      go_ret
      exact ⟨rfl, Below.refl _ _⟩
  have F := fun w => fits_yes A n c w (by omega)
  have HF := Lib.hid F
  clear F
  have hz : n ≤ 2147483647 := by omega
  have I := Lib.hid (fun w B h => ImReadUint_of A n c xs w B h hn (by omega))
  have FO := Lib.hid (fun w B h hB => firstOf_any A n c xs 2 w B h hn hc _hcm hB (by omega))
  have HNil : Hid (uintOf [] = none) := Lib.hid (by simp [uintOf, intRight])
  have HH := Lib.hid h
  clear h hn hbig
  go_enter Try.func4, Try.ntmps4
  go_wp2_with fail
  refine (HF.out _).mono ?_; rintro e w' ⟨rfl, rfl⟩
  go_wp2_with fail
  refine (I.out _ _ HH.out).mono ?_
  rintro e w1 ⟨ok, x, ys, A1, c1, rfl, hr1, hk1, _, hg⟩
  have R1 := Lib.hid hr1
  have K1 := Lib.hid hk1
  clear hr1 hk1
  unfold asOf at hg
  go_wp2_with fail
  refine (FO.out _ _ (HH.out.only K1.out (by simp) (Nat.le_refl _)) K1.out.size).mono ?_
  intro e w2 hF
  unfold FirstOfSaid at hF
  obtain ⟨hk2, hF⟩ := hF
  have K2 := Lib.hid (K1.out.trans hk2)
  have KK := Lib.hid hk2
  revert hF hg
  clear hk2
  cases firstOf xs 2 with
  | none =>
    intro hg hF
    have hg : ok = false := hg
    subst hg hF
    go_wp2_with fail
    refine (uintOf_any none 0 0 [] w2 0 (Rd.nil _ _ _) rfl).mono ?_
    rw [HNil.out]
    rintro e w' ⟨rfl, rfl⟩
    go_wp2_with fail
    go_ret
    exact ⟨rfl, K2.out.belowN⟩
  | some q =>
    obtain ⟨cc, r⟩ := q
    intro hg
    rintro ⟨A3, k3, A4, k4, rfl, _, _, _, _, hr3, hr4⟩
    have R3 := Lib.hid hr3
    have R4 := Lib.hid hr4
    clear hr3 hr4
    go_wp2_with fail
    refine (uintOf_any A3 _ k3 cc w2 _ R3.out rfl).mono ?_
    revert hg
    cases uintOf cc with
    | none =>
      intro hg
      have hg : ok = false := hg
      subst hg
      rintro e w' ⟨rfl, rfl⟩
      go_wp2_with fail
      go_ret
      exact ⟨rfl, K2.out.belowN⟩
    | some v =>
      intro hg
      obtain ⟨rfl, rfl, rfl⟩ : ok = true ∧ x = v ∧ ys = r := hg
      rintro e w' ⟨rfl, rfl⟩
      simp only [Option.getD_some, Option.isSome_some]
      go_wp2_with fail
      all_goals
        refine (same_yes _ _ _ _ _ _ _ _ _ w1.heap.size w.heap.size (R1.out.only KK.out (by simp) (Nat.le_refl _)) R4.out rfl rfl rfl).mono ?_
        rintro e w' ⟨rfl, rfl⟩
        go_wp2_with fail
        go_ret
        exact ⟨rfl, K2.out.belowN⟩


end Go.Proofs.Ytdocgembogocjaa
