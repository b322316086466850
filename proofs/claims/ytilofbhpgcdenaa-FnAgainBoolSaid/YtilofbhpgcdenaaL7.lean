/- The laws on integers read in two ways: walks. -/
import Derived.Test.YtilofbhpgcdenaaL5
namespace Go.Proofs.Ytilofbhpgcdenaa
open Go.RowKit


theorem isInt_any (A : Option Addr) (n c : Nat) (xs : List Int) (tag : Int) (w : World) (B : Nat) (h : Rd w B A xs) (hn : n = xs.length) (hnc : n ≤ c) (hcm : c ≤ maxLen) (hBw : B ≤ w.heap.size) (hb : xs.length ≤ 4194304) :
    Calls Try.prog 14 #[.slice A n c, .int .i64 tag] w fun e w' => e = .returned (.bool (asOf intOf' xs tag).isSome) ∧ Only [] w w' := by
  have H := Lib.hid (firstOf_any A n c xs tag w B h hn hnc hcm hBw hb)
  have HNil : Hid (intOf' [] = none) := Lib.hid (by simp [intOf', intRight])
  clear h hn hnc hBw hb hcm
  go_enter Try.func14, Try.ntmps14
  go_wp2_with fail
  refine H.out.mono ?_
  intro e w1 hF
  unfold FirstOfSaid at hF
  obtain ⟨hk, hF⟩ := hF
  have K := Lib.hid hk
  revert hF
  clear hk H
  cases hf : firstOf xs tag with
  | none =>
    intro hF
    subst hF
    have HQ : Hid ((asOf intOf' xs tag).isSome = false) := Lib.hid (by unfold asOf; rw [hf]; rfl)
    clear hf
    go_wp2_with fail
    refine (intOf_any none 0 0 [] w1 0 (Rd.nil _ _ _) rfl).mono ?_
    rw [HNil.out]
    rintro e w' ⟨rfl, rfl⟩
    go_wp2_with fail
    go_ret
    exact ⟨by rw [HQ.out]; rfl, K.out⟩
  | some q =>
    obtain ⟨cc, r⟩ := q
    rintro ⟨A1, k1, A2, k2, rfl, _, _, _, _, hr3, _⟩
    have R3 := Lib.hid hr3
    have HQ : Hid ((asOf intOf' xs tag).isSome = (intOf' cc).isSome) := Lib.hid (by unfold asOf; rw [hf]; simp)
    clear hf hr3
    go_wp2_with fail
    refine (intOf_any A1 _ k1 cc w1 _ R3.out rfl).mono ?_
    rintro e w' ⟨rfl, rfl⟩
    generalize intOf' cc = o at *
    cases o
    all_goals
      go_wp2_with fail
      go_ret
      exact ⟨by rw [HQ.out]; rfl, K.out⟩

theorem isUint_any (A : Option Addr) (n c : Nat) (xs : List Int) (w : World) (B : Nat) (h : Rd w B A xs) (hn : n = xs.length) (hnc : n ≤ c) (hcm : c ≤ maxLen) (hBw : B ≤ w.heap.size) (hb : xs.length ≤ 4194304) :
    Calls Try.prog 19 #[.slice A n c] w fun e w' => e = .returned (.bool (asOf uintOf xs 2).isSome) ∧ Only [] w w' := by
  have H := Lib.hid (firstOf_any A n c xs 2 w B h hn hnc hcm hBw hb)
  have HNil : Hid (uintOf [] = none) := Lib.hid (by simp [uintOf, intRight])
  clear h hn hnc hBw hb hcm
  go_enter Try.func19, Try.ntmps19
  go_wp2_with fail
  refine H.out.mono ?_
  intro e w1 hF
  unfold FirstOfSaid at hF
  obtain ⟨hk, hF⟩ := hF
  have K := Lib.hid hk
  revert hF
  clear hk H
  cases hf : firstOf xs 2 with
  | none =>
    intro hF
    subst hF
    have HQ : Hid ((asOf uintOf xs 2).isSome = false) := Lib.hid (by unfold asOf; rw [hf]; rfl)
    clear hf
    go_wp2_with fail
    refine (uintOf_any none 0 0 [] w1 0 (Rd.nil _ _ _) rfl).mono ?_
    rw [HNil.out]
    rintro e w' ⟨rfl, rfl⟩
    go_wp2_with fail
    go_ret
    exact ⟨by rw [HQ.out]; rfl, K.out⟩
  | some q =>
    obtain ⟨cc, r⟩ := q
    rintro ⟨A1, k1, A2, k2, rfl, _, _, _, _, hr3, _⟩
    have R3 := Lib.hid hr3
    have HQ : Hid ((asOf uintOf xs 2).isSome = (uintOf cc).isSome) := Lib.hid (by unfold asOf; rw [hf]; simp)
    clear hf hr3
    go_wp2_with fail
    refine (uintOf_any A1 _ k1 cc w1 _ R3.out rfl).mono ?_
    rintro e w' ⟨rfl, rfl⟩
    generalize uintOf cc = o at *
    cases o
    all_goals
      go_wp2_with fail
      go_ret
      exact ⟨by rw [HQ.out]; rfl, K.out⟩

end Go.Proofs.Ytilofbhpgcdenaa
