/- The laws on strings of bits that are read: walks. -/
import Derived.Test.YtpndhbhkmfcgaaaBits2
namespace Go.Proofs.Ytpndhbhkmfcgaaa
open Go.RowKit

theorem asOfB {xs r : List Int} {tag : Int} {v : List Int} {k : Int} (h : asOf bitsOf xs tag = some ((v, k), r)) : ∃ cc, firstOf xs tag = some (cc, r) ∧ bitsOf cc = some (v, k) := by
  unfold asOf at h
  split at h
  · rename_i c r' hf
    cases hv : bitsOf c with
    | none => rw [hv] at h; cases h
    | some u =>
      rw [hv] at h
      simp only [Option.map_some, Option.some.injEq, Prod.mk.injEq] at h
      obtain ⟨rfl, rfl⟩ := h
      exact ⟨c, hf, hv⟩
  · cases h
/-- The bits that are left over are none, or 0 in the last byte. -/
theorem bitsOf_is {cc v : List Int} {k : Int} (hb : Byt cc) (h : bitsOf cc = some (v, k)) : ∃ p : Nat, p ≤ 7 ∧ k = 8 * (v.length : Int) - p ∧ (p = 0 ∨ ∃ m, v.length = m + 1 ∧ v.getD m 0 % 2 ^ p = 0) := by
  unfold bitsOf at h
  split at h
  · cases h
  · rename_i h1
    split at h
    · cases h
    · rename_i h2
      simp only [Option.some.injEq, Prod.mk.injEq] at h
      obtain ⟨rfl, rfl⟩ := h
      obtain ⟨x0, _⟩ := Byt.getD hb 0
      refine ⟨(cc.getD 0 0).toNat, by omega, ?_, ?_⟩
      · rw [List.length_drop]; omega
      · by_cases hz : cc.getD 0 0 = 0
        · left; omega
        · right
          refine ⟨cc.length - 2, by rw [List.length_drop]; omega, ?_⟩
          have h3 : cc.getD (cc.length - 1) 0 % 2 ^ (cc.getD 0 0).toNat = 0 := by
            apply Decidable.byContradiction
            intro h4
            exact h2 ⟨by omega, h4⟩
          rw [List.getD_eq_getElem?_getD, List.getElem?_drop, show 1 + (cc.length - 2) = cc.length - 1 by omega, ← List.getD_eq_getElem?_getD]
          exact h3

theorem isBits_any (A : Option Addr) (n c : Nat) (xs : List Int) (w : World) (B : Nat) (h : Rd w B A xs) (hn : n = xs.length) (hnc : n ≤ c) (hcm : c ≤ maxLen) (hBw : B ≤ w.heap.size) (hb : xs.length ≤ 4194304) :
    Calls Try.prog 9 #[.slice A n c] w fun e w' => e = .returned (.bool (asOf bitsOf xs 3).isSome) ∧ Only [] w w' := by
  have H := Lib.hid (firstOf_any A n c xs 3 w B h hn hnc hcm hBw hb)
  have HXL := Lib.hid hb
  have HNil : Hid (bitsOf [] = none) := Lib.hid (by simp [bitsOf])
  clear h hn hnc hBw hb hcm
  go_enter Try.func9, Try.ntmps9
  go_wp2_with fail
  refine H.out.mono ?_
  intro e w1 hF
  unfold FirstOfSaid at hF
  obtain ⟨hk, hF⟩ := hF
  have K := Lib.hid hk
  revert hF
  clear hk H
  cases hf : firstOf xs 3 with
  | none =>
    intro hF
    subst hF
    have HQ : Hid ((asOf bitsOf xs 3).isSome = false) := Lib.hid (by unfold asOf; rw [hf]; rfl)
    clear hf
    go_wp2_with fail
    refine (bitsOf_any none 0 0 [] w1 0 (Rd.nil _ _ _) rfl (Nat.le_refl _) (Nat.zero_le _) (by simp)).mono ?_
    rintro e w' ⟨hS, hk9⟩
    unfold BitsSaid at hS
    rw [HNil.out] at hS
    subst hS
    have K := Lib.hid (K.out.trans hk9)
    clear hk9
    go_wp2_with fail
    go_ret
    exact ⟨by rw [HQ.out]; rfl, K.out⟩
  | some q =>
    obtain ⟨cc, r⟩ := q
    rintro ⟨A1, k1, A2, k2, rfl, hk3, _, hm3, _, hr3, _⟩
    have HK3 := Lib.hid (And.intro hk3 (And.intro hm3 (Nat.le_trans (firstOf_le hf).1 HXL.out)))
    clear hk3 hm3
    have R3 := Lib.hid hr3
    have HQ : Hid ((asOf bitsOf xs 3).isSome = (bitsOf cc).isSome) := Lib.hid (by unfold asOf; rw [hf]; simp)
    clear hf hr3
    go_wp2_with fail
    refine (bitsOf_any A1 _ k1 cc w1 _ R3.out rfl HK3.out.1 HK3.out.2.1 HK3.out.2.2).mono ?_
    rintro e w' ⟨hS, hk9⟩
    have K := Lib.hid (K.out.trans hk9)
    clear hk9
    unfold BitsSaid at hS
    revert hS HQ
    cases bitsOf cc with
    | none =>
      intro HQ hS
      subst hS
      go_wp2_with fail
      go_ret
      exact ⟨by rw [HQ.out]; rfl, K.out⟩
    | some p =>
      obtain ⟨pv, pk⟩ := p
      rintro HQ ⟨A5, c5, rfl, _⟩
      go_wp2_with fail
      go_ret
      exact ⟨by rw [HQ.out]; rfl, K.out⟩




end Go.Proofs.Ytpndhbhkmfcgaaa
