/- The laws on values that are read and added again: walks. -/
import Derived.Test.YtilofbhpgcdenaaBl10
import Derived.Test.YtilofbhpgcdenaaMth3
import Derived.Test.YtilofbhpgcdenaaL7
namespace Go.Proofs.Ytilofbhpgcdenaa
open Go.RowKit

theorem asOf_some {α : Type} {f : List Int → Option α} {xs r : List Int} {tag : Int} {v : α} (h : asOf f xs tag = some (v, r)) : ∃ cc, firstOf xs tag = some (cc, r) ∧ f cc = some v := by
  unfold asOf at h
  split at h
  · rename_i c r' hf
    cases hv : f c with
    | none => rw [hv] at h; cases h
    | some u =>
      rw [hv] at h
      simp only [Option.map_some, Option.some.injEq, Prod.mk.injEq] at h
      obtain ⟨rfl, rfl⟩ := h
      exact ⟨c, hf, hv⟩
  · cases h
theorem boolOf_is {c : List Int} {v : Bool} (h : boolOf c = some v) : [if v then (255 : Int) else 0] = c := by
  unfold boolOf at h
  split at h
  · cases h
  · rename_i hl
    rcases c with _ | ⟨a, _ | ⟨b, cs⟩⟩
    · simp at hl
    · simp only [List.getD_cons_zero] at h
      split at h
      · rename_i h0
        simp only [Option.some.injEq] at h
        subst h h0
        rfl
      · split at h
        · rename_i h1
          simp only [Option.some.injEq] at h
          subst h h1
          rfl
        · cases h
    · simp at hl

theorem isBool_any (A : Option Addr) (n c : Nat) (xs : List Int) (w : World) (B : Nat) (h : Rd w B A xs) (hn : n = xs.length) (hnc : n ≤ c) (hcm : c ≤ maxLen) (hBw : B ≤ w.heap.size) (hb : xs.length ≤ 4194304) :
    Calls Try.prog 9 #[.slice A n c] w fun e w' => e = .returned (.bool (asOf boolOf xs 1).isSome) ∧ Only [] w w' := by
  have H := Lib.hid (firstOf_any A n c xs 1 w B h hn hnc hcm hBw hb)
  have HNil : Hid (boolOf [] = none) := Lib.hid (by simp [boolOf])
  clear h hn hnc hBw hb hcm
  go_enter Try.func9, Try.ntmps9
  go_wp2_with fail
  refine H.out.mono ?_
  intro e w1 hF
  unfold FirstOfSaid at hF
  obtain ⟨hk, hF⟩ := hF
  have K := Lib.hid hk
  revert hF
  clear hk H
  cases hf : firstOf xs 1 with
  | none =>
    intro hF
    subst hF
    have HQ : Hid ((asOf boolOf xs 1).isSome = false) := Lib.hid (by unfold asOf; rw [hf]; rfl)
    clear hf
    go_wp2_with fail
    refine (boolOf_any none 0 0 [] w1 0 (Rd.nil _ _ _) rfl).mono ?_
    rw [HNil.out]
    rintro e w' ⟨rfl, rfl⟩
    go_wp2_with fail
    go_ret
    exact ⟨by rw [HQ.out]; rfl, K.out⟩
  | some q =>
    obtain ⟨cc, r⟩ := q
    rintro ⟨A1, k1, A2, k2, rfl, _, _, _, _, hr3, _⟩
    have R3 := Lib.hid hr3
    have HQ : Hid ((asOf boolOf xs 1).isSome = (boolOf cc).isSome) := Lib.hid (by unfold asOf; rw [hf]; simp)
    clear hf hr3
    go_wp2_with fail
    refine (boolOf_any A1 _ k1 cc w1 _ R3.out rfl).mono ?_
    rintro e w' ⟨rfl, rfl⟩
    generalize boolOf cc = o at *
    rcases o with _ | ⟨_ | _⟩
    all_goals
      go_wp2_with fail
      go_ret
      exact ⟨by rw [HQ.out]; rfl, K.out⟩

theorem law_FnAgainInt64 (A : Option Addr) (n c : Nat) (xs : List Int) (w : World) (h : Rd w w.heap.size A xs) (hn : n = xs.length) (hc : n ≤ c) (_hcm : c ≤ maxLen) :
    Calls Try.prog 5 #[.slice A n c] w fun e w' => e = .returned (.bool true) ∧ Below w.heap.size w w' := by
  by_cases hbig : 1048576 < n
  · clear h hn
    have F := fun w => fits_no A n c w hbig
    have HF := Lib.hid F
    clear F
    by_cases hz : 2147483647 < n
    · go_enter Try.func5, Try.ntmps5
      go_wp2_with fail
      go_ret
      exact ⟨rfl, Below.refl _ _⟩
    · go_enter Try.func5, Try.ntmps5
      go_wp2_with fail
      refine (HF.out _).mono ?_; rintro e w' ⟨rfl, rfl⟩
      go_wp2_with fail
      go_ret
      exact ⟨rfl, Below.refl _ _⟩
  have F := fun w => fits_yes A n c w (by omega)
  have HF := Lib.hid F
  clear F
  have hz : n ≤ 2147483647 := by omega
  have I := Lib.hid (fun w B h => ImReadInt64_of A n c xs w B h hn (by omega))
  have TG := Lib.hid (fun w B h hB => isInt_any A n c xs 2 w B h hn hc _hcm hB (by omega))
  have HH := Lib.hid h
  have HN := Lib.hid hn
  have HXL : Hid (xs.length ≤ 1048576) := Lib.hid (by omega)
  clear h hn hbig hc _hcm
  go_enter Try.func5, Try.ntmps5
  go_wp2_with fail
  refine (HF.out _).mono ?_; rintro e w' ⟨rfl, rfl⟩
  go_wp2_with fail
  refine (I.out _ _ HH.out).mono ?_
  rintro e w1 ⟨ok, x, ys, A1, c1, rfl, hr1, hk1, _, hg⟩
  have R1 := Lib.hid hr1
  have K1 := Lib.hid hk1
  clear hr1 hk1
  cases hs : asOf intOf' xs 2 with
  | none =>
    rw [hs] at hg
    have hg : ok = false := hg
    subst hg
    have HS : Hid ((asOf intOf' xs 2).isSome = false) := Lib.hid (by rw [hs]; rfl)
    clear hs
    go_wp2_with fail
    refine (TG.out _ _ (HH.out.only K1.out (by simp) (Nat.le_refl _)) K1.out.size).mono ?_
    rw [HS.out]
    rintro e w2 ⟨rfl, hk2⟩
    have K2 := Lib.hid (K1.out.trans hk2)
    clear hk2
    go_wp2_with fail
    go_ret
    exact ⟨rfl, K2.out.belowN⟩
  | some q =>
    obtain ⟨v, r⟩ := q
    rw [hs] at hg
    obtain ⟨rfl, rfl, rfl⟩ : ok = true ∧ x = v ∧ ys = r := hg
    obtain ⟨cc, hf, hv⟩ := asOf_some hs
    obtain ⟨hall, _⟩ := firstOf_split HH.out.byt hf
    obtain ⟨ho, b0, b1⟩ := octs_of (((firstOf_le hf).2.2 HH.out.byt).1) hv
    have AD := Lib.hid (fun w => ImAddInt64_any x w b0 b1)
    have he : elem 2 (octs x) = some (wrapped 2 cc) := by unfold elem; rw [if_neg (by decide), ho]
    rw [he] at AD
    have hlen : (wrapped 2 cc).length + ys.length ≤ 1048576 := by rw [← List.length_append, hall]; exact HXL.out
    obtain ⟨o, hoo⟩ : ∃ o, wrapped 2 cc = o := ⟨_, rfl⟩
    rw [hoo] at AD hall hlen
    have HA := Lib.hid (And.intro hall hlen)
    clear hs hf hv hall ho he hlen hoo
    go_wp2_with fail
    refine (AD.out _).mono ?_
    rintro e w2 ⟨A2, c2, zs, ok, rfl, hr2, hk2, _, _, rfl, rfl⟩
    have R2 := Lib.hid hr2
    have K2 := Lib.hid hk2
    have K12 := Lib.hid (K1.out.trans hk2)
    clear hr2 hk2
    go_wp2_with fail
    refine (behind_any _ _ _ _ _ _ zs ys w2 w2.heap.size w1.heap.size R2.out (R1.out.only K2.out (by simp) (Nat.le_refl _)) (Nat.le_refl _) K2.out.size rfl rfl (by have := HA.out.2; omega)).mono ?_
    rw [HA.out.1]
    rintro e w3 ⟨A3, c3, rfl, hc3, hm3, hown3, hk3⟩
    have R3 := Lib.hid (Rd.of_own HH.out.byt hown3)
    have K3 := Lib.hid (K12.out.trans hk3)
    clear hc3 hm3 hown3 hk3
    go_wp2_with fail
    refine (same_yes _ _ _ _ _ _ xs xs _ w3.heap.size w.heap.size R3.out (HH.out.only K3.out (by simp) (Nat.le_refl _)) rfl HN.out rfl).mono ?_
    rintro e w' ⟨rfl, rfl⟩
    go_wp2_with fail
    go_ret
    exact ⟨rfl, K3.out.belowN⟩


theorem law_FnAgainEnum (A : Option Addr) (n c : Nat) (xs : List Int) (w : World) (h : Rd w w.heap.size A xs) (hn : n = xs.length) (hc : n ≤ c) (_hcm : c ≤ maxLen) :
    Calls Try.prog 4 #[.slice A n c] w fun e w' => e = .returned (.bool true) ∧ Below w.heap.size w w' := by
  by_cases hbig : 1048576 < n
  · clear h hn
    have F := fun w => fits_no A n c w hbig
    have HF := Lib.hid F
    clear F
    by_cases hz : 2147483647 < n
    · go_enter Try.func4, Try.ntmps4
      go_wp2_with fail
      go_ret
      exact ⟨rfl, Below.refl _ _⟩
    · go_enter Try.func4, Try.ntmps4
      go_wp2_with fail
      refine (HF.out _).mono ?_; rintro e w' ⟨rfl, rfl⟩
      go_wp2_with fail
      go_ret
      exact ⟨rfl, Below.refl _ _⟩
  have F := fun w => fits_yes A n c w (by omega)
  have HF := Lib.hid F
  clear F
  have hz : n ≤ 2147483647 := by omega
  have I := Lib.hid (fun w B h => ImReadEnum_of A n c xs w B h hn (by omega))
  have TG := Lib.hid (fun w B h hB => isInt_any A n c xs 10 w B h hn hc _hcm hB (by omega))
  have HH := Lib.hid h
  have HN := Lib.hid hn
  have HXL : Hid (xs.length ≤ 1048576) := Lib.hid (by omega)
  clear h hn hbig hc _hcm
  go_enter Try.func4, Try.ntmps4
  go_wp2_with fail
  refine (HF.out _).mono ?_; rintro e w' ⟨rfl, rfl⟩
  go_wp2_with fail
  refine (I.out _ _ HH.out).mono ?_
  rintro e w1 ⟨ok, x, ys, A1, c1, rfl, hr1, hk1, _, hg⟩
  have R1 := Lib.hid hr1
  have K1 := Lib.hid hk1
  clear hr1 hk1
  cases hs : asOf intOf' xs 10 with
  | none =>
    rw [hs] at hg
    have hg : ok = false := hg
    subst hg
    have HS : Hid ((asOf intOf' xs 10).isSome = false) := Lib.hid (by rw [hs]; rfl)
    clear hs
    go_wp2_with fail
    refine (TG.out _ _ (HH.out.only K1.out (by simp) (Nat.le_refl _)) K1.out.size).mono ?_
    rw [HS.out]
    rintro e w2 ⟨rfl, hk2⟩
    have K2 := Lib.hid (K1.out.trans hk2)
    clear hk2
    go_wp2_with fail
    go_ret
    exact ⟨rfl, K2.out.belowN⟩
  | some q =>
    obtain ⟨v, r⟩ := q
    rw [hs] at hg
    obtain ⟨rfl, rfl, rfl⟩ : ok = true ∧ x = v ∧ ys = r := hg
    obtain ⟨cc, hf, hv⟩ := asOf_some hs
    obtain ⟨hall, _⟩ := firstOf_split HH.out.byt hf
    obtain ⟨ho, b0, b1⟩ := octs_of (((firstOf_le hf).2.2 HH.out.byt).1) hv
    have AD := Lib.hid (fun w => ImAddEnum_any x w b0 b1)
    have he : elem 10 (octs x) = some (wrapped 10 cc) := by unfold elem; rw [if_neg (by decide), ho]
    rw [he] at AD
    have hlen : (wrapped 10 cc).length + ys.length ≤ 1048576 := by rw [← List.length_append, hall]; exact HXL.out
    obtain ⟨o, hoo⟩ : ∃ o, wrapped 10 cc = o := ⟨_, rfl⟩
    rw [hoo] at AD hall hlen
    have HA := Lib.hid (And.intro hall hlen)
    clear hs hf hv hall ho he hlen hoo
    go_wp2_with fail
    refine (AD.out _).mono ?_
    rintro e w2 ⟨A2, c2, zs, ok, rfl, hr2, hk2, _, _, rfl, rfl⟩
    have R2 := Lib.hid hr2
    have K2 := Lib.hid hk2
    have K12 := Lib.hid (K1.out.trans hk2)
    clear hr2 hk2
    go_wp2_with fail
    refine (behind_any _ _ _ _ _ _ zs ys w2 w2.heap.size w1.heap.size R2.out (R1.out.only K2.out (by simp) (Nat.le_refl _)) (Nat.le_refl _) K2.out.size rfl rfl (by have := HA.out.2; omega)).mono ?_
    rw [HA.out.1]
    rintro e w3 ⟨A3, c3, rfl, hc3, hm3, hown3, hk3⟩
    have R3 := Lib.hid (Rd.of_own HH.out.byt hown3)
    have K3 := Lib.hid (K12.out.trans hk3)
    clear hc3 hm3 hown3 hk3
    go_wp2_with fail
    refine (same_yes _ _ _ _ _ _ xs xs _ w3.heap.size w.heap.size R3.out (HH.out.only K3.out (by simp) (Nat.le_refl _)) rfl HN.out rfl).mono ?_
    rintro e w' ⟨rfl, rfl⟩
    go_wp2_with fail
    go_ret
    exact ⟨rfl, K3.out.belowN⟩


theorem law_FnAgainUint (A : Option Addr) (n c : Nat) (xs : List Int) (w : World) (h : Rd w w.heap.size A xs) (hn : n = xs.length) (hc : n ≤ c) (_hcm : c ≤ maxLen) :
    Calls Try.prog 6 #[.slice A n c] w fun e w' => e = .returned (.bool true) ∧ Below w.heap.size w w' := by
  by_cases hbig : 1048576 < n
  · clear h hn
    have F := fun w => fits_no A n c w hbig
    have HF := Lib.hid F
    clear F
    by_cases hz : 2147483647 < n
    · go_enter Try.func6, Try.ntmps6
      go_wp2_with fail
      go_ret
      exact ⟨rfl, Below.refl _ _⟩
    · go_enter Try.func6, Try.ntmps6
      go_wp2_with fail
      refine (HF.out _).mono ?_; rintro e w' ⟨rfl, rfl⟩
      go_wp2_with fail
      go_ret
      exact ⟨rfl, Below.refl _ _⟩
  have F := fun w => fits_yes A n c w (by omega)
  have HF := Lib.hid F
  clear F
  have hz : n ≤ 2147483647 := by omega
  have I := Lib.hid (fun w B h => ImReadUint_of A n c xs w B h hn (by omega))
  have TG := Lib.hid (fun w B h hB => isUint_any A n c xs w B h hn hc _hcm hB (by omega))
  have HH := Lib.hid h
  have HN := Lib.hid hn
  have HXL : Hid (xs.length ≤ 1048576) := Lib.hid (by omega)
  clear h hn hbig hc _hcm
  go_enter Try.func6, Try.ntmps6
  go_wp2_with fail
  refine (HF.out _).mono ?_; rintro e w' ⟨rfl, rfl⟩
  go_wp2_with fail
  refine (I.out _ _ HH.out).mono ?_
  rintro e w1 ⟨ok, x, ys, A1, c1, rfl, hr1, hk1, _, hg⟩
  have R1 := Lib.hid hr1
  have K1 := Lib.hid hk1
  clear hr1 hk1
  cases hs : asOf uintOf xs 2 with
  | none =>
    rw [hs] at hg
    have hg : ok = false := hg
    subst hg
    have HS : Hid ((asOf uintOf xs 2).isSome = false) := Lib.hid (by rw [hs]; rfl)
    clear hs
    go_wp2_with fail
    refine (TG.out _ _ (HH.out.only K1.out (by simp) (Nat.le_refl _)) K1.out.size).mono ?_
    rw [HS.out]
    rintro e w2 ⟨rfl, hk2⟩
    have K2 := Lib.hid (K1.out.trans hk2)
    clear hk2
    go_wp2_with fail
    go_ret
    exact ⟨rfl, K2.out.belowN⟩
  | some q =>
    obtain ⟨v, r⟩ := q
    rw [hs] at hg
    obtain ⟨rfl, rfl, rfl⟩ : ok = true ∧ x = v ∧ ys = r := hg
    obtain ⟨cc, hf, hv⟩ := asOf_some hs
    obtain ⟨hall, _⟩ := firstOf_split HH.out.byt hf
    obtain ⟨ho, b0, b1⟩ := uocts_of (((firstOf_le hf).2.2 HH.out.byt).1) hv
    have AD := Lib.hid (fun w => ImAddUint_any x w b0 b1)
    have he : elem 2 (uocts x) = some (wrapped 2 cc) := by unfold elem; rw [if_neg (by decide), ho]
    rw [he] at AD
    have hlen : (wrapped 2 cc).length + ys.length ≤ 1048576 := by rw [← List.length_append, hall]; exact HXL.out
    obtain ⟨o, hoo⟩ : ∃ o, wrapped 2 cc = o := ⟨_, rfl⟩
    rw [hoo] at AD hall hlen
    have HA := Lib.hid (And.intro hall hlen)
    clear hs hf hv hall ho he hlen hoo
    go_wp2_with fail
    refine (AD.out _).mono ?_
    rintro e w2 ⟨A2, c2, zs, ok, rfl, hr2, hk2, _, _, rfl, rfl⟩
    have R2 := Lib.hid hr2
    have K2 := Lib.hid hk2
    have K12 := Lib.hid (K1.out.trans hk2)
    clear hr2 hk2
    go_wp2_with fail
    refine (behind_any _ _ _ _ _ _ zs ys w2 w2.heap.size w1.heap.size R2.out (R1.out.only K2.out (by simp) (Nat.le_refl _)) (Nat.le_refl _) K2.out.size rfl rfl (by have := HA.out.2; omega)).mono ?_
    rw [HA.out.1]
    rintro e w3 ⟨A3, c3, rfl, hc3, hm3, hown3, hk3⟩
    have R3 := Lib.hid (Rd.of_own HH.out.byt hown3)
    have K3 := Lib.hid (K12.out.trans hk3)
    clear hc3 hm3 hown3 hk3
    go_wp2_with fail
    refine (same_yes _ _ _ _ _ _ xs xs _ w3.heap.size w.heap.size R3.out (HH.out.only K3.out (by simp) (Nat.le_refl _)) rfl HN.out rfl).mono ?_
    rintro e w' ⟨rfl, rfl⟩
    go_wp2_with fail
    go_ret
    exact ⟨rfl, K3.out.belowN⟩


theorem law_FnAgainBool (A : Option Addr) (n c : Nat) (xs : List Int) (w : World) (h : Rd w w.heap.size A xs) (hn : n = xs.length) (hc : n ≤ c) (_hcm : c ≤ maxLen) :
    Calls Try.prog 3 #[.slice A n c] w fun e w' => e = .returned (.bool true) ∧ Below w.heap.size w w' := by
  by_cases hbig : 1048576 < n
  · clear h hn
    have F := fun w => fits_no A n c w hbig
    have HF := Lib.hid F
    clear F
    by_cases hz : 2147483647 < n
    · go_enter Try.func3, Try.ntmps3
      go_wp2_with fail
      go_ret
      exact ⟨rfl, Below.refl _ _⟩
    · go_enter Try.func3, Try.ntmps3
      go_wp2_with fail
      refine (HF.out _).mono ?_; rintro e w' ⟨rfl, rfl⟩
      go_wp2_with fail
      go_ret
      exact ⟨rfl, Below.refl _ _⟩
  have F := fun w => fits_yes A n c w (by omega)
  have HF := Lib.hid F
  clear F
  have hz : n ≤ 2147483647 := by omega
  have I := Lib.hid (fun w B h => ImReadBool_of A n c xs w B h hn (by omega))
  have TG := Lib.hid (fun w B h hB => isBool_any A n c xs w B h hn hc _hcm hB (by omega))
  have HH := Lib.hid h
  have HN := Lib.hid hn
  have HXL : Hid (xs.length ≤ 1048576) := Lib.hid (by omega)
  clear h hn hbig hc _hcm
  go_enter Try.func3, Try.ntmps3
  go_wp2_with fail
  refine (HF.out _).mono ?_; rintro e w' ⟨rfl, rfl⟩
  go_wp2_with fail
  refine (I.out _ _ HH.out).mono ?_
  rintro e w1 ⟨ok, x, ys, A1, c1, rfl, hr1, hk1, _, hg⟩
  have R1 := Lib.hid hr1
  have K1 := Lib.hid hk1
  clear hr1 hk1
  cases hs : asOf boolOf xs 1 with
  | none =>
    rw [hs] at hg
    have hg : ok = false := hg
    subst hg
    have HS : Hid ((asOf boolOf xs 1).isSome = false) := Lib.hid (by rw [hs]; rfl)
    clear hs
    cases x with
    | true =>
      go_wp2_with fail
      refine (TG.out _ _ (HH.out.only K1.out (by simp) (Nat.le_refl _)) K1.out.size).mono ?_
      rw [HS.out]
      rintro e w2 ⟨rfl, hk2⟩
      have K2 := Lib.hid (K1.out.trans hk2)
      clear hk2
      go_wp2_with fail
      go_ret
      exact ⟨rfl, K2.out.belowN⟩
    | false =>
      go_wp2_with fail
      refine (TG.out _ _ (HH.out.only K1.out (by simp) (Nat.le_refl _)) K1.out.size).mono ?_
      rw [HS.out]
      rintro e w2 ⟨rfl, hk2⟩
      have K2 := Lib.hid (K1.out.trans hk2)
      clear hk2
      go_wp2_with fail
      go_ret
      exact ⟨rfl, K2.out.belowN⟩
  | some q =>
    obtain ⟨v, r⟩ := q
    rw [hs] at hg
    obtain ⟨rfl, rfl, rfl⟩ : ok = true ∧ x = v ∧ ys = r := hg
    obtain ⟨cc, hf, hv⟩ := asOf_some hs
    obtain ⟨hall, _⟩ := firstOf_split HH.out.byt hf
    have ho := boolOf_is hv
    have AD := Lib.hid (fun w => ImAddBool_any x w)
    have he : elem 1 [if x then 255 else 0] = some (wrapped 1 cc) := by unfold elem; rw [if_neg (by decide), ho]
    rw [he] at AD
    have hlen : (wrapped 1 cc).length + ys.length ≤ 1048576 := by rw [← List.length_append, hall]; exact HXL.out
    obtain ⟨o, hoo⟩ : ∃ o, wrapped 1 cc = o := ⟨_, rfl⟩
    rw [hoo] at AD hall hlen
    have HA := Lib.hid (And.intro hall hlen)
    clear hs hf hv hall ho he hlen hoo
    cases x with
    | true =>
      go_wp2_with fail
      refine (AD.out _).mono ?_
      rintro e w2 ⟨A2, c2, zs, ok, rfl, hr2, hk2, _, _, rfl, rfl⟩
      have R2 := Lib.hid hr2
      have K2 := Lib.hid hk2
      have K12 := Lib.hid (K1.out.trans hk2)
      clear hr2 hk2
      go_wp2_with fail
      refine (behind_any _ _ _ _ _ _ zs ys w2 w2.heap.size w1.heap.size R2.out (R1.out.only K2.out (by simp) (Nat.le_refl _)) (Nat.le_refl _) K2.out.size rfl rfl (by have := HA.out.2; omega)).mono ?_
      rw [HA.out.1]
      rintro e w3 ⟨A3, c3, rfl, hc3, hm3, hown3, hk3⟩
      have R3 := Lib.hid (Rd.of_own HH.out.byt hown3)
      have K3 := Lib.hid (K12.out.trans hk3)
      clear hc3 hm3 hown3 hk3
      go_wp2_with fail
      refine (same_yes _ _ _ _ _ _ xs xs _ w3.heap.size w.heap.size R3.out (HH.out.only K3.out (by simp) (Nat.le_refl _)) rfl HN.out rfl).mono ?_
      rintro e w' ⟨rfl, rfl⟩
      go_wp2_with fail
      go_ret
      exact ⟨rfl, K3.out.belowN⟩
    | false =>
      go_wp2_with fail
      refine (AD.out _).mono ?_
      rintro e w2 ⟨A2, c2, zs, ok, rfl, hr2, hk2, _, _, rfl, rfl⟩
      have R2 := Lib.hid hr2
      have K2 := Lib.hid hk2
      have K12 := Lib.hid (K1.out.trans hk2)
      clear hr2 hk2
      go_wp2_with fail
      refine (behind_any _ _ _ _ _ _ zs ys w2 w2.heap.size w1.heap.size R2.out (R1.out.only K2.out (by simp) (Nat.le_refl _)) (Nat.le_refl _) K2.out.size rfl rfl (by have := HA.out.2; omega)).mono ?_
      rw [HA.out.1]
      rintro e w3 ⟨A3, c3, rfl, hc3, hm3, hown3, hk3⟩
      have R3 := Lib.hid (Rd.of_own HH.out.byt hown3)
      have K3 := Lib.hid (K12.out.trans hk3)
      clear hc3 hm3 hown3 hk3
      go_wp2_with fail
      refine (same_yes _ _ _ _ _ _ xs xs _ w3.heap.size w.heap.size R3.out (HH.out.only K3.out (by simp) (Nat.le_refl _)) rfl HN.out rfl).mono ?_
      rintro e w' ⟨rfl, rfl⟩
      go_wp2_with fail
      go_ret
      exact ⟨rfl, K3.out.belowN⟩


end Go.Proofs.Ytilofbhpgcdenaa
