/- The law on strings of bits read as bytes and added again: walk. -/
import Derived.Test.YtpndhbhkmfcgaaaBits3
import Derived.Test.YtpndhbhkmfcgaaaL17
namespace Go.Proofs.Ytpndhbhkmfcgaaa
open Go.RowKit

theorem law_FnAgainBits (A : Option Addr) (n c : Nat) (xs : List Int) (w : World) (h : Rd w w.heap.size A xs) (hn : n = xs.length) (hc : n ≤ c) (_hcm : c ≤ maxLen) :
    Calls Try.prog 3 #[.slice A n c] w fun e w' => e = .returned (.bool true) ∧ Below w.heap.size w w' := by
  by_cases hbig : 1048576 < n
  · clear h hn
    have F := fun w => fits_no A n c w hbig
    have HF := Lib.hid F
    clear F
    by_cases hz : 2147483647 < n
    · go_enter Try.func3, Try.ntmps3
      go_wp2_with fail
      go_ret
      exact ⟨rfl, Below.refl _ _⟩
    · go_enter Try.func3, Try.ntmps3
      go_wp2_with fail
      refine (HF.out _).mono ?_; rintro e w' ⟨rfl, rfl⟩
      go_wp2_with fail
      go_ret
      exact ⟨rfl, Below.refl _ _⟩
  have F := fun w => fits_yes A n c w (by omega)
  have HF := Lib.hid F
  clear F
  have hz : n ≤ 2147483647 := by omega
  have I := Lib.hid (fun w B h => ImReadBitsAsBytes_of A n c xs w B h hn (by omega))
  have IB := Lib.hid (fun w B h => ImReadBits_of A n c xs w B h hn (by omega))
  have TG := Lib.hid (fun w B h hB => isBits_any A n c xs w B h hn hc _hcm hB (by omega))
  have HH := Lib.hid h
  have HN := Lib.hid hn
  have HXL : Hid (xs.length ≤ 1048576) := Lib.hid (by omega)
  clear h hn hbig hc _hcm
  go_enter Try.func3, Try.ntmps3
  go_wp2_with fail
  refine (HF.out _).mono ?_; rintro e w' ⟨rfl, rfl⟩
  go_wp2_with fail
  refine (I.out _ _ HH.out).mono ?_
  rintro e w1 ⟨ok, v, ys, A1, c1, A2, c2, rfl, hr1, hr2, hk1, _, _, hg⟩
  have R1 := Lib.hid hr1
  have R2 := Lib.hid hr2
  have K1 := Lib.hid hk1
  clear hr1 hr2 hk1
  cases hs : asOf bitBytes xs 3 with
  | none =>
    rw [hs] at hg
    have hg : ok = false := hg
    subst hg
    go_wp2_with fail
    refine (IB.out _ _ (HH.out.only K1.out (by simp) (Nat.le_refl _))).mono ?_
    rintro e w2 ⟨ok2, v2, k2, ys2, A3, c3, A4, c4, rfl, _, _, hk2, _, _, hg2⟩
    have K2 := Lib.hid (K1.out.trans hk2)
    clear hk2
    cases hb : asOf bitsOf xs 3 with
    | none =>
      rw [hb] at hg2
      have hg2 : ok2 = false := hg2
      subst hg2
      have HS : Hid ((asOf bitsOf xs 3).isSome = false) := Lib.hid (by rw [hb]; rfl)
      clear hs hb
      obtain ⟨bb, hbb⟩ : ∃ bb, (k2.tmod 8 != 0) = bb := ⟨_, rfl⟩
      go_wp2_with fail
      refine (TG.out _ _ (HH.out.only K2.out (by simp) (Nat.le_refl _)) K2.out.size).mono ?_
      rw [HS.out]
      rintro e w3 ⟨rfl, hk3⟩
      have K3 := Lib.hid (K2.out.trans hk3)
      clear hk3
      cases bb
      · go_wp2_with fail
        refine (TG.out _ _ (HH.out.only K3.out (by simp) (Nat.le_refl _)) K3.out.size).mono ?_
        rw [HS.out]
        rintro e w4 ⟨rfl, hk4⟩
        have K4 := Lib.hid (K3.out.trans hk4)
        clear hk4
        go_wp2_with fail
        go_ret
        exact ⟨rfl, K4.out.belowN⟩
      · go_wp2_with fail
        go_ret
        exact ⟨rfl, K3.out.belowN⟩
    | some q =>
      obtain ⟨⟨v', k'⟩, r⟩ := q
      rw [hb] at hg2
      obtain ⟨rfl, hvk, _⟩ : ok2 = true ∧ (v2, k2) = (v', k') ∧ ys2 = r := hg2
      obtain ⟨rfl, rfl⟩ : v2 = v' ∧ k2 = k' := by simpa using hvk
      obtain ⟨cc, hf, hv⟩ := asOfB hb
      have HS : Hid ((asOf bitsOf xs 3).isSome = true) := Lib.hid (by rw [hb]; rfl)
      have hcb := ((firstOf_le hf).2.2 HH.out.byt).1
      have hnb : bitBytes cc = none := by
        unfold asOf at hs
        rw [hf] at hs
        cases hq : bitBytes cc with
        | none => rfl
        | some u => exact absurd hs (by simp [hq])
      have hk0 : 0 ≤ k2 ∧ k2 % 8 ≠ 0 := by
        obtain ⟨x0, _⟩ := Byt.getD hcb 0
        unfold bitBytes at hnb
        unfold bitsOf at hv
        split at hv
        · cases hv
        · rename_i h1
          split at hv
          · cases hv
          · simp only [Option.some.injEq, Prod.mk.injEq] at hv
            obtain ⟨_, rfl⟩ := hv
            split at hnb
            · rename_i h3
              omega
            · cases hnb
      obtain ⟨hk0, hk8⟩ := hk0
      have hq8 : (k2 % 8 != 0) = true := by simpa using hk8
      clear hs hb hvk hf hv hcb hnb hk8
      go_wp2_with fail
      refine (TG.out _ _ (HH.out.only K2.out (by simp) (Nat.le_refl _)) K2.out.size).mono ?_
      rw [HS.out]
      rintro e w3 ⟨rfl, hk3⟩
      have K3 := Lib.hid (K2.out.trans hk3)
      clear hk3
      go_wp2_with fail
      go_ret
      exact ⟨rfl, K3.out.belowN⟩
  | some q =>
    obtain ⟨v', r⟩ := q
    rw [hs] at hg
    obtain ⟨rfl, rfl, rfl⟩ : ok = true ∧ v = v' ∧ ys = r := hg
    obtain ⟨cc, hf, hv⟩ : ∃ cc, firstOf xs 3 = some (cc, ys) ∧ bitBytes cc = some v := by
      unfold asOf at hs
      split at hs
      · rename_i c r' hf
        cases hv : bitBytes c with
        | none => rw [hv] at hs; cases hs
        | some u =>
          rw [hv] at hs
          simp only [Option.map_some, Option.some.injEq, Prod.mk.injEq] at hs
          obtain ⟨rfl, rfl⟩ := hs
          exact ⟨c, hf, hv⟩
      · cases hs
    obtain ⟨hall, _⟩ := firstOf_split HH.out.byt hf
    have ho : 0 :: v = cc := by
      unfold bitBytes at hv
      split at hv
      · cases hv
      · rename_i h1
        simp only [Option.some.injEq] at hv
        rcases cc with _ | ⟨a, cs⟩
        · simp at h1
        · simp only [List.drop_succ_cons, List.drop_zero] at hv
          simp only [List.getD_cons_zero, not_or, Decidable.not_not] at h1
          rw [h1.2, hv]
    have hcl : cc.length ≤ xs.length := (firstOf_le hf).1
    have hvl : v.length ≤ 1048576 := by rw [← ho, List.length_cons] at hcl; have := HXL.out; omega
    have AD := Lib.hid (fun A c w B h hB => ImAddBits_any A v.length c v w B h rfl hB (by omega))
    have he : elem 3 (0 :: v) = some (wrapped 3 cc) := by unfold elem; rw [if_neg (by decide), ho]
    rw [he] at AD
    have hlen : (wrapped 3 cc).length + ys.length ≤ 1048576 := by rw [← List.length_append, hall]; exact HXL.out
    obtain ⟨o, hoo⟩ : ∃ o, wrapped 3 cc = o := ⟨_, rfl⟩
    rw [hoo] at AD hall hlen
    have HA := Lib.hid (And.intro hall hlen)
    clear hs hf hv hall ho he hlen hoo hcl hvl
    go_wp2_with fail
    refine (AD.out _ _ _ _ R1.out (Nat.le_refl _)).mono ?_
    rintro e w2 ⟨A3, c3, zs, ok, rfl, hr3, hk2, _, _, rfl, rfl⟩
    have R3 := Lib.hid hr3
    have K2 := Lib.hid hk2
    have K12 := Lib.hid (K1.out.trans hk2)
    clear hr3 hk2
    go_wp2_with fail
    refine (behind_any _ _ _ _ _ _ zs ys w2 w2.heap.size w1.heap.size R3.out (R2.out.only K2.out (by simp) (Nat.le_refl _)) (Nat.le_refl _) K2.out.size rfl rfl (by have := HA.out.2; omega)).mono ?_
    rw [HA.out.1]
    rintro e w3 ⟨A4, c4, rfl, hc3, hm3, hown3, hk3⟩
    have R4 := Lib.hid (Rd.of_own HH.out.byt hown3)
    have K3 := Lib.hid (K12.out.trans hk3)
    clear hc3 hm3 hown3 hk3
    go_wp2_with fail
    refine (same_yes _ _ _ _ _ _ xs xs _ w3.heap.size w.heap.size R4.out (HH.out.only K3.out (by simp) (Nat.le_refl _)) rfl HN.out rfl).mono ?_
    rintro e w' ⟨rfl, rfl⟩
    go_wp2_with fail
    go_ret
    exact ⟨rfl, K3.out.belowN⟩

end Go.Proofs.Ytpndhbhkmfcgaaa
