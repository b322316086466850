/- The law on the bits left over in a string of bits: walk. -/
import Derived.Test.YtdocgembogocjaaL17
namespace Go.Proofs.Ytdocgembogocjaa
open Go.RowKit

theorem law_FnBitsFill (A : Option Addr) (n c : Nat) (xs : List Int) (w : World) (h : Rd w w.heap.size A xs) (hn : n = xs.length) (hc : n ≤ c) (_hcm : c ≤ maxLen) :
    Calls Try.prog 8 #[.slice A n c] w fun e w' => e = .returned (.bool true) ∧ Below w.heap.size w w' := by
  by_cases hbig : 1048576 < n
  · clear h hn
    have F := fun w => fits_no A n c w hbig
    have HF := Lib.hid F
    clear F
    by_cases hz : 2147483647 < n
    · go_enter Try.func8, Try.ntmps8
      go_wp2_with fail
      go_ret
      exact ⟨rfl, Below.refl _ _⟩
    · go_enter Try.func8, Try.ntmps8
      go_wp2_with fail
      refine (HF.out _).mono ?_; rintro e w' ⟨rfl, rfl⟩
      go_wp2_with fail
      go_ret
      exact ⟨rfl, Below.refl _ _⟩
  have F := fun w => fits_yes A n c w (by omega)
  have HF := Lib.hid F
  clear F
  have hz : n ≤ 2147483647 := by omega
  have I := Lib.hid (fun w B h => ImReadBits_of A n c xs w B h hn (by omega))
  have TG := Lib.hid (fun w B h hB => isBits_any A n c xs w B h hn hc _hcm hB (by omega))
  have HH := Lib.hid h
  clear h hn hbig
  go_enter Try.func8, Try.ntmps8
  go_wp2_with fail
  refine (HF.out _).mono ?_; rintro e w' ⟨rfl, rfl⟩
  go_wp2_with fail
  refine (I.out _ _ HH.out).mono ?_
  rintro e w1 ⟨ok, v, k, ys, A1, c1, A2, c2, rfl, hr1, _, hk1, hvl, _, hg⟩
  have R1 := Lib.hid hr1
  have K1 := Lib.hid hk1
  clear hr1 hk1
  cases hs : asOf bitsOf xs 3 with
  | none =>
    rw [hs] at hg
    have hg : ok = false := hg
    subst hg
    have HS : Hid ((asOf bitsOf xs 3).isSome = false) := Lib.hid (by rw [hs]; rfl)
    clear hs
    go_wp2_with fail
    refine (TG.out _ _ (HH.out.only K1.out (by simp) (Nat.le_refl _)) K1.out.size).mono ?_
    rw [HS.out]
    rintro e w2 ⟨rfl, hk2⟩
    have K2 := Lib.hid (K1.out.trans hk2)
    clear hk2
    go_wp2_with fail
    go_ret
    exact ⟨rfl, K2.out.belowN⟩
  | some q =>
    obtain ⟨⟨v', k'⟩, r⟩ := q
    rw [hs] at hg
    obtain ⟨rfl, hvk, _⟩ : ok = true ∧ (v, k) = (v', k') ∧ ys = r := hg
    obtain ⟨rfl, rfl⟩ : v = v' ∧ k = k' := by simpa using hvk
    obtain ⟨cc, hf, hv⟩ := asOfB hs
    obtain ⟨p, hp7, rfl, hp⟩ := bitsOf_is (((firstOf_le hf).2.2 HH.out.byt).1) hv
    clear hs hf hv hvk
    obtain rfl | ⟨m, hm, hz⟩ := hp
    · go_wp2_with fail
      go_quiet (fail)
      go_wp2_with fail
      go_ret
      exact ⟨rfl, (K1.out.drewN _).belowN⟩
    · rw [hm] at hvl ⊢
      by_cases hp0 : p = 0
      · subst hp0
        clear hz hm
        go_wp2_with fail
        have e0 : 8 * ((m : Int) + 1) - (8 * ((m : Int) + 1) - 0) = 0 := by omega
        try simp only [e0]
        go_quiet (fail)
        go_wp2_with fail
        go_ret
        exact ⟨rfl, (K1.out.drewN _).belowN⟩
      obtain ⟨ab, aoff, rfl, _, hcells⟩ := R1.out.2 (by omega)
      have hcl := hcells m (by omega)
      obtain ⟨y0, y1⟩ := Byt.getD R1.out.byt m
      clear hcells hm
      generalize v.getD m 0 = z at *
      have hex : p = 1 ∨ p = 2 ∨ p = 3 ∨ p = 4 ∨ p = 5 ∨ p = 6 ∨ p = 7 := by omega
      have hw1 : IntKind.i64.wrap ((m : Int) + 1 - 1) = (m : Int) := by rw [IntWalk.i64_in _ (by omega)]; omega
      have hib : (m : Int) < (m : Int) + 1 := by omega
      clear hp7 hp0
      rcases hex with rfl | rfl | rfl | rfl | rfl | rfl | rfl
      · have hz2 : z % 2 = 0 := hz
        have _hq2 : (z % 2 == 0) = true := beq_iff_eq.2 hz2
        have e0 : 8 * ((m : Int) + 1) - (8 * ((m : Int) + 1) - 1) = 1 := by omega
        clear hz hz2
        go_wp2_with fail
        try simp only [e0]
        clear e0
        go_quiet (fail)
        go_wp2_with fail
        go_ret
        exact ⟨rfl, (K1.out.drewN _).belowN⟩
      · have hz2 : z % 4 = 0 := hz
        have _hq2 : (z % 4 == 0) = true := beq_iff_eq.2 hz2
        have e0 : 8 * ((m : Int) + 1) - (8 * ((m : Int) + 1) - 2) = 2 := by omega
        clear hz hz2
        go_wp2_with fail
        try simp only [e0]
        clear e0
        go_quiet (fail)
        go_wp2_with fail
        go_ret
        exact ⟨rfl, (K1.out.drewN _).belowN⟩
      · have hz2 : z % 8 = 0 := hz
        have _hq2 : (z % 8 == 0) = true := beq_iff_eq.2 hz2
        have e0 : 8 * ((m : Int) + 1) - (8 * ((m : Int) + 1) - 3) = 3 := by omega
        clear hz hz2
        go_wp2_with fail
        try simp only [e0]
        clear e0
        go_quiet (fail)
        go_wp2_with fail
        go_ret
        exact ⟨rfl, (K1.out.drewN _).belowN⟩
      · have hz2 : z % 16 = 0 := hz
        have _hq2 : (z % 16 == 0) = true := beq_iff_eq.2 hz2
        have e0 : 8 * ((m : Int) + 1) - (8 * ((m : Int) + 1) - 4) = 4 := by omega
        clear hz hz2
        go_wp2_with fail
        try simp only [e0]
        clear e0
        go_quiet (fail)
        go_wp2_with fail
        go_ret
        exact ⟨rfl, (K1.out.drewN _).belowN⟩
      · have hz2 : z % 32 = 0 := hz
        have _hq2 : (z % 32 == 0) = true := beq_iff_eq.2 hz2
        have e0 : 8 * ((m : Int) + 1) - (8 * ((m : Int) + 1) - 5) = 5 := by omega
        clear hz hz2
        go_wp2_with fail
        try simp only [e0]
        clear e0
        go_quiet (fail)
        go_wp2_with fail
        go_ret
        exact ⟨rfl, (K1.out.drewN _).belowN⟩
      · have hz2 : z % 64 = 0 := hz
        have _hq2 : (z % 64 == 0) = true := beq_iff_eq.2 hz2
        have e0 : 8 * ((m : Int) + 1) - (8 * ((m : Int) + 1) - 6) = 6 := by omega
        clear hz hz2
        go_wp2_with fail
        try simp only [e0]
        clear e0
        go_quiet (fail)
        go_wp2_with fail
        go_ret
        exact ⟨rfl, (K1.out.drewN _).belowN⟩
      · have hz2 : z % 128 = 0 := hz
        have _hq2 : (z % 128 == 0) = true := beq_iff_eq.2 hz2
        have e0 : 8 * ((m : Int) + 1) - (8 * ((m : Int) + 1) - 7) = 7 := by omega
        clear hz hz2
        go_wp2_with fail
        try simp only [e0]
        clear e0
        go_quiet (fail)
        go_wp2_with fail
        go_ret
        exact ⟨rfl, (K1.out.drewN _).belowN⟩

end Go.Proofs.Ytdocgembogocjaa
