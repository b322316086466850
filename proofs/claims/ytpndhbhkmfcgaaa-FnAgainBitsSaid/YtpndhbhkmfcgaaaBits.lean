/- Strings of bits read by the package: contract. -/
import Derived.Test.YtpndhbhkmfcgaaaIm4
namespace Go.Proofs.Ytpndhbhkmfcgaaa
open Go.RowKit

theorem andp_all : ∀ p : Nat, p < 8 → ∀ k : Nat, k < 256 → bits .and .u8 (k : Int) (2 ^ p - 1) = (k : Int) % 2 ^ p := by decide +kernel
theorem u8_andp (p : Nat) (hp : p < 8) (x : Int) (h0 : 0 ≤ x) (h1 : x ≤ 255) : bits .and .u8 x (2 ^ p - 1) = x % 2 ^ p := by
  obtain ⟨k, rfl⟩ := Int.eq_ofNat_of_zero_le h0
  exact andp_all p hp k (by omega)
/-- A variable of a string of bits. -/
def Bt (w : World) (b : Nat) (s : Value) (k : Int) : Prop := w.heap[b]? = some (.cells #[s, .int .i64 k] 49 (0, 0))
theorem Bt.lt {w : World} {b : Nat} {s : Value} {k : Int} (h : Bt w b s k) : b < w.heap.size := lt_of_block h
theorem Bt.c0 {w : World} {b : Nat} {s : Value} {k : Int} (h : Bt w b s k) : w.cell? ⟨b, 0, none⟩ = some s := cell_of_row w b 0 _ _ _ h
theorem Bt.c1 {w : World} {b : Nat} {s : Value} {k : Int} (h : Bt w b s k) : w.cell? ⟨b, 1, none⟩ = some (.int .i64 k) := cell_of_row w b 1 _ _ _ h
theorem Bt.free {w : World} {b : Nat} {s : Value} {k : Int} (h : Bt w b s k) (i : Nat) : w.frozen? ⟨b, i, none⟩ = false := frozen_of_row w b i _ _ h
theorem Bt.only {w w' : World} {b : Nat} {s : Value} {k : Int} {l : List Nat} (h : Bt w b s k) (ho : Only l w w') (hb : b ∉ l) : Bt w' b s k := (ho.block b h.lt hb).trans h
theorem Bt.alloc {w : World} {b : Nat} {s : Value} {k : Int} (h : Bt w b s k) (o : Obj) : Bt (w.alloc o) b s k := (Below.heap_alloc w o b h.lt).trans h
theorem Bt.far {w : World} {b : Nat} {s : Value} {k : Int} (h : Bt w b s k) {p : Addr} (hp : b ≠ p.block) (u : Value) : Bt (w.setCell p u) b s k := (Below.heap_setCell w p u b hp).trans h
theorem Bt.set0 {w : World} {b : Nat} {s : Value} {k : Int} (h : Bt w b s k) (u : Value) : Bt (w.setCell ⟨b, 0, none⟩ u) b u k := heap_setCell_same w b 0 _ _ u h
theorem Bt.set1 {w : World} {b : Nat} {s : Value} {k : Int} (h : Bt w b s k) (u : Int) : Bt (w.setCell ⟨b, 1, none⟩ (.int .i64 u)) b s u := heap_setCell_same w b 1 _ _ _ h
theorem Bt.new' (w : World) (b : Nat) (s : Value) (k : Int) (h : b = w.heap.size) : Bt (w.alloc (.cells #[s, .int .i64 k] 49)) b s k := by subst h; exact heap_alloc_new w _
/-- What a reader of bits leaves in its two variables. -/
def GaveB (w : World) (B b bo : Nat) (R : Option ((List Int × Int) × List Int)) (e : Ending) (w' : World) : Prop :=
  ∃ ok v k ys A c, e = .returned (.bool ok) ∧ Only [b, bo] w w' ∧ Bt w' bo (.slice A v.length c) k ∧ v.length ≤ c ∧ c ≤ maxLen ∧ Rd w' B A v ∧ Sl w' B b 43 ys ∧ v.length ≤ 4194304 ∧ ys.length ≤ 4194304 ∧ Got R ok (v, k) ys

set_option maxHeartbeats 3200000 in
theorem SReadBits_of (b bo : Nat) (xs : List Int) (w : World) (B : Nat) (h : Sl w B b 43 xs) (ho : Bt w bo (.slice none 0 0) 0) (hbo : bo ≠ b) (hB : B ≤ bo) (hn : xs.length ≤ 4194304) :
    Calls Try.prog 24 #[.pointer (some ⟨b, 0, none⟩), .pointer (some ⟨bo, 0, none⟩)] w (GaveB w B b bo (asOf bitsOf xs 3)) := by
  have H := Lib.hid (fun W h' ho' => SReadASN1_of b w.heap.size 43 3 [] xs W B h' ho' (by have := h.lt; omega) hn (by simp))
  have HH := Lib.hid h
  have HO := Lib.hid ho
  have HL := Lib.hid (And.intro h.lt ho.lt)
  have HE := Lib.hid hbo
  have HB := Lib.hid hB
  clear h ho hbo hB hn
  go_enter Try.func24, Try.ntmps24
  go_wp2_with fail
  refine (H.out _ (HH.out.alloc _) (Sl.new w B _ _ rfl HH.out.low)).mono ?_
  rintro e w1 ⟨ok, zs, ys, rfl, hk, hzs, hys, hlz, hly, hg⟩
  have hk' : Only [b] w w1 := ((Only.refl _ _).alloc _).then hk (by
    intro i hi hlt
    simp at hi ⊢
    omega)
  have hvo := (HO.out.alloc _).only hk (by
    have := HE.out
    have := HL.out
    simp
    omega)
  have K := Lib.hid hk'
  have HVO := Lib.hid hvo
  have HYS := Lib.hid hys
  have HLY := Lib.hid hly
  have HLZ := Lib.hid hlz
  have hsz := hk.size
  simp at hsz
  have HS2 := Lib.hid hsz
  clear hk' hk hvo hys hly hlz hsz H
  cases hf : firstOf xs 3 with
  | none =>
    rw [hf] at hg
    have hg : ok = false := hg
    subst hg
    have HF := Lib.hid hf
    clear hf hzs
    go_wp2_with fail
    go_ret
    exact ⟨false, [], 0, ys, none, 0, rfl, K.out.more (by simp), HVO.out, Nat.zero_le _, Nat.zero_le _, Rd.nil _ _ _, HYS.out, by simp, HLY.out, by unfold asOf; rw [HF.out]; rfl⟩
  | some q =>
    obtain ⟨c, r⟩ := q
    rw [hf] at hg
    obtain ⟨rfl, rfl, rfl⟩ : ok = true ∧ zs = c ∧ ys = r := hg
    have HF := Lib.hid hf
    clear hf
    have hBad : ∀ W, Only [b, bo] w W → Bt W bo (.slice none 0 0) 0 → Sl W B b 43 ys → bitsOf zs = none → GaveB w B b bo (asOf bitsOf xs 3) (.returned (.bool false)) W := fun W h1 h2 h3 h4 => ⟨false, [], 0, ys, none, 0, rfl, h1, h2, Nat.zero_le _, Nat.zero_le _, Rd.nil _ _ _, h3, by simp, HLY.out, by unfold asOf; rw [HF.out]; simp only [h4]; rfl⟩
    have HBad := Lib.hid hBad
    clear hBad
    obtain ⟨hBn, A1, c1, hvz, hc1, hm1, hrz⟩ := hzs
    have hcz := hvz.cell
    have hfz := hvz.free
    have R := Lib.hid hrz
    have VZ := Lib.hid hvz
    clear hvz hrz
    have hlz := HLZ.out
    by_cases hl0 : zs.length = 0
    · have HV : Hid (bitsOf zs = none) := Lib.hid (by unfold bitsOf; rw [if_pos (.inl hl0)])
      rw [hl0] at hcz
      clear hl0 hlz
      go_wp2_with fail
      go_ret
      exact HBad.out _ (K.out.more (by simp)) HVO.out HYS.out HV.out
    · have hmul : ((zs.length : Int) * 8 / 8 != (zs.length : Int)) = false := by simp
      obtain ⟨ab, aoff, rfl, hab, hcells⟩ := R.out.2 (by omega)
      have hcell0 := hcells 0 (by omega)
      rw [Nat.add_zero] at hcell0
      obtain ⟨x0, x1⟩ := Byt.getD R.out.byt 0
      have hne : bo ≠ w.heap.size := by have := HL.out; omega
      have hneb : b ≠ w.heap.size := by have := HL.out; omega
      have hne3 : ab ≠ w.heap.size := by omega
      have KS : Hid (∀ sv, Only [b, bo] w (w1.setCell ⟨w.heap.size, 0, none⟩ sv)) := Lib.hid (fun sv => ((K.out.more (by simp)).then (((Only.refl [w.heap.size] w1).setCell (.inl (by simp)) _)) (by intro i hi hlt; simp at hi; omega)))
      have HVS : Hid (∀ sv, Bt (w1.setCell ⟨w.heap.size, 0, none⟩ sv) bo (.slice none 0 0) 0) := Lib.hid (fun sv => HVO.out.far hne _)
      have HYS2 : Hid (∀ sv, Sl (w1.setCell ⟨w.heap.size, 0, none⟩ sv) B b 43 ys) := Lib.hid (fun sv => HYS.out.far hneb HH.out.low _)
      have HBn := Lib.hid hBn
      have hvb := HVO.out
      have hf0 := hvb.free 0
      have hf1 := hvb.free 1
      have hb0 := hvb.c0
      have hb1 := hvb.c1
      have hpos : 0 < zs.length := by omega
      have HBo : Hid (B ≤ bo) := HB
      clear hvb
      by_cases h7 : 7 < zs.getD 0 0
      · have HV : Hid (bitsOf zs = none) := Lib.hid (by unfold bitsOf; rw [if_pos (.inr (.inl h7))])
        clear hcells hl0
        generalize zs.getD 0 0 = a0 at *
        go_wp2_with fail
        all_goals
          go_ret
          first | exact HBad.out _ (KS.out _) (HVS.out _) (HYS2.out _) HV.out | exact HBad.out _ (K.out.more (by simp)) HVO.out HYS.out HV.out
      · have h7' : zs.getD 0 0 ≤ 7 := by omega
        by_cases h1 : zs.length = 1
        · by_cases hz0 : zs.getD 0 0 = 0
          · have HV : Hid (bitsOf zs = some ([], 0)) := Lib.hid (by
              unfold bitsOf
              rw [if_neg (by omega), if_neg (by omega), hz0, h1, List.drop_eq_nil_of_le (by omega)]
              rfl)
            have H1 := Lib.hid h1
            rw [hz0] at hcell0
            rw [h1] at hcz hmul
            clear hcells hl0 hz0 h1 hpos hlz x0 x1 h7 h7'
            have HM := Lib.hid hm1
            have HC1 := Lib.hid hc1
            by_cases hc : c1 = 1
            all_goals
              go_wp2_with fail
              go_ret
              refine ⟨true, [], 0, ys, _, _, rfl, ((KS.out _).setCell (.inl (by simp)) _).setCell (.inl (by simp)) _, ((HVS.out _).set1 _).set0 _, Nat.zero_le _, (by first | exact Nat.zero_le _ | exact Nat.le_trans (Nat.sub_le _ _) HM.out), Rd.nil _ _ _, ((HYS2.out _).far (fun e => HE.out e.symm) HBo.out _).far (fun e => HE.out e.symm) HBo.out _, by simp, HLY.out, ?_⟩
              unfold asOf
              rw [HF.out]
              simp only [HV.out]
              exact ⟨rfl, rfl, rfl⟩
          · have HV : Hid (bitsOf zs = none) := Lib.hid (by unfold bitsOf; rw [if_pos (.inr (.inr ⟨h1, hz0⟩))])
            have hq : (zs.getD 0 0 != 0) = true := by simpa using hz0
            rw [h1] at hcz hmul
            clear hcells hl0 hz0 h1 hpos hlz
            generalize zs.getD 0 0 = a0 at *
            go_wp2_with fail
            all_goals
              go_ret
              exact HBad.out _ (KS.out _) (HVS.out _) (HYS2.out _) HV.out
        · obtain ⟨m, hm⟩ : ∃ m, zs.length = m + 2 := ⟨zs.length - 2, by omega⟩
          have hcl := hcells (m + 1) (by omega)
          rw [show aoff + (m + 1) = aoff + 1 + m by omega] at hcl
          obtain ⟨y0, y1⟩ := Byt.getD R.out.byt (m + 1)
          have hnc : ¬ c1 = 1 := by omega
          have hbits : bitsOf zs = if zs.getD (m + 1) 0 % 2 ^ (zs.getD 0 0).toNat ≠ 0 then none else some (zs.drop 1, 8 * ((m : Int) + 1) - zs.getD 0 0) := by
            unfold bitsOf
            rw [if_neg (by omega), hm, show m + 2 - 1 = m + 1 by omega, show ((m + 2 : Nat) : Int) - 1 = (m : Int) + 1 by omega]
            by_cases hz : zs.getD (m + 1) 0 % 2 ^ (zs.getD 0 0).toNat ≠ 0
            · rw [if_pos hz, if_pos ⟨by omega, hz⟩]
            · rw [if_neg hz, if_neg (fun h => hz h.2)]
          have hands := fun p hp => u8_andp p hp _ y0 y1
          have HR1 := Lib.hid (R.out.cutM 1)
          have hdl : (zs.drop 1).length = m + 1 := by rw [List.length_drop]; omega
          have HDL := Lib.hid hdl
          have HM := Lib.hid (And.intro hm1 (And.intro hc1 hm))
          rw [hm] at hcz hmul hlz
          have hml : m ≤ 4194302 := by omega
          have HBT := Lib.hid hbits
          clear hcells hl0 h1 hpos hlz hdl hbits hc1 hm1
          clear hm
          generalize zs.getD (m + 1) 0 = z at *
          generalize zs.getD 0 0 = a0 at *
          have hex : a0 = 0 ∨ a0 = 1 ∨ a0 = 2 ∨ a0 = 3 ∨ a0 = 4 ∨ a0 = 5 ∨ a0 = 6 ∨ a0 = 7 := by omega
          clear h7 h7' x0 x1
          rcases hex with rfl | rfl | rfl | rfl | rfl | rfl | rfl | rfl
          · have hk : bits .and .u8 z 0 = z % 1 := hands 0 (by decide)
            have HB2 := Lib.hid (show bitsOf zs = if z % 1 ≠ 0 then none else some (zs.drop 1, 8 * ((m : Int) + 1) - 0) from HBT.out)
            clear hands HBT
            by_cases hz : z % 1 = 0
            · have HV : Hid (bitsOf zs = some (zs.drop 1, 8 * ((m : Int) + 1) - 0)) := Lib.hid (by rw [HB2.out, if_neg (fun h => h hz)])
              rw [hz] at hk
              clear hz HB2
              go_wp2_with fail
              go_ret
              refine ⟨true, zs.drop 1, 8 * ((m : Int) + 1) - 0, ys, some ⟨ab, aoff + 1, none⟩, c1 - 1, rfl, ((KS.out _).setCell (.inl (by simp)) _).setCell (.inl (by simp)) _, ?_, ?_, Nat.le_trans (Nat.sub_le _ _) HM.out.1, ((HR1.out.setCell HBn.out _).setCell HBo.out _).setCell HBo.out _, ((HYS2.out _).far (fun e => HE.out e.symm) HBo.out _).far (fun e => HE.out e.symm) HBo.out _, by rw [HDL.out]; omega, HLY.out, ?_⟩
              rotate_left
              · rw [HDL.out]; have := HM.out; omega
              · unfold asOf
                rw [HF.out]
                simp only [HV.out]
                exact ⟨rfl, rfl, rfl⟩
              · rw [HDL.out]
                have h := ((HVS.out (.slice (some ⟨ab, aoff + 1, none⟩) (m + 1) (c1 - 1))).set1 (8 * ((m : Int) + 1) - 0)).set0 (.slice (some ⟨ab, aoff + 1, none⟩) (m + 1) (c1 - 1))
                rw [show (8 : Int) * ((m : Int) + 1) - 0 = ((m : Int) + 1) * 8 - 0 by omega] at h ⊢
                exact h
            · exact absurd (by omega) hz
          · have hk : bits .and .u8 z 1 = z % 2 := hands 1 (by decide)
            have HB2 := Lib.hid (show bitsOf zs = if z % 2 ≠ 0 then none else some (zs.drop 1, 8 * ((m : Int) + 1) - 1) from HBT.out)
            clear hands HBT
            by_cases hz : z % 2 = 0
            · have HV : Hid (bitsOf zs = some (zs.drop 1, 8 * ((m : Int) + 1) - 1)) := Lib.hid (by rw [HB2.out, if_neg (fun h => h hz)])
              rw [hz] at hk
              have _hq2 : (z % 2 != 0) = false := by simpa using hz
              clear hz HB2
              go_wp2_with fail
              go_ret
              refine ⟨true, zs.drop 1, 8 * ((m : Int) + 1) - 1, ys, some ⟨ab, aoff + 1, none⟩, c1 - 1, rfl, ((KS.out _).setCell (.inl (by simp)) _).setCell (.inl (by simp)) _, ?_, ?_, Nat.le_trans (Nat.sub_le _ _) HM.out.1, ((HR1.out.setCell HBn.out _).setCell HBo.out _).setCell HBo.out _, ((HYS2.out _).far (fun e => HE.out e.symm) HBo.out _).far (fun e => HE.out e.symm) HBo.out _, by rw [HDL.out]; omega, HLY.out, ?_⟩
              rotate_left
              · rw [HDL.out]; have := HM.out; omega
              · unfold asOf
                rw [HF.out]
                simp only [HV.out]
                exact ⟨rfl, rfl, rfl⟩
              · rw [HDL.out]
                have h := ((HVS.out (.slice (some ⟨ab, aoff + 1, none⟩) (m + 1) (c1 - 1))).set1 (8 * ((m : Int) + 1) - 1)).set0 (.slice (some ⟨ab, aoff + 1, none⟩) (m + 1) (c1 - 1))
                rw [show (8 : Int) * ((m : Int) + 1) - 1 = ((m : Int) + 1) * 8 - 1 by omega] at h ⊢
                exact h
            · have HV : Hid (bitsOf zs = none) := Lib.hid (by rw [HB2.out, if_pos hz])
              have hq : (bits .and .u8 z 1 != 0) = true := by rw [hk]; simpa using hz
              have _hq2 : (z % 2 != 0) = true := by simpa using hz
              clear hz HB2 hk
              go_wp2_with fail
              go_ret
              exact HBad.out _ (KS.out _) (HVS.out _) (HYS2.out _) HV.out
          · have hk : bits .and .u8 z 3 = z % 4 := hands 2 (by decide)
            have HB2 := Lib.hid (show bitsOf zs = if z % 4 ≠ 0 then none else some (zs.drop 1, 8 * ((m : Int) + 1) - 2) from HBT.out)
            clear hands HBT
            by_cases hz : z % 4 = 0
            · have HV : Hid (bitsOf zs = some (zs.drop 1, 8 * ((m : Int) + 1) - 2)) := Lib.hid (by rw [HB2.out, if_neg (fun h => h hz)])
              rw [hz] at hk
              have _hq2 : (z % 4 != 0) = false := by simpa using hz
              clear hz HB2
              go_wp2_with fail
              go_ret
              refine ⟨true, zs.drop 1, 8 * ((m : Int) + 1) - 2, ys, some ⟨ab, aoff + 1, none⟩, c1 - 1, rfl, ((KS.out _).setCell (.inl (by simp)) _).setCell (.inl (by simp)) _, ?_, ?_, Nat.le_trans (Nat.sub_le _ _) HM.out.1, ((HR1.out.setCell HBn.out _).setCell HBo.out _).setCell HBo.out _, ((HYS2.out _).far (fun e => HE.out e.symm) HBo.out _).far (fun e => HE.out e.symm) HBo.out _, by rw [HDL.out]; omega, HLY.out, ?_⟩
              rotate_left
              · rw [HDL.out]; have := HM.out; omega
              · unfold asOf
                rw [HF.out]
                simp only [HV.out]
                exact ⟨rfl, rfl, rfl⟩
              · rw [HDL.out]
                have h := ((HVS.out (.slice (some ⟨ab, aoff + 1, none⟩) (m + 1) (c1 - 1))).set1 (8 * ((m : Int) + 1) - 2)).set0 (.slice (some ⟨ab, aoff + 1, none⟩) (m + 1) (c1 - 1))
                rw [show (8 : Int) * ((m : Int) + 1) - 2 = ((m : Int) + 1) * 8 - 2 by omega] at h ⊢
                exact h
            · have HV : Hid (bitsOf zs = none) := Lib.hid (by rw [HB2.out, if_pos hz])
              have hq : (bits .and .u8 z 3 != 0) = true := by rw [hk]; simpa using hz
              have _hq2 : (z % 4 != 0) = true := by simpa using hz
              clear hz HB2 hk
              go_wp2_with fail
              go_ret
              exact HBad.out _ (KS.out _) (HVS.out _) (HYS2.out _) HV.out
          · have hk : bits .and .u8 z 7 = z % 8 := hands 3 (by decide)
            have HB2 := Lib.hid (show bitsOf zs = if z % 8 ≠ 0 then none else some (zs.drop 1, 8 * ((m : Int) + 1) - 3) from HBT.out)
            clear hands HBT
            by_cases hz : z % 8 = 0
            · have HV : Hid (bitsOf zs = some (zs.drop 1, 8 * ((m : Int) + 1) - 3)) := Lib.hid (by rw [HB2.out, if_neg (fun h => h hz)])
              rw [hz] at hk
              have _hq2 : (z % 8 != 0) = false := by simpa using hz
              clear hz HB2
              go_wp2_with fail
              go_ret
              refine ⟨true, zs.drop 1, 8 * ((m : Int) + 1) - 3, ys, some ⟨ab, aoff + 1, none⟩, c1 - 1, rfl, ((KS.out _).setCell (.inl (by simp)) _).setCell (.inl (by simp)) _, ?_, ?_, Nat.le_trans (Nat.sub_le _ _) HM.out.1, ((HR1.out.setCell HBn.out _).setCell HBo.out _).setCell HBo.out _, ((HYS2.out _).far (fun e => HE.out e.symm) HBo.out _).far (fun e => HE.out e.symm) HBo.out _, by rw [HDL.out]; omega, HLY.out, ?_⟩
              rotate_left
              · rw [HDL.out]; have := HM.out; omega
              · unfold asOf
                rw [HF.out]
                simp only [HV.out]
                exact ⟨rfl, rfl, rfl⟩
              · rw [HDL.out]
                have h := ((HVS.out (.slice (some ⟨ab, aoff + 1, none⟩) (m + 1) (c1 - 1))).set1 (8 * ((m : Int) + 1) - 3)).set0 (.slice (some ⟨ab, aoff + 1, none⟩) (m + 1) (c1 - 1))
                rw [show (8 : Int) * ((m : Int) + 1) - 3 = ((m : Int) + 1) * 8 - 3 by omega] at h ⊢
                exact h
            · have HV : Hid (bitsOf zs = none) := Lib.hid (by rw [HB2.out, if_pos hz])
              have hq : (bits .and .u8 z 7 != 0) = true := by rw [hk]; simpa using hz
              have _hq2 : (z % 8 != 0) = true := by simpa using hz
              clear hz HB2 hk
              go_wp2_with fail
              go_ret
              exact HBad.out _ (KS.out _) (HVS.out _) (HYS2.out _) HV.out
          · have hk : bits .and .u8 z 15 = z % 16 := hands 4 (by decide)
            have HB2 := Lib.hid (show bitsOf zs = if z % 16 ≠ 0 then none else some (zs.drop 1, 8 * ((m : Int) + 1) - 4) from HBT.out)
            clear hands HBT
            by_cases hz : z % 16 = 0
            · have HV : Hid (bitsOf zs = some (zs.drop 1, 8 * ((m : Int) + 1) - 4)) := Lib.hid (by rw [HB2.out, if_neg (fun h => h hz)])
              rw [hz] at hk
              have _hq2 : (z % 16 != 0) = false := by simpa using hz
              clear hz HB2
              go_wp2_with fail
              go_ret
              refine ⟨true, zs.drop 1, 8 * ((m : Int) + 1) - 4, ys, some ⟨ab, aoff + 1, none⟩, c1 - 1, rfl, ((KS.out _).setCell (.inl (by simp)) _).setCell (.inl (by simp)) _, ?_, ?_, Nat.le_trans (Nat.sub_le _ _) HM.out.1, ((HR1.out.setCell HBn.out _).setCell HBo.out _).setCell HBo.out _, ((HYS2.out _).far (fun e => HE.out e.symm) HBo.out _).far (fun e => HE.out e.symm) HBo.out _, by rw [HDL.out]; omega, HLY.out, ?_⟩
              rotate_left
              · rw [HDL.out]; have := HM.out; omega
              · unfold asOf
                rw [HF.out]
                simp only [HV.out]
                exact ⟨rfl, rfl, rfl⟩
              · rw [HDL.out]
                have h := ((HVS.out (.slice (some ⟨ab, aoff + 1, none⟩) (m + 1) (c1 - 1))).set1 (8 * ((m : Int) + 1) - 4)).set0 (.slice (some ⟨ab, aoff + 1, none⟩) (m + 1) (c1 - 1))
                rw [show (8 : Int) * ((m : Int) + 1) - 4 = ((m : Int) + 1) * 8 - 4 by omega] at h ⊢
                exact h
            · have HV : Hid (bitsOf zs = none) := Lib.hid (by rw [HB2.out, if_pos hz])
              have hq : (bits .and .u8 z 15 != 0) = true := by rw [hk]; simpa using hz
              have _hq2 : (z % 16 != 0) = true := by simpa using hz
              clear hz HB2 hk
              go_wp2_with fail
              go_ret
              exact HBad.out _ (KS.out _) (HVS.out _) (HYS2.out _) HV.out
          · have hk : bits .and .u8 z 31 = z % 32 := hands 5 (by decide)
            have HB2 := Lib.hid (show bitsOf zs = if z % 32 ≠ 0 then none else some (zs.drop 1, 8 * ((m : Int) + 1) - 5) from HBT.out)
            clear hands HBT
            by_cases hz : z % 32 = 0
            · have HV : Hid (bitsOf zs = some (zs.drop 1, 8 * ((m : Int) + 1) - 5)) := Lib.hid (by rw [HB2.out, if_neg (fun h => h hz)])
              rw [hz] at hk
              have _hq2 : (z % 32 != 0) = false := by simpa using hz
              clear hz HB2
              go_wp2_with fail
              go_ret
              refine ⟨true, zs.drop 1, 8 * ((m : Int) + 1) - 5, ys, some ⟨ab, aoff + 1, none⟩, c1 - 1, rfl, ((KS.out _).setCell (.inl (by simp)) _).setCell (.inl (by simp)) _, ?_, ?_, Nat.le_trans (Nat.sub_le _ _) HM.out.1, ((HR1.out.setCell HBn.out _).setCell HBo.out _).setCell HBo.out _, ((HYS2.out _).far (fun e => HE.out e.symm) HBo.out _).far (fun e => HE.out e.symm) HBo.out _, by rw [HDL.out]; omega, HLY.out, ?_⟩
              rotate_left
              · rw [HDL.out]; have := HM.out; omega
              · unfold asOf
                rw [HF.out]
                simp only [HV.out]
                exact ⟨rfl, rfl, rfl⟩
              · rw [HDL.out]
                have h := ((HVS.out (.slice (some ⟨ab, aoff + 1, none⟩) (m + 1) (c1 - 1))).set1 (8 * ((m : Int) + 1) - 5)).set0 (.slice (some ⟨ab, aoff + 1, none⟩) (m + 1) (c1 - 1))
                rw [show (8 : Int) * ((m : Int) + 1) - 5 = ((m : Int) + 1) * 8 - 5 by omega] at h ⊢
                exact h
            · have HV : Hid (bitsOf zs = none) := Lib.hid (by rw [HB2.out, if_pos hz])
              have hq : (bits .and .u8 z 31 != 0) = true := by rw [hk]; simpa using hz
              have _hq2 : (z % 32 != 0) = true := by simpa using hz
              clear hz HB2 hk
              go_wp2_with fail
              go_ret
              exact HBad.out _ (KS.out _) (HVS.out _) (HYS2.out _) HV.out
          · have hk : bits .and .u8 z 63 = z % 64 := hands 6 (by decide)
            have HB2 := Lib.hid (show bitsOf zs = if z % 64 ≠ 0 then none else some (zs.drop 1, 8 * ((m : Int) + 1) - 6) from HBT.out)
            clear hands HBT
            by_cases hz : z % 64 = 0
            · have HV : Hid (bitsOf zs = some (zs.drop 1, 8 * ((m : Int) + 1) - 6)) := Lib.hid (by rw [HB2.out, if_neg (fun h => h hz)])
              rw [hz] at hk
              have _hq2 : (z % 64 != 0) = false := by simpa using hz
              clear hz HB2
              go_wp2_with fail
              go_ret
              refine ⟨true, zs.drop 1, 8 * ((m : Int) + 1) - 6, ys, some ⟨ab, aoff + 1, none⟩, c1 - 1, rfl, ((KS.out _).setCell (.inl (by simp)) _).setCell (.inl (by simp)) _, ?_, ?_, Nat.le_trans (Nat.sub_le _ _) HM.out.1, ((HR1.out.setCell HBn.out _).setCell HBo.out _).setCell HBo.out _, ((HYS2.out _).far (fun e => HE.out e.symm) HBo.out _).far (fun e => HE.out e.symm) HBo.out _, by rw [HDL.out]; omega, HLY.out, ?_⟩
              rotate_left
              · rw [HDL.out]; have := HM.out; omega
              · unfold asOf
                rw [HF.out]
                simp only [HV.out]
                exact ⟨rfl, rfl, rfl⟩
              · rw [HDL.out]
                have h := ((HVS.out (.slice (some ⟨ab, aoff + 1, none⟩) (m + 1) (c1 - 1))).set1 (8 * ((m : Int) + 1) - 6)).set0 (.slice (some ⟨ab, aoff + 1, none⟩) (m + 1) (c1 - 1))
                rw [show (8 : Int) * ((m : Int) + 1) - 6 = ((m : Int) + 1) * 8 - 6 by omega] at h ⊢
                exact h
            · have HV : Hid (bitsOf zs = none) := Lib.hid (by rw [HB2.out, if_pos hz])
              have hq : (bits .and .u8 z 63 != 0) = true := by rw [hk]; simpa using hz
              have _hq2 : (z % 64 != 0) = true := by simpa using hz
              clear hz HB2 hk
              go_wp2_with fail
              go_ret
              exact HBad.out _ (KS.out _) (HVS.out _) (HYS2.out _) HV.out
          · have hk : bits .and .u8 z 127 = z % 128 := hands 7 (by decide)
            have HB2 := Lib.hid (show bitsOf zs = if z % 128 ≠ 0 then none else some (zs.drop 1, 8 * ((m : Int) + 1) - 7) from HBT.out)
            clear hands HBT
            by_cases hz : z % 128 = 0
            · have HV : Hid (bitsOf zs = some (zs.drop 1, 8 * ((m : Int) + 1) - 7)) := Lib.hid (by rw [HB2.out, if_neg (fun h => h hz)])
              rw [hz] at hk
              have _hq2 : (z % 128 != 0) = false := by simpa using hz
              clear hz HB2
              go_wp2_with fail
              go_ret
              refine ⟨true, zs.drop 1, 8 * ((m : Int) + 1) - 7, ys, some ⟨ab, aoff + 1, none⟩, c1 - 1, rfl, ((KS.out _).setCell (.inl (by simp)) _).setCell (.inl (by simp)) _, ?_, ?_, Nat.le_trans (Nat.sub_le _ _) HM.out.1, ((HR1.out.setCell HBn.out _).setCell HBo.out _).setCell HBo.out _, ((HYS2.out _).far (fun e => HE.out e.symm) HBo.out _).far (fun e => HE.out e.symm) HBo.out _, by rw [HDL.out]; omega, HLY.out, ?_⟩
              rotate_left
              · rw [HDL.out]; have := HM.out; omega
              · unfold asOf
                rw [HF.out]
                simp only [HV.out]
                exact ⟨rfl, rfl, rfl⟩
              · rw [HDL.out]
                have h := ((HVS.out (.slice (some ⟨ab, aoff + 1, none⟩) (m + 1) (c1 - 1))).set1 (8 * ((m : Int) + 1) - 7)).set0 (.slice (some ⟨ab, aoff + 1, none⟩) (m + 1) (c1 - 1))
                rw [show (8 : Int) * ((m : Int) + 1) - 7 = ((m : Int) + 1) * 8 - 7 by omega] at h ⊢
                exact h
            · have HV : Hid (bitsOf zs = none) := Lib.hid (by rw [HB2.out, if_pos hz])
              have hq : (bits .and .u8 z 127 != 0) = true := by rw [hk]; simpa using hz
              have _hq2 : (z % 128 != 0) = true := by simpa using hz
              clear hz HB2 hk
              go_wp2_with fail
              go_ret
              exact HBad.out _ (KS.out _) (HVS.out _) (HYS2.out _) HV.out

end Go.Proofs.Ytpndhbhkmfcgaaa
