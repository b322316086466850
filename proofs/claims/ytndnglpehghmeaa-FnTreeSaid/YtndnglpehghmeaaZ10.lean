/- The reference's check of steps: contract. -/
import Derived.Test.YtndnglpehghmeaaZ9
import Derived.Test.YtndnglpehghmeaaZ6
/-! ### The reference's check of steps: contract. -/
namespace Go.Proofs.Ytndnglpehghmeaa
open Go.RowKit

/-- How deep steps lie within each other: not as deep as m. -/
def Dp : Its → Int → Prop
  | .nil, _ => True
  | .cons _ _ _ _ _ kids rest, m => m ≠ 0 ∧ Dp kids (m - 1) ∧ Dp rest m
def ChkOK (its : Its) : Prop := ∀ (ins : Bool) (m : Int) (A : Option Addr) (n c : Nat) (w : World) (B : Nat), 0 ≤ m → m ≤ 1000 → ItsRd w B A its → n = its.len → n ≤ 140737488355328 → B ≤ w.heap.size → Sz its →
  Calls Try.prog 17 #[.slice A n c, .bool ins, .int .i64 m] w (Tells w fun r => r = true → Ok its ins ∧ Arc its ∧ Dp its m)
set_option maxHeartbeats 40000000 in
set_option maxRecDepth 100000 in
theorem chk_ok (its : Its) (hall : Kids ChkOK its) : ChkOK its := by
  intro ins m A n c w B hm0 hm1 hi hn hn1 hB hs
  obtain ⟨P, hP⟩ : ∃ P, (Ok its ins ∧ Arc its ∧ Dp its m) = P := ⟨_, rfl⟩
  have H1 : Hid (LeftAt w B A 0 its ∧ 0 + its.len = n ∧ Kids ChkOK its ∧ Sz its ∧ (Ok its ins ∧ Arc its ∧ Dp its m → P) ∧ Only [] w w) := Lib.hid ⟨hi, by omega, hall, hs, fun h => by rw [← hP]; exact h, Only.refl _ _⟩
  have HB := Lib.hid hB
  have HL := Lib.hid hn1
  have HM := Lib.hid (And.intro hm0 hm1)
  rw [hP]
  clear hi hn hB hs hall hn1 hP hm0 hm1
  go_enter Try.func17, Try.ntmps17
  go_wp2_with fail
  go_loopw [7] (fun y W => ∃ (j : Nat) (its' : Its), y = .int .i64 (j : Int) ∧ LeftAt w B A j its' ∧ j + its'.len = n ∧ Kids ChkOK its' ∧ Sz its' ∧ (Ok its' ins ∧ Arc its' ∧ Dp its' m → P) ∧ Only [] w W) (fun y _ => n - (intOf y).toNat)
  case atStart => exact ⟨0, its, by simp, H1.out⟩
  case round =>
    obtain ⟨j, its', rfl, hl, hj, hall, hs, hv, ho⟩ := hrel
    clear H1
    have HK := Lib.hid ho
    cases its' with
    | nil =>
      have hjn : j = n := hj
      subst hjn
      have HQ := Lib.hid (hv ⟨trivial, trivial, trivial⟩)
      clear hl hj hall hs hv ho
      go_wp2_with fail
      go_ret
      exact ⟨true, rfl, (by intro _; exact HQ.out), HK.out⟩
    | cons k i t d o kids rest =>
      have hlt : (j : Int) < (n : Int) := by simp only [Its.len] at hj; omega
      obtain ⟨blk, off, Ad, cd, Ao, co, Ak, ck, rfl, hbl, hcell, hrn, _, _, hro, _, hck, hkd, hnx⟩ := hl.cells (only_keep ho HB.out)
      have hc0 := hcell 0 _ rfl
      have hc1 := hcell 1 _ rfl
      have hc2 := hcell 2 _ rfl
      have hc3 := hcell 3 _ rfl
      have hc4 := hcell 4 _ rfl
      have hc5 := hcell 5 _ rfl
      rw [Nat.add_zero] at hc0
      have HBW : Hid (B ≤ wr.heap.size) := Lib.hid (Nat.le_trans HB.out ho.size)
      have HA : Hid (Only [] w (wr.alloc (.cells #[.int .i64 k, .int .i64 i, .int .i64 t, .slice Ad d.length cd, .slice Ao o.length co, .slice Ak kids.len ck] 42))) := Lib.hid (ho.alloc _)
      have HS := Lib.hid (fun (W : World) (hk : Only [] (wr.alloc (.cells #[.int .i64 k, .int .i64 i, .int .i64 t, .slice Ad d.length cd, .slice Ao o.length co, .slice Ak kids.len ck] 42)) W) => small_any Ao o.length co o W B (hro.only (l := []) (((Only.refl _ _).alloc _).trans hk) (by simp) HBW.out) rfl (Nat.le_trans HB.out (HA.out.trans hk).size) hs.2.1)
      have HC := Lib.hid (fun (b : Bool) (hm : m ≠ 0) (W : World) (hk : Only [] (wr.alloc (.cells #[.int .i64 k, .int .i64 i, .int .i64 t, .slice Ad d.length cd, .slice Ao o.length co, .slice Ak kids.len ck] 42)) W) => hall.1 b (m - 1) Ak kids.len ck W B (by have := HM.out; omega) (by have := HM.out; omega) (hkd.only (l := []) (((Only.refl _ _).alloc _).trans hk) (by simp) HBW.out) rfl hs.2.2.1 (Nat.le_trans HB.out (HA.out.trans hk).size) hs.2.2.2.1)
      have HN : Hid (0 ≤ k ∧ k ≤ 25 → 0 ≤ t ∧ t ≤ 255 → (k = 23 → ins = true) → Sma o → (Ok kids (ins || decide (7 ≤ k ∧ k ≤ 11)) ∧ Arc kids ∧ Dp kids (m - 1)) → m ≠ 0 → ∀ W, Only [] (wr.alloc (.cells #[.int .i64 k, .int .i64 i, .int .i64 t, .slice Ad d.length cd, .slice Ao o.length co, .slice Ak kids.len ck] 42)) W → LeftAt w B (some ⟨blk, off, none⟩) (j + 1) rest ∧ j + 1 + rest.len = n ∧ Kids ChkOK rest ∧ Sz rest ∧ (Ok rest ins ∧ Arc rest ∧ Dp rest m → P) ∧ Only [] w W) :=
        Lib.hid (fun h1 h2 h3 h4 h5 hm0 W h6 => ⟨hnx, by simp only [Its.len] at hj; omega, hall.2, hs.2.2.2.2, fun h => hv ⟨⟨h1.1, h1.2, h2.1, h2.2, h3, h4.1, h5.1, h.1⟩, ⟨h4.2, h5.2.1, h.2.1⟩, hm0, h5.2.2, h.2.2⟩, HA.out.trans h6⟩)
      have HCW : Hid (∀ (W : World), Only [] (wr.alloc (.cells #[.int .i64 k, .int .i64 i, .int .i64 t, .slice Ad d.length cd, .slice Ao o.length co, .slice Ak kids.len ck] 42)) W → W.cell? ⟨wr.heap.size, 0, none⟩ = some (.int .i64 k) ∧ W.cell? ⟨wr.heap.size, 5, none⟩ = some (.slice Ak kids.len ck)) := Lib.hid (fun W hk => by
        have hnew := heap_alloc_new wr (.cells #[.int .i64 k, .int .i64 i, .int .i64 t, .slice Ad d.length cd, .slice Ao o.length co, .slice Ak kids.len ck] 42)
        have hb := (hk.block wr.heap.size (lt_of_block hnew) (by simp)).trans hnew
        exact ⟨cell_of_row W _ 0 _ _ _ hb, cell_of_row W _ 5 _ _ _ hb⟩)
      have hj64 : wrap64 ((j : Int) + 1) = (j : Int) + 1 := wrap64_id _ (by omega) (by have := HL.out; omega)
      have hm64 : wrap64 (m - 1) = m - 1 := by have := HM.out; unfold wrap64; omega
      have HJ := Lib.hid hlt
      clear hl hall hs hv ho hcell hrn hck hkd hnx hj hro HK
      by_cases c6 : k < 0
      · go_wp2_with fail
        go_ret
        exact ⟨false, rfl, (by intro h; cases h), HA.out⟩
      by_cases c6 : 25 < k
      · go_wp2_with fail
        go_ret
        exact ⟨false, rfl, (by intro h; cases h), HA.out⟩
      by_cases c6 : t < 0
      · go_wp2_with fail
        go_ret
        exact ⟨false, rfl, (by intro h; cases h), HA.out⟩
      by_cases c6 : 255 < t
      · go_wp2_with fail
        go_ret
        exact ⟨false, rfl, (by intro h; cases h), HA.out⟩
      have hkk : 0 ≤ k ∧ k ≤ 25 := by omega
      have htt : 0 ≤ t ∧ t ≤ 255 := by omega
      by_cases k4 : k = 4
      · subst k4
        by_cases i0 : i < 0
        · go_wp2_with fail
          go_ret
          exact ⟨false, rfl, (by intro h; cases h), HA.out⟩
        by_cases i1 : 281474976710656 ≤ i
        · go_wp2_with fail
          go_ret
          exact ⟨false, rfl, (by intro h; cases h), HA.out⟩
        cases ins with
        | true =>
         go_wp2_with fail
         refine (HS.out _ (by first | exact (Only.refl _ _).drew | exact Only.refl _ _)).mono ?_
         rintro e w1 ⟨r, rfl, hr, hk1⟩
         obtain ⟨hx0, hx5⟩ := HCW.out w1 (by first | exact hk1 | exact (Only.refl _ _).drew.trans hk1)
         have HR := Lib.hid hr
         have HK1 := Lib.hid hk1
         clear hr hk1 HS
         cases r with
         | false =>
          go_wp2_with fail
          go_ret
          exact ⟨false, rfl, (by intro h; cases h), HA.out.trans HK1.out⟩
         | true =>
          by_cases hm : m = 0
          · go_wp2_with fail
            go_ret
            exact ⟨false, rfl, (by intro h; cases h), HA.out.trans HK1.out⟩
          · go_wp2_with fail
            refine (HC.out true hm _ (by first | exact HK1.out | exact HK1.out.trans (Only.refl _ _).drew)).mono ?_
            rintro e w2 ⟨r2, rfl, hr2, hk2⟩
            have HR2 := Lib.hid hr2
            have HK2 := Lib.hid hk2
            clear hr2 hk2 HC
            cases r2 with
            | false =>
             go_wp2_with fail
             go_ret
             exact ⟨false, rfl, (by intro h; cases h), (HA.out.trans HK1.out).trans HK2.out⟩
            | true =>
             have HT := Lib.hid (HN.out hkk htt (by intro h; cases h) (HR.out (by simp)) (by have := HR2.out (by simp); rw [show true = (true || decide (7 ≤ (4 : Int) ∧ (4 : Int) ≤ 11)) from rfl] at this; exact this) hm w2 (HK1.out.trans HK2.out))
             clear HN HCW HR HR2 HK1 HK2 HA HBW
             clear hx0 hx5 hc0 hc1 hc2 hc3 hc4 hc5 hm hm64 hkk htt hbl
             go_wp2_with fail
             go_roundw
             case rel => exact ⟨j + 1, rest, by rw [hj64]; rfl, HT.out⟩
             case measure =>
              rw [hj64]
              exact meas _ j HJ.out
        | false =>
         go_wp2_with fail
         refine (HS.out _ (by first | exact (Only.refl _ _).drew | exact Only.refl _ _)).mono ?_
         rintro e w1 ⟨r, rfl, hr, hk1⟩
         obtain ⟨hx0, hx5⟩ := HCW.out w1 (by first | exact hk1 | exact (Only.refl _ _).drew.trans hk1)
         have HR := Lib.hid hr
         have HK1 := Lib.hid hk1
         clear hr hk1 HS
         cases r with
         | false =>
          go_wp2_with fail
          go_ret
          exact ⟨false, rfl, (by intro h; cases h), HA.out.trans HK1.out⟩
         | true =>
          by_cases hm : m = 0
          · go_wp2_with fail
            go_ret
            exact ⟨false, rfl, (by intro h; cases h), HA.out.trans HK1.out⟩
          · go_wp2_with fail
            refine (HC.out false hm _ (by first | exact HK1.out | exact HK1.out.trans (Only.refl _ _).drew)).mono ?_
            rintro e w2 ⟨r2, rfl, hr2, hk2⟩
            have HR2 := Lib.hid hr2
            have HK2 := Lib.hid hk2
            clear hr2 hk2 HC
            cases r2 with
            | false =>
             go_wp2_with fail
             go_ret
             exact ⟨false, rfl, (by intro h; cases h), (HA.out.trans HK1.out).trans HK2.out⟩
            | true =>
             have HT := Lib.hid (HN.out hkk htt (by intro h; cases h) (HR.out (by simp)) (by have := HR2.out (by simp); rw [show false = (false || decide (7 ≤ (4 : Int) ∧ (4 : Int) ≤ 11)) from rfl] at this; exact this) hm w2 (HK1.out.trans HK2.out))
             clear HN HCW HR HR2 HK1 HK2 HA HBW
             clear hx0 hx5 hc0 hc1 hc2 hc3 hc4 hc5 hm hm64 hkk htt hbl
             go_wp2_with fail
             go_roundw
             case rel => exact ⟨j + 1, rest, by rw [hj64]; rfl, HT.out⟩
             case measure =>
              rw [hj64]
              exact meas _ j HJ.out
      by_cases k23 : k = 23
      · subst k23
        cases ins with
        | false =>
         go_wp2_with fail
         go_ret
         exact ⟨false, rfl, (by intro h; cases h), HA.out⟩
        | true =>
         go_wp2_with fail
         refine (HS.out _ (by first | exact (Only.refl _ _).drew | exact Only.refl _ _)).mono ?_
         rintro e w1 ⟨r, rfl, hr, hk1⟩
         obtain ⟨hx0, hx5⟩ := HCW.out w1 (by first | exact hk1 | exact (Only.refl _ _).drew.trans hk1)
         have HR := Lib.hid hr
         have HK1 := Lib.hid hk1
         clear hr hk1 HS
         cases r with
         | false =>
          go_wp2_with fail
          go_ret
          exact ⟨false, rfl, (by intro h; cases h), HA.out.trans HK1.out⟩
         | true =>
          by_cases hm : m = 0
          · go_wp2_with fail
            go_ret
            exact ⟨false, rfl, (by intro h; cases h), HA.out.trans HK1.out⟩
          · go_wp2_with fail
            refine (HC.out true hm _ (by first | exact HK1.out | exact HK1.out.trans (Only.refl _ _).drew)).mono ?_
            rintro e w2 ⟨r2, rfl, hr2, hk2⟩
            have HR2 := Lib.hid hr2
            have HK2 := Lib.hid hk2
            clear hr2 hk2 HC
            cases r2 with
            | false =>
             go_wp2_with fail
             go_ret
             exact ⟨false, rfl, (by intro h; cases h), (HA.out.trans HK1.out).trans HK2.out⟩
            | true =>
             have HT := Lib.hid (HN.out hkk htt (fun _ => by simp) (HR.out (by simp)) (by have := HR2.out (by simp); rw [show true = (true || decide (7 ≤ (23 : Int) ∧ (23 : Int) ≤ 11)) from rfl] at this; exact this) hm w2 (HK1.out.trans HK2.out))
             clear HN HCW HR HR2 HK1 HK2 HA HBW
             clear hx0 hx5 hc0 hc1 hc2 hc3 hc4 hc5 hm hm64 hkk htt hbl
             go_wp2_with fail
             go_roundw
             case rel => exact ⟨j + 1, rest, by rw [hj64]; rfl, HT.out⟩
             case measure =>
              rw [hj64]
              exact meas _ j HJ.out
      cases ins with
      | true =>
       go_wp2_with fail
       refine (HS.out _ (by first | exact (Only.refl _ _).drew | exact Only.refl _ _)).mono ?_
       rintro e w1 ⟨r, rfl, hr, hk1⟩
       obtain ⟨hx0, hx5⟩ := HCW.out w1 (by first | exact hk1 | exact (Only.refl _ _).drew.trans hk1)
       have HR := Lib.hid hr
       have HK1 := Lib.hid hk1
       clear hr hk1 HS
       cases r with
       | false =>
        go_wp2_with fail
        go_ret
        exact ⟨false, rfl, (by intro h; cases h), HA.out.trans HK1.out⟩
       | true =>
        by_cases hm : m = 0
        · go_wp2_with fail
          go_ret
          exact ⟨false, rfl, (by intro h; cases h), HA.out.trans HK1.out⟩
        · go_wp2_with fail
          refine (HC.out true hm _ (by first | exact HK1.out | exact HK1.out.trans (Only.refl _ _).drew)).mono ?_
          rintro e w2 ⟨r2, rfl, hr2, hk2⟩
          have HR2 := Lib.hid hr2
          have HK2 := Lib.hid hk2
          clear hr2 hk2 HC
          cases r2 with
          | false =>
           go_wp2_with fail
           go_ret
           exact ⟨false, rfl, (by intro h; cases h), (HA.out.trans HK1.out).trans HK2.out⟩
          | true =>
           have HT := Lib.hid (HN.out hkk htt (fun _ => by simp) (HR.out (by simp)) (by have := HR2.out (by simp); rw [show true = (true || decide (7 ≤ k ∧ k ≤ 11)) from rfl] at this; exact this) hm w2 (HK1.out.trans HK2.out))
           clear HN HCW HR HR2 HK1 HK2 HA HBW
           clear hx0 hx5 hc0 hc1 hc2 hc3 hc4 hc5 hm hm64 hkk htt hbl
           go_wp2_with fail
           go_roundw
           case rel => exact ⟨j + 1, rest, by rw [hj64]; rfl, HT.out⟩
           case measure =>
            rw [hj64]
            exact meas _ j HJ.out
      | false =>
       by_cases k7 : 7 ≤ k
       · by_cases k11 : k ≤ 11
         · have hd : Hid (true = (false || decide (7 ≤ k ∧ k ≤ 11))) := Lib.hid (by simp [k7, k11])
           go_wp2_with fail
           refine (HS.out _ (by first | exact (Only.refl _ _).drew | exact Only.refl _ _)).mono ?_
           rintro e w1 ⟨r, rfl, hr, hk1⟩
           obtain ⟨hx0, hx5⟩ := HCW.out w1 (by first | exact hk1 | exact (Only.refl _ _).drew.trans hk1)
           have HR := Lib.hid hr
           have HK1 := Lib.hid hk1
           clear hr hk1 HS
           cases r with
           | false =>
            go_wp2_with fail
            go_ret
            exact ⟨false, rfl, (by intro h; cases h), HA.out.trans HK1.out⟩
           | true =>
            by_cases hm : m = 0
            · go_wp2_with fail
              go_ret
              exact ⟨false, rfl, (by intro h; cases h), HA.out.trans HK1.out⟩
            · go_wp2_with fail
              refine (HC.out true hm _ (by first | exact HK1.out | exact HK1.out.trans (Only.refl _ _).drew)).mono ?_
              rintro e w2 ⟨r2, rfl, hr2, hk2⟩
              have HR2 := Lib.hid hr2
              have HK2 := Lib.hid hk2
              clear hr2 hk2 HC
              cases r2 with
              | false =>
               go_wp2_with fail
               go_ret
               exact ⟨false, rfl, (by intro h; cases h), (HA.out.trans HK1.out).trans HK2.out⟩
              | true =>
               have HT := Lib.hid (HN.out hkk htt (fun h => absurd h k23) (HR.out (by simp)) (by have := HR2.out (by simp); rw [hd.out] at this; exact this) hm w2 (HK1.out.trans HK2.out))
               clear HN HCW HR HR2 HK1 HK2 HA HBW
               clear hx0 hx5 hc0 hc1 hc2 hc3 hc4 hc5 hm hm64 hkk htt hbl
               go_wp2_with fail
               go_roundw
               case rel => exact ⟨j + 1, rest, by rw [hj64]; rfl, HT.out⟩
               case measure =>
                rw [hj64]
                exact meas _ j HJ.out
         · have hd : Hid (false = (false || decide (7 ≤ k ∧ k ≤ 11))) := Lib.hid (by simp [k11])
           have e1 : decide (7 ≤ k) = true := by simp [k7]
           have e2 : decide (k ≤ 11) = false := by simp [k11]
           have HK := Lib.hid (And.intro k7 k11)
           clear k7 k11
           go_wp2_with fail
           refine (HS.out _ (by first | exact (Only.refl _ _).drew | exact Only.refl _ _)).mono ?_
           rintro e w1 ⟨r, rfl, hr, hk1⟩
           obtain ⟨hx0, hx5⟩ := HCW.out w1 (by first | exact hk1 | exact (Only.refl _ _).drew.trans hk1)
           have HR := Lib.hid hr
           have HK1 := Lib.hid hk1
           clear hr hk1 HS
           cases r with
           | false =>
            go_wp2_with fail
            go_ret
            exact ⟨false, rfl, (by intro h; cases h), HA.out.trans HK1.out⟩
           | true =>
            by_cases hm : m = 0
            · go_wp2_with fail
              go_ret
              exact ⟨false, rfl, (by intro h; cases h), HA.out.trans HK1.out⟩
            · go_wp2_with fail
              refine (HC.out false hm _ (by first | exact HK1.out | exact HK1.out.trans (Only.refl _ _).drew)).mono ?_
              rintro e w2 ⟨r2, rfl, hr2, hk2⟩
              have HR2 := Lib.hid hr2
              have HK2 := Lib.hid hk2
              clear hr2 hk2 HC
              cases r2 with
              | false =>
               go_wp2_with fail
               go_ret
               exact ⟨false, rfl, (by intro h; cases h), (HA.out.trans HK1.out).trans HK2.out⟩
              | true =>
               have HT := Lib.hid (HN.out hkk htt (fun h => absurd h k23) (HR.out (by simp)) (by have := HR2.out (by simp); rw [hd.out] at this; exact this) hm w2 (HK1.out.trans HK2.out))
               clear HN HCW HR HR2 HK1 HK2 HA HBW
               clear hx0 hx5 hc0 hc1 hc2 hc3 hc4 hc5 hm hm64 hkk htt hbl
               go_wp2_with fail
               go_roundw
               case rel => exact ⟨j + 1, rest, by rw [hj64]; rfl, HT.out⟩
               case measure =>
                rw [hj64]
                exact meas _ j HJ.out
       · have hd : Hid (false = (false || decide (7 ≤ k ∧ k ≤ 11))) := Lib.hid (by simp [k7])
         go_wp2_with fail
         refine (HS.out _ (by first | exact (Only.refl _ _).drew | exact Only.refl _ _)).mono ?_
         rintro e w1 ⟨r, rfl, hr, hk1⟩
         obtain ⟨hx0, hx5⟩ := HCW.out w1 (by first | exact hk1 | exact (Only.refl _ _).drew.trans hk1)
         have HR := Lib.hid hr
         have HK1 := Lib.hid hk1
         clear hr hk1 HS
         cases r with
         | false =>
          go_wp2_with fail
          go_ret
          exact ⟨false, rfl, (by intro h; cases h), HA.out.trans HK1.out⟩
         | true =>
          by_cases hm : m = 0
          · go_wp2_with fail
            go_ret
            exact ⟨false, rfl, (by intro h; cases h), HA.out.trans HK1.out⟩
          · go_wp2_with fail
            refine (HC.out false hm _ (by first | exact HK1.out | exact HK1.out.trans (Only.refl _ _).drew)).mono ?_
            rintro e w2 ⟨r2, rfl, hr2, hk2⟩
            have HR2 := Lib.hid hr2
            have HK2 := Lib.hid hk2
            clear hr2 hk2 HC
            cases r2 with
            | false =>
             go_wp2_with fail
             go_ret
             exact ⟨false, rfl, (by intro h; cases h), (HA.out.trans HK1.out).trans HK2.out⟩
            | true =>
             have HT := Lib.hid (HN.out hkk htt (fun h => absurd h k23) (HR.out (by simp)) (by have := HR2.out (by simp); rw [hd.out] at this; exact this) hm w2 (HK1.out.trans HK2.out))
             clear HN HCW HR HR2 HK1 HK2 HA HBW
             clear hx0 hx5 hc0 hc1 hc2 hc3 hc4 hc5 hm hm64 hkk htt hbl
             go_wp2_with fail
             go_roundw
             case rel => exact ⟨j + 1, rest, by rw [hj64]; rfl, HT.out⟩
             case measure =>
              rw [hj64]
              exact meas _ j HJ.out

end Go.Proofs.Ytndnglpehghmeaa
