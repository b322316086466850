/- The reference's trees: contract. -/
import Derived.Test.YtndnglpehghmeaaZ13
/-! ### The reference's trees: contract. -/
namespace Go.Proofs.Ytndnglpehghmeaa
open Go.RowKit
set_option linter.unusedVariables false

def TreesOK (its : Its) : Prop := ∀ (ins : Bool) (A : Option Addr) (n c : Nat) (w : World) (B : Nat), ItsRd w B A its → n = its.len → n ≤ 140737488355328 → B ≤ w.heap.size → Sz its → Ok its ins →
  Calls Try.prog 9 #[.slice A n c] w (Tells w fun r => r = true → Tr its)
set_option maxRecDepth 100000 in
set_option maxHeartbeats 2000000 in
theorem trees_ok (its : Its) (hall : Kids TreesOK its) : TreesOK its := by
  intro ins A n c w B hi hn hn1 hB hs hok
  obtain ⟨P, hP⟩ : ∃ P, Tr its = P := ⟨_, rfl⟩
  have H1 : Hid (LeftAt w B A 0 its ∧ 0 + its.len = n ∧ Kids TreesOK its ∧ Sz its ∧ Ok its ins ∧ (Tr its → P) ∧ Only [] w w) := Lib.hid ⟨hi, by omega, hall, hs, hok, fun h => by rw [← hP]; exact h, Only.refl _ _⟩
  have HB := Lib.hid hB
  have HL := Lib.hid hn1
  rw [hP]
  clear hi hn hB hs hall hn1 hP hok
  go_enter Try.func9, Try.ntmps9
  go_wp2_with fail
  go_loopw [3] (fun y W => ∃ (j : Nat) (its' : Its), y = .int .i64 (j : Int) ∧ LeftAt w B A j its' ∧ j + its'.len = n ∧ Kids TreesOK its' ∧ Sz its' ∧ Ok its' ins ∧ (Tr its' → P) ∧ Only [] w W) (fun y _ => n - (intOf y).toNat)
  case atStart => exact ⟨0, its, by simp, H1.out⟩
  case round =>
    obtain ⟨j, its', rfl, hl, hj, hall, hs, hok, hv, ho⟩ := hrel
    clear H1
    cases its' with
    | nil =>
      have hjn : j = n := hj
      subst hjn
      have HQ := Lib.hid (hv trivial)
      have HK := Lib.hid ho
      clear hl hj hall hs hok hv ho
      go_wp2_with fail
      go_ret
      exact ⟨true, rfl, (by intro _; exact HQ.out), HK.out⟩
    | cons k i t d o kids rest =>
      have hlt : (j : Int) < (n : Int) := by simp only [Its.len] at hj; omega
      obtain ⟨blk, off, Ad, cd, Ao, co, Ak, ck, rfl, hbl, hcell, hrn, _, _, _, _, hck, hkd, hnx⟩ := hl.cells (only_keep ho HB.out)
      have hc0 := hcell 0 _ rfl
      have hc1 := hcell 1 _ rfl
      have hc2 := hcell 2 _ rfl
      have hc3 := hcell 3 _ rfl
      have hc4 := hcell 4 _ rfl
      have hc5 := hcell 5 _ rfl
      rw [Nat.add_zero] at hc0
      obtain ⟨o1, o2, o3, o4, o5, o6, o7, o8⟩ := hok
      have hh := and32 t o3 o4
      have HBW : Hid (B ≤ wr.heap.size) := Lib.hid (Nat.le_trans HB.out ho.size)
      have HA : Hid (Only [] w (wr.alloc (.cells #[.int .i64 k, .int .i64 i, .int .i64 t, .slice Ad d.length cd, .slice Ao o.length co, .slice Ak kids.len ck] 42))) := Lib.hid (ho.alloc _)
      have HC := Lib.hid (fun (W : World) (hk : Only [] (wr.alloc (.cells #[.int .i64 k, .int .i64 i, .int .i64 t, .slice Ad d.length cd, .slice Ao o.length co, .slice Ak kids.len ck] 42)) W) => hall.1 _ Ak kids.len ck W B (hkd.only (l := []) (((Only.refl _ _).alloc _).trans hk) (by simp) HBW.out) rfl hs.2.2.1 (Nat.le_trans HB.out (HA.out.trans hk).size) hs.2.2.2.1 o7)
      have HN : Hid ((k = 11 ∧ i = 0 ∧ d = [] ∧ o = []) → t % 32 ≠ 31 → (t / 32 % 2 = 1 → Tr kids) → (t / 32 % 2 = 0 → ∃ d', kids = .cons 6 0 0 d' [] .nil .nil) → ∀ W, Only [] (wr.alloc (.cells #[.int .i64 k, .int .i64 i, .int .i64 t, .slice Ad d.length cd, .slice Ao o.length co, .slice Ak kids.len ck] 42)) W → LeftAt w B (some ⟨blk, off, none⟩) (j + 1) rest ∧ (j + 1) + rest.len = n ∧ Kids TreesOK rest ∧ Sz rest ∧ Ok rest ins ∧ (Tr rest → P) ∧ Only [] w W) :=
        Lib.hid (fun h1 h2 h3 h4 W h6 => ⟨hnx, by simp only [Its.len] at hj; omega, hall.2, hs.2.2.2.2, o8, fun h => hv ⟨h1, h2, h3, h4, h⟩, HA.out.trans h6⟩)
      have HCW : Hid (∀ (W : World), Only [] (wr.alloc (.cells #[.int .i64 k, .int .i64 i, .int .i64 t, .slice Ad d.length cd, .slice Ao o.length co, .slice Ak kids.len ck] 42)) W → W.cell? ⟨wr.heap.size, 2, none⟩ = some (.int .i64 t) ∧ W.cell? ⟨wr.heap.size, 5, none⟩ = some (.slice Ak kids.len ck)) := Lib.hid (fun W hk => by
        have hnew := heap_alloc_new wr (.cells #[.int .i64 k, .int .i64 i, .int .i64 t, .slice Ad d.length cd, .slice Ao o.length co, .slice Ak kids.len ck] 42)
        have hb := (hk.block wr.heap.size (lt_of_block hnew) (by simp)).trans hnew
        exact ⟨cell_of_row W _ 2 _ _ _ hb, cell_of_row W _ 5 _ _ _ hb⟩)
      have HKD := Lib.hid hkd
      have HSZ := Lib.hid hs.2.2.2.1
      have hj64 : wrap64 ((j : Int) + 1) = (j : Int) + 1 := wrap64_id _ (by omega) (by have := HL.out; omega)
      have HJ := Lib.hid hlt
      have HT := Lib.hid (And.intro o3 o4)
      clear hl hall hs hv ho hcell hrn hck hkd hnx hj o1 o2 o5 o6 o7 o8
      by_cases c1 : k = 11
      rotate_left
      · go_wp2_with fail
        go_ret
        exact ⟨false, rfl, (by intro h; cases h), HA.out⟩
      subst c1
      by_cases c2 : ¬ t % 32 = 31
      rotate_left
      · have c2 : t % 32 = 31 := by omega
        go_wp2_with fail
        go_ret
        exact ⟨false, rfl, (by intro h; cases h), HA.out⟩
      by_cases c3 : i = 0
      rotate_left
      · go_wp2_with fail
        go_ret
        exact ⟨false, rfl, (by intro h; cases h), HA.out⟩
      subst c3
      rcases d with _ | ⟨d1, d2⟩
      rotate_left
      · have cp : ((d2.length : Int) + 1 != 0) = true := by simp; omega
        go_wp2_with fail
        go_ret
        exact ⟨false, rfl, (by intro h; cases h), HA.out⟩
      rcases o with _ | ⟨o1, o2⟩
      rotate_left
      · have cp : ((o2.length : Int) + 1 != 0) = true := by simp; omega
        go_wp2_with fail
        go_ret
        exact ⟨false, rfl, (by intro h; cases h), HA.out⟩
      by_cases cb : t / 32 % 2 = 1
      · have h32 : bits .and .i64 t 32 = 32 := by rw [hh, cb]; rfl
        clear hh
        have HCB := Lib.hid cb
        clear cb
        go_wp2_with fail
        refine (HC.out _ (by first | exact (Only.refl _ _).drew | exact Only.refl _ _)).mono ?_
        rintro e w1 ⟨r, rfl, hr, hk1⟩
        obtain ⟨hx2, hx5⟩ := HCW.out w1 (by first | exact hk1 | exact (Only.refl _ _).drew.trans hk1)
        have HR := Lib.hid hr
        have HK1 := Lib.hid hk1
        clear hr hk1
        cases r with
        | false =>
          go_wp2_with fail
          go_ret
          exact ⟨false, rfl, (by intro h; cases h), HA.out.trans HK1.out⟩
        | true =>
          have HS := Lib.hid (HN.out (by simp) c2 (fun _ => HR.out rfl) (fun h => absurd HCB.out (by omega)) w1 HK1.out)
          clear HN HC HCW HA HBW HKD HSZ HR HK1 HCB
          clear hc0 hc1 hc2 hc3 hc4 hc5 hx5 hlt hbl
          go_wp2_with fail
          go_roundw
          case rel => exact ⟨j + 1, rest, by rw [hj64]; rfl, HS.out⟩
          case measure =>
            rw [hj64]
            exact meas _ j HJ.out
      · have cz : t / 32 % 2 = 0 := by omega
        have h32 : bits .and .i64 t 32 = 0 := by rw [hh, cz]; rfl
        clear hh
        have HCB := Lib.hid cz
        clear cb cz
        by_cases ck1 : kids.len = 1
        rotate_left
        · go_wp2_with fail
          go_ret
          exact ⟨false, rfl, (by intro h; cases h), HA.out⟩
        rcases kids with _ | ⟨k2, n2, t2, d2, o2, kids2, rest2⟩
        · simp [Its.len] at ck1
        obtain ⟨b2, off2, rfl, hb2, Ad2, cd2, Ao2, co2, Ak2, ck2, hcs2, _⟩ := HKD.out (by simp [Its.len])
        obtain rfl : rest2 = .nil := its_nil (by simp only [Its.len] at ck1; omega)
        have hcell2 : ∀ (q : Nat) (u : Value), (itemCells k2 n2 t2 d2 o2 Ad2 cd2 Ao2 co2 Ak2 kids2.len ck2)[q]? = some u → (wr.alloc (.cells #[.int .i64 11, .int .i64 0, .int .i64 t, .slice Ad 0 cd, .slice Ao 0 co, .slice (some ⟨b2, off2, none⟩) 1 ck] 42)).cell? ⟨b2, off2 + q, none⟩ = some u := fun q u hq => (((Only.refl [] wr).alloc _).cell (p := ⟨b2, off2 + q, none⟩) (by have := HBW.out; show b2 < _; omega) (by simp)).trans (hcs2 q u hq)
        have g0 : (wr.alloc (.cells #[.int .i64 11, .int .i64 0, .int .i64 t, .slice Ad 0 cd, .slice Ao 0 co, .slice (some ⟨b2, off2, none⟩) 1 ck] 42)).cell? ⟨b2, off2, none⟩ = some (.int .i64 k2) := hcell2 0 _ rfl
        have g1 : (wr.alloc (.cells #[.int .i64 11, .int .i64 0, .int .i64 t, .slice Ad 0 cd, .slice Ao 0 co, .slice (some ⟨b2, off2, none⟩) 1 ck] 42)).cell? ⟨b2, off2 + 1, none⟩ = some (.int .i64 n2) := hcell2 1 _ rfl
        have g2 : (wr.alloc (.cells #[.int .i64 11, .int .i64 0, .int .i64 t, .slice Ad 0 cd, .slice Ao 0 co, .slice (some ⟨b2, off2, none⟩) 1 ck] 42)).cell? ⟨b2, off2 + 2, none⟩ = some (.int .i64 t2) := hcell2 2 _ rfl
        have g3 : (wr.alloc (.cells #[.int .i64 11, .int .i64 0, .int .i64 t, .slice Ad 0 cd, .slice Ao 0 co, .slice (some ⟨b2, off2, none⟩) 1 ck] 42)).cell? ⟨b2, off2 + 3, none⟩ = some (.slice Ad2 d2.length cd2) := hcell2 3 _ rfl
        have g4 : (wr.alloc (.cells #[.int .i64 11, .int .i64 0, .int .i64 t, .slice Ad 0 cd, .slice Ao 0 co, .slice (some ⟨b2, off2, none⟩) 1 ck] 42)).cell? ⟨b2, off2 + 4, none⟩ = some (.slice Ao2 o2.length co2) := hcell2 4 _ rfl
        have g5 : (wr.alloc (.cells #[.int .i64 11, .int .i64 0, .int .i64 t, .slice Ad 0 cd, .slice Ao 0 co, .slice (some ⟨b2, off2, none⟩) 1 ck] 42)).cell? ⟨b2, off2 + 5, none⟩ = some (.slice Ak2 kids2.len ck2) := hcell2 5 _ rfl
        have HLF := Lib.hid (fun W => leaf_any k2 n2 t2 d2 o2 kids2 Ad2 cd2 Ao2 co2 Ak2 ck2 W HSZ.out.2.1 HSZ.out.2.2.1)
        unfold itemV at HLF
        have hc5' : wr.cell? ⟨blk, off + j * 6 + 5, none⟩ = some (.slice (some ⟨b2, off2, none⟩) 1 ck) := hc5
        have HA' : Hid (Only [] w (wr.alloc (.cells #[.int .i64 11, .int .i64 0, .int .i64 t, .slice Ad 0 cd, .slice Ao 0 co, .slice (some ⟨b2, off2, none⟩) 1 ck] 42))) := HA
        have HCW' : Hid (∀ (W : World), Only [] (wr.alloc (.cells #[.int .i64 11, .int .i64 0, .int .i64 t, .slice Ad 0 cd, .slice Ao 0 co, .slice (some ⟨b2, off2, none⟩) 1 ck] 42)) W → W.cell? ⟨wr.heap.size, 2, none⟩ = some (.int .i64 t) ∧ W.cell? ⟨wr.heap.size, 5, none⟩ = some (.slice (some ⟨b2, off2, none⟩) 1 ck)) := HCW
        have HN' : Hid (LeafSays k2 n2 t2 o2 kids2 true → ∀ W, Only [] (wr.alloc (.cells #[.int .i64 11, .int .i64 0, .int .i64 t, .slice Ad 0 cd, .slice Ao 0 co, .slice (some ⟨b2, off2, none⟩) 1 ck] 42)) W → LeftAt w B (some ⟨blk, off, none⟩) (j + 1) rest ∧ (j + 1) + rest.len = n ∧ Kids TreesOK rest ∧ Sz rest ∧ Ok rest ins ∧ (Tr rest → P) ∧ Only [] w W) := Lib.hid (fun hlf W hW => HN.out (by simp) c2 (fun h => absurd HCB.out (by omega)) (fun _ => by obtain ⟨rfl, rfl, rfl, rfl, rfl⟩ := hlf rfl; exact ⟨d2, rfl⟩) W hW)
        clear hcs2 hcell2 ck1 HC hc5 HA HCW HN
        go_wp2_with fail
        refine (HLF.out _).mono ?_
        rintro e w1 ⟨r, rfl, hr, hk1⟩
        have HR := Lib.hid hr
        have HK1 := Lib.hid hk1
        clear hr hk1 HLF
        cases r with
        | false =>
          go_wp2_with fail
          go_ret
          exact ⟨false, rfl, (by intro h; cases h), HA'.out.trans HK1.out⟩
        | true =>
          have HS := Lib.hid (HN'.out HR.out w1 HK1.out)
          clear HN' HCW' HA' HBW HKD HSZ HR HK1 HCB
          clear hc0 hc1 hc2 hc3 hc4 hc5' hlt hbl g0 g1 g2 g3 g4 g5
          go_wp2_with fail
          go_roundw
          case rel => exact ⟨j + 1, rest, by rw [hj64]; rfl, HS.out⟩
          case measure =>
            rw [hj64]
            exact meas _ j HJ.out

end Go.Proofs.Ytndnglpehghmeaa
