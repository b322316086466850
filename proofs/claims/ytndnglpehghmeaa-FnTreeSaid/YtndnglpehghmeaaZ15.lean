/- The reference's SameItems: contract. -/
import Derived.Test.YtndnglpehghmeaaZ14
import Derived.Test.YtndnglpehghmeaaZ1
import Derived.Deep.QuietTactic
import Derived.BigQuiet
/-! ### The reference's SameItems: contract. -/
namespace Go.Proofs.Ytndnglpehghmeaa
open Go.RowKit
set_option linter.unusedVariables false

theorem sameInts_nil (A A' : Option Addr) (c c' : Nat) (w : World) :
    Calls Try.prog 14 #[.slice A 0 c, .slice A' 0 c'] w fun e w' => e = .returned (.bool true) ∧ w' = w := by
  go_enter Try.func14, Try.ntmps14
  go_wp2_with fail
  go_loopw [5] (fun i W => i = .int .i64 0 ∧ W = w) (fun i _ => 0)
  case atStart => exact ⟨rfl, rfl⟩
  case round =>
    obtain ⟨rfl, rfl⟩ := hrel
    go_wp2_with fail
    go_ret
    exact ⟨rfl, rfl⟩
def SameOK (its : Its) : Prop := ∀ (A A' : Option Addr) (n n' c c' : Nat) (w : World) (B : Nat), ItsRd w B A its → ItsRd w B A' its → n = its.len → n' = its.len → n ≤ 140737488355328 → B ≤ w.heap.size → Sz its → NoArc its →
  Calls Try.prog 7 #[.slice A n c, .slice A' n' c'] w fun e w' => e = .returned (.bool true) ∧ ∃ m, w' = w.drewN m
set_option maxRecDepth 100000 in
set_option maxHeartbeats 4000000 in
theorem same_ok (its : Its) (hall : Kids SameOK its) : SameOK its := by
  intro A A' n n' c c' w B hi hi' hn hn' hn1 hB hs hna
  have H1 : Hid (LeftAt w B A 0 its ∧ LeftAt w B A' 0 its ∧ 0 + its.len = n ∧ Kids SameOK its ∧ Sz its ∧ NoArc its ∧ ∃ m, w = w.drewN m) := Lib.hid ⟨hi, hi', by omega, hall, hs, hna, 0, rfl⟩
  obtain rfl : n' = n := by omega
  have HB := Lib.hid hB
  have HL := Lib.hid hn1
  clear hi hi' hn hn' hB hs hall hn1 hna
  go_enter Try.func7, Try.ntmps7
  go_wp2_with fail
  go_loopw [5] (fun y W => ∃ (j : Nat) (its' : Its), y = .int .i64 (j : Int) ∧ LeftAt w B A j its' ∧ LeftAt w B A' j its' ∧ j + its'.len = n' ∧ Kids SameOK its' ∧ Sz its' ∧ NoArc its' ∧ ∃ m, W = w.drewN m) (fun y _ => n' - (intOf y).toNat)
  case atStart => exact ⟨0, its, by simp, H1.out⟩
  case round =>
    obtain ⟨j, its', rfl, hl, hl', hj, hall, hs, hna, m0, hm0⟩ := hrel
    have ho : Only [] w wr := by rw [hm0]; exact (Only.refl _ _).drewN m0
    have HM := Lib.hid hm0
    clear hm0
    clear H1
    cases its' with
    | nil =>
      have hjn : j = n' := hj
      subst hjn
      clear hl hl' hj hall hs hna ho
      go_wp2_with fail
      go_ret
      exact ⟨rfl, m0, HM.out⟩
    | cons k i t d o kids rest =>
      have hlt : (j : Int) < (n' : Int) := by simp only [Its.len] at hj; omega
      obtain ⟨ho0, hna1, hna2⟩ := hna
      subst ho0
      obtain ⟨blk, off, Ad, cd, Ao, co, Ak, ck, rfl, hbl, hcell, hrn, hrd, _, _, _, hck, hkd, hnx⟩ := hl.cells (only_keep ho HB.out)
      obtain ⟨blk', off', Ad', cd', Ao', co', Ak', ck', rfl, hbl', hcell', hrn', hrd', _, _, _, hck', hkd', hnx'⟩ := hl'.cells (only_keep ho HB.out)
      have hc0 : wr.cell? ⟨blk, off + j * 6, none⟩ = some (.int .i64 k) := hcell 0 _ rfl
      have hc1 : wr.cell? ⟨blk, off + j * 6 + 1, none⟩ = some (.int .i64 i) := hcell 1 _ rfl
      have hc2 : wr.cell? ⟨blk, off + j * 6 + 2, none⟩ = some (.int .i64 t) := hcell 2 _ rfl
      have hc3 : wr.cell? ⟨blk, off + j * 6 + 3, none⟩ = some (.slice Ad d.length cd) := hcell 3 _ rfl
      have hc4 : wr.cell? ⟨blk, off + j * 6 + 4, none⟩ = some (.slice Ao 0 co) := hcell 4 _ rfl
      have hc5 : wr.cell? ⟨blk, off + j * 6 + 5, none⟩ = some (.slice Ak kids.len ck) := hcell 5 _ rfl
      have hd0 : wr.cell? ⟨blk', off' + j * 6, none⟩ = some (.int .i64 k) := hcell' 0 _ rfl
      have hd1 : wr.cell? ⟨blk', off' + j * 6 + 1, none⟩ = some (.int .i64 i) := hcell' 1 _ rfl
      have hd2 : wr.cell? ⟨blk', off' + j * 6 + 2, none⟩ = some (.int .i64 t) := hcell' 2 _ rfl
      have hd3 : wr.cell? ⟨blk', off' + j * 6 + 3, none⟩ = some (.slice Ad' d.length cd') := hcell' 3 _ rfl
      have hd4 : wr.cell? ⟨blk', off' + j * 6 + 4, none⟩ = some (.slice Ao' 0 co') := hcell' 4 _ rfl
      have hd5 : wr.cell? ⟨blk', off' + j * 6 + 5, none⟩ = some (.slice Ak' kids.len ck') := hcell' 5 _ rfl
      have HBW : Hid (B ≤ wr.heap.size) := Lib.hid (Nat.le_trans HB.out ho.size)
      have HC := Lib.hid (fun (n : Nat) => hall.1 Ak Ak' kids.len kids.len ck ck' (wr.drewN n) B (hkd.only (l := []) ((Only.refl _ _).drewN n) (by simp) HBW.out) (hkd'.only (l := []) ((Only.refl _ _).drewN n) (by simp) HBW.out) rfl rfl hs.2.2.1 HBW.out hs.2.2.2.1 hna1)
      have HD : Hid (∀ n, Calls Try.prog 13 #[.slice Ad d.length cd, .slice Ad' d.length cd'] (wr.drewN n) fun e w' => e = .returned (.bool true) ∧ w' = wr.drewN n) := Lib.hid (fun n => (same_yes Ad Ad' d.length d.length cd cd' d d (wr.drewN n) B B (hrd.drewN n) (hrd'.drewN n) rfl rfl rfl).mono fun e w' h => ⟨h.1, h.2.symm⟩)
      have HN : Hid (LeftAt w B (some ⟨blk, off, none⟩) (j + 1) rest ∧ LeftAt w B (some ⟨blk', off', none⟩) (j + 1) rest ∧ j + 1 + rest.len = n' ∧ Kids SameOK rest ∧ Sz rest ∧ NoArc rest) := Lib.hid ⟨hnx, hnx', by simp only [Its.len] at hj; omega, hall.2, hs.2.2.2.2, hna2⟩
      have hj64 : wrap64 ((j : Int) + 1) = (j : Int) + 1 := wrap64_id _ (by omega) (by have := HL.out; omega)
      have HJ := Lib.hid hlt
      clear hl hl' hall hs ho hcell hcell' hrn hrn' hck hck' hkd hkd' hnx hnx' hj hna1 hna2 hrd hrd'
      go_wp2_with fail
      go_quiet (first | (go_at_call 13; exact Calls.quiet_of_same (HD.out _)) | (go_at_call 14; exact Calls.quiet_of_same (sameInts_nil _ _ _ _ _)) | (go_at_call 7; exact Calls.quiet_of (HC.out _)))
      clear HC HD HBW hc0 hc1 hc2 hc3 hc4 hc5 hd0 hd1 hd2 hd3 hd4 hd5 hlt hbl hbl'
      go_wp2_with fail
      go_roundw
      case rel => exact ⟨j + 1, rest, by rw [hj64]; rfl, HN.out.1, HN.out.2.1, HN.out.2.2.1, HN.out.2.2.2.1, HN.out.2.2.2.2.1, HN.out.2.2.2.2.2, m0 + nq, by rw [HM.out, World.drewN_drewN]⟩
      case measure =>
        rw [hj64]
        exact meas _ j HJ.out
theorem same_all (its : Its) : SameOK its := by
  suffices h : SameOK its ∧ Kids SameOK its from h.1
  induction its with
  | nil => exact ⟨same_ok _ trivial, trivial⟩
  | cons k n t d o kids rest ihk ihr => exact ⟨same_ok _ ⟨ihk.1, ihr.2⟩, ihk.1, ihr.2⟩
theorem trees_all (its : Its) : TreesOK its := by
  suffices h : TreesOK its ∧ Kids TreesOK its from h.1
  induction its with
  | nil => exact ⟨trees_ok _ trivial, trivial⟩
  | cons k n t d o kids rest ihk ihr => exact ⟨trees_ok _ ⟨ihk.1, ihr.2⟩, ihk.1, ihr.2⟩

end Go.Proofs.Ytndnglpehghmeaa
