/- Strings of bits: the thin package's reader, the reference's law of their contents: contracts. -/
import Derived.Test.YtpndhbhkmfcgaaaBits
import Derived.Test.YtpndhbhkmfcgaaaSp4
import Derived.Test.YtpndhbhkmfcgaaaL5
import Derived.Deep.QuietTactic
import Derived.BigQuiet
namespace Go.Proofs.Ytpndhbhkmfcgaaa
open Go.RowKit

/-- Bits, how many, what is left, whether it went well, by what should be given. -/
def ResB (w : World) (R : Option ((List Int × Int) × List Int)) (e : Ending) (w' : World) : Prop :=
  ∃ ok v k ys A c A' c', e = .returned (.tuple #[.slice A v.length c, .int .i64 k, .slice A' ys.length c', .bool ok]) ∧ Rd w' w'.heap.size A v ∧ Rd w' w'.heap.size A' ys ∧ Only [] w w' ∧ v.length ≤ 4194304 ∧ ys.length ≤ 4194304 ∧ Got R ok (v, k) ys

set_option maxHeartbeats 800000 in
theorem ImReadBits_of (A : Option Addr) (n c : Nat) (xs : List Int) (w : World) (B : Nat) (h : Rd w B A xs) (hn : n = xs.length) (hb : xs.length ≤ 4194304) :
    Calls Try.prog 8 #[.slice A n c] w (ResB w (asOf bitsOf xs 3)) := by
  have H := Lib.hid (str_any A n c xs w B h hn (by omega))
  have hby := h.byt
  have HY := Lib.hid hby
  have HB := Lib.hid hb
  clear h hn hb hby
  go_enter Try.func8, Try.ntmps8
  go_wp2_with fail
  refine H.out.mono ?_
  rintro e w1 ⟨A1, c1, rfl, hc1, hm1, hown, hk1⟩
  have R1 := Lib.hid (Rd.of_own HY.out hown)
  have K1 := Lib.hid hk1
  clear hown hk1 H
  go_wp2_with fail
  refine (SReadBits_of w1.heap.size (w1.heap.size + 1) xs _ w1.heap.size ?s0 ?s1 (by omega) (by omega) HB.out).mono ?_
  case s0 => exact ⟨Nat.le_refl _, A1, c1, (Var.new _ _ _).alloc _, hc1, hm1, (R1.out.alloc (Nat.le_refl _) _).alloc (by simp <;> omega) _⟩
  case s1 => exact Bt.new' _ _ _ _ (by simp)
  rintro e w2 ⟨ok, zs, k, ys, Ao, co, rfl, ho2, hbt, hco, hmo, hso, hs2, hlz, hly, hg⟩
  have HG := Lib.hid hg
  have HLO := Lib.hid (show zs.length ≤ 140737488355328 by omega)
  have HYO := Lib.hid hso.byt
  have HLY := Lib.hid (show ys.length ≤ 140737488355328 by omega)
  have HYB := Lib.hid hs2.byt
  have HLL := Lib.hid (And.intro hlz hly)
  clear hg hlz hly
  have hk2 : Only [] w w2 := ((K1.out.alloc _).alloc _).then ho2 (by have := K1.out.size; simp; omega)
  have RO := Lib.hid hso
  clear hso
  obtain ⟨_, A2, c2, hvi, hc2, hm2, hr2⟩ := hs2
  have hci := hvi.cell
  have LI := Lib.hid hvi.lt
  have R2 := Lib.hid hr2
  have K2 := Lib.hid hk2
  have hco1 := hbt.c0
  have LO1 := Lib.hid hbt.lt
  have hco2 := hbt.c1
  have LO2 := Lib.hid hbt.lt
  clear hr2 hk2 hvi ho2 hbt
  go_wp2_with fail
  go_region_held3 (fun w' => w'.cell? ⟨w1.heap.size, 0, none⟩ = some (.slice A2 ys.length c2) ∧ w'.cell? ⟨w1.heap.size + 1, 0, none⟩ = some (.slice Ao zs.length co) ∧ w'.cell? ⟨w1.heap.size + 1, 1, none⟩ = some (.int .i64 k)) (first | exact ⟨hci, hco1, hco2⟩ | exact ⟨hciw3, hco1w3, hco2w3⟩ | exact ⟨hciw4, hco1w4, hco2w4⟩) (first | (go_at_call 23; have hq : Rd w2.drew w1.heap.size Ao zs := RO.out.drew; (with_reducible refine (copied_any Ao _ co zs w2.drew w1.heap.size hq rfl HLO.out).mono ?_); clear hq; rintro e w3 ⟨A3, c3, rfl, hc3, hm3, hown3, hk3⟩; have hciw3 := (hk3.cell (p := ⟨w1.heap.size, 0, none⟩) LI.out (by simp)).trans hci; have hco1w3 := (hk3.cell (p := ⟨w1.heap.size + 1, 0, none⟩) LO1.out (by simp)).trans hco1; have hco2w3 := (hk3.cell (p := ⟨w1.heap.size + 1, 1, none⟩) LO2.out (by simp)).trans hco2; have R3n := Lib.hid (Rd.of_own HYO.out hown3); have K3 := Lib.hid hk3; clear hown3 hk3) | (go_at_call 23; have hq : Rd w3 w1.heap.size A2 ys := R2.out.drew.only K3.out (by simp) (Nat.le_of_lt LI.out); (with_reducible refine (copied_any A2 _ c2 ys w3 w1.heap.size hq rfl HLY.out).mono ?_); clear hq; rintro e w4 ⟨A4, c4, rfl, hc4, hm4, hown4, hk4⟩; have hciw4 := (hk4.cell (p := ⟨w1.heap.size, 0, none⟩) (Nat.lt_of_lt_of_le LI.out K3.out.size) (by simp)).trans hciw3; have hco1w4 := (hk4.cell (p := ⟨w1.heap.size + 1, 0, none⟩) (Nat.lt_of_lt_of_le LO1.out K3.out.size) (by simp)).trans hco1w3; have hco2w4 := (hk4.cell (p := ⟨w1.heap.size + 1, 1, none⟩) (Nat.lt_of_lt_of_le LO2.out K3.out.size) (by simp)).trans hco2w3; have R4n := Lib.hid (Rd.of_own HYB.out hown4); have K4 := Lib.hid hk4; clear hown4 hk4))
  all_goals
    go_wp2
    refine bodyPost_ret (results_four rfl _ _ _) rfl ?_
    exact ⟨ok, zs, k, ys, A3, c3, A4, c4, rfl, (R3n.out.only K4.out (by simp) (Nat.le_refl _)).more K4.out.size, R4n.out, (K2.out.drew.trans K3.out).trans K4.out, HLL.out.1, HLL.out.2, HG.out⟩

/-- What the reference's BitsOf tells. -/
def BitsSaid (xs : List Int) (A : Option Addr) (e : Ending) : Prop :=
  match bitsOf xs with
  | some (v, k) => ∃ A' c', e = .returned (.tuple #[.slice A' v.length c', .int .i64 k, .bool true]) ∧ ∀ w B, Rd w B A xs → Rd w B A' v
  | none => e = .returned (.tuple #[.slice none 0 0, .int .i64 0, .bool false])
set_option maxHeartbeats 3200000 in
theorem bitsOf_any (A : Option Addr) (n c : Nat) (xs : List Int) (w : World) (B : Nat) (h : Rd w B A xs) (hn : n = xs.length) (hc1 : n ≤ c) (_hm1 : c ≤ maxLen) (hb : xs.length ≤ 4194304) :
    Calls Try.prog 26 #[.slice A n c] w fun e w' => BitsSaid xs A e ∧ Only [] w w' := by
  subst hn
  by_cases hl0 : xs.length = 0
  · have HV : Hid (BitsSaid xs A (.returned (.tuple #[.slice none 0 0, .int .i64 0, .bool false]))) := Lib.hid (by unfold BitsSaid bitsOf; rw [if_pos (.inl hl0)])
    rw [hl0]
    clear h hl0 hc1 _hm1 hb
    go_enter Try.func26, Try.ntmps26
    go_wp2_with fail
    go_ret3
    exact ⟨HV.out, by first | exact Only.refl _ _ | exact (Only.refl _ _).drewN _ | exact ((Only.refl _ _).drewN _).drewN _⟩
  · obtain ⟨ab, aoff, rfl, hab, hcells⟩ := h.2 (by omega)
    have hcell0 := hcells 0 (by omega)
    rw [Nat.add_zero] at hcell0
    obtain ⟨x0, x1⟩ := Byt.getD h.byt 0
    have hpos : 0 < xs.length := by omega
    by_cases h7 : 7 < xs.getD 0 0
    · have HV : Hid (BitsSaid xs (some ⟨ab, aoff, none⟩) (.returned (.tuple #[.slice none 0 0, .int .i64 0, .bool false]))) := Lib.hid (by unfold BitsSaid bitsOf; rw [if_pos (.inr (.inl h7))])
      clear hcells hl0 h
      generalize xs.getD 0 0 = a0 at *
      go_enter Try.func26, Try.ntmps26
      go_wp2_with fail
      all_goals
        go_ret3
        exact ⟨HV.out, by first | exact Only.refl _ _ | exact (Only.refl _ _).drewN _ | exact ((Only.refl _ _).drewN _).drewN _⟩
    · have h7' : xs.getD 0 0 ≤ 7 := by omega
      by_cases h1 : xs.length = 1
      · by_cases hz0 : xs.getD 0 0 = 0
        · have HV : Hid (∀ A' c', BitsSaid xs (some ⟨ab, aoff, none⟩) (.returned (.tuple #[.slice A' 0 c', .int .i64 0, .bool true]))) := Lib.hid (by
            intro A' c'
            unfold BitsSaid bitsOf
            rw [if_neg (by omega), if_neg (by omega), hz0, h1, List.drop_eq_nil_of_le (by omega)]
            exact ⟨A', c', rfl, fun _ _ _ => Rd.nil _ _ _⟩)
          rw [hz0] at hcell0
          rw [h1]
          clear hcells hl0 hz0 h1 hpos hb x0 x1 h7 h7' h
          by_cases hc : c = 1
          all_goals
            go_enter Try.func26, Try.ntmps26
            go_wp2_with fail
            go_quiet (fail)
            go_wp2_with fail
            go_quiet (fail)
            go_wp2_with fail
            go_ret3
            exact ⟨HV.out _ _, by first | exact Only.refl _ _ | exact (Only.refl _ _).drewN _ | exact ((Only.refl _ _).drewN _).drewN _⟩
        · have HV : Hid (BitsSaid xs (some ⟨ab, aoff, none⟩) (.returned (.tuple #[.slice none 0 0, .int .i64 0, .bool false]))) := Lib.hid (by unfold BitsSaid bitsOf; rw [if_pos (.inr (.inr ⟨h1, hz0⟩))])
          have hq : (xs.getD 0 0 != 0) = true := by simpa using hz0
          rw [h1]
          clear hcells hl0 hz0 h1 hpos h
          generalize xs.getD 0 0 = a0 at *
          go_enter Try.func26, Try.ntmps26
          go_wp2_with fail
          all_goals
            go_ret3
            exact ⟨HV.out, by first | exact Only.refl _ _ | exact (Only.refl _ _).drewN _ | exact ((Only.refl _ _).drewN _).drewN _⟩
      · obtain ⟨m, hm⟩ : ∃ m, xs.length = m + 2 := ⟨xs.length - 2, by omega⟩
        have hcl := hcells (m + 1) (by omega)
        obtain ⟨y0, y1⟩ := Byt.getD h.byt (m + 1)
        have hnc : ¬ c = 1 := by omega
        have hbits : bitsOf xs = if xs.getD (m + 1) 0 % 2 ^ (xs.getD 0 0).toNat ≠ 0 then none else some (xs.drop 1, 8 * ((m : Int) + 1) - xs.getD 0 0) := by
          unfold bitsOf
          rw [if_neg (by omega), hm, show m + 2 - 1 = m + 1 by omega, show ((m + 2 : Nat) : Int) - 1 = (m : Int) + 1 by omega]
          by_cases hz : xs.getD (m + 1) 0 % 2 ^ (xs.getD 0 0).toNat ≠ 0
          · rw [if_pos hz, if_pos ⟨by omega, hz⟩]
          · rw [if_neg hz, if_neg (fun h => hz h.2)]
        have HR1 : Hid (∀ w B, Rd w B (some ⟨ab, aoff, none⟩) xs → Rd w B (some ⟨ab, aoff + 1, none⟩) (xs.drop 1)) := Lib.hid (fun w B h => h.cutM 1)
        have HDL : Hid ((xs.drop 1).length = m + 1) := Lib.hid (by rw [List.length_drop]; omega)
        rw [hm] at hc1 hb ⊢
        have HBT := Lib.hid hbits
        clear hcells hl0 h1 hpos hbits hm h
        generalize xs.getD (m + 1) 0 = z at *
        generalize xs.getD 0 0 = a0 at *
        have hex : a0 = 0 ∨ a0 = 1 ∨ a0 = 2 ∨ a0 = 3 ∨ a0 = 4 ∨ a0 = 5 ∨ a0 = 6 ∨ a0 = 7 := by omega
        have hw1 : IntKind.i64.wrap ((m : Int) + 2 - 1) = ((m + 1 : Nat) : Int) := by rw [IntWalk.i64_in _ (by omega)]; omega
        have hgt : decide ((1 : Int) < (m : Int) + 2) = true := by simp; omega
        have hib : ((m + 1 : Nat) : Int) < (m : Int) + 2 := by omega
        have hw2 : IntKind.i64.wrap (8 * ((m + 1 : Nat) : Int)) = 8 * ((m : Int) + 1) := by rw [IntWalk.i64_in _ (by omega)]; omega
        clear h7 h7' x0 x1
        rcases hex with rfl | rfl | rfl | rfl | rfl | rfl | rfl | rfl
        · have HB2 := Lib.hid (show bitsOf xs = if z % 1 ≠ 0 then none else some (xs.drop 1, 8 * ((m : Int) + 1) - 0) from HBT.out)
          clear HBT
          by_cases hz : z % 1 = 0
          · have HV : Hid (∀ k c', k = 8 * ((m : Int) + 1) - 0 → BitsSaid xs (some ⟨ab, aoff, none⟩) (.returned (.tuple #[.slice (some ⟨ab, aoff + 1, none⟩) (m + 1) c', .int .i64 k, .bool true]))) := Lib.hid (by
              intro k c' hk
              unfold BitsSaid
              rw [HB2.out, if_neg (fun h => h hz), hk]
              exact ⟨_, c', by rw [HDL.out], HR1.out⟩)
            have _hw3 : IntKind.i64.wrap (8 * ((m : Int) + 1) - 0) = 8 * ((m : Int) + 1) - 0 := IntWalk.i64_in _ (by omega)
            clear hz HB2
            go_enter Try.func26, Try.ntmps26
            go_wp2_with fail
            go_quiet (fail)
            go_wp2_with fail
            go_quiet (fail)
            go_wp2_with fail
            go_ret3
            exact ⟨HV.out _ _ (by first | omega | (rw [IntWalk.i64_in _ (by omega)]; omega)), by first | exact Only.refl _ _ | exact (Only.refl _ _).drewN _ | exact ((Only.refl _ _).drewN _).drewN _⟩
          · exact absurd (by omega) hz
        · have HB2 := Lib.hid (show bitsOf xs = if z % 2 ≠ 0 then none else some (xs.drop 1, 8 * ((m : Int) + 1) - 1) from HBT.out)
          clear HBT
          by_cases hz : z % 2 = 0
          · have HV : Hid (∀ k c', k = 8 * ((m : Int) + 1) - 1 → BitsSaid xs (some ⟨ab, aoff, none⟩) (.returned (.tuple #[.slice (some ⟨ab, aoff + 1, none⟩) (m + 1) c', .int .i64 k, .bool true]))) := Lib.hid (by
              intro k c' hk
              unfold BitsSaid
              rw [HB2.out, if_neg (fun h => h hz), hk]
              exact ⟨_, c', by rw [HDL.out], HR1.out⟩)
            have _hq2 : (z % 2 != 0) = false := by simpa using hz
            have _hw3 : IntKind.i64.wrap (8 * ((m : Int) + 1) - 1) = 8 * ((m : Int) + 1) - 1 := IntWalk.i64_in _ (by omega)
            clear hz HB2
            go_enter Try.func26, Try.ntmps26
            go_wp2_with fail
            go_quiet (fail)
            go_wp2_with fail
            go_quiet (fail)
            go_wp2_with fail
            go_ret3
            exact ⟨HV.out _ _ (by first | omega | (rw [IntWalk.i64_in _ (by omega)]; omega)), by first | exact Only.refl _ _ | exact (Only.refl _ _).drewN _ | exact ((Only.refl _ _).drewN _).drewN _⟩
          · have HV : Hid (BitsSaid xs (some ⟨ab, aoff, none⟩) (.returned (.tuple #[.slice none 0 0, .int .i64 0, .bool false]))) := Lib.hid (by unfold BitsSaid; rw [HB2.out, if_pos hz])
            have _hq2 : (z % 2 != 0) = true := by simpa using hz
            clear hz HB2
            go_enter Try.func26, Try.ntmps26
            go_wp2_with fail
            go_quiet (fail)
            go_wp2_with fail
            go_ret3
            exact ⟨HV.out, by first | exact Only.refl _ _ | exact (Only.refl _ _).drewN _ | exact ((Only.refl _ _).drewN _).drewN _⟩
        · have HB2 := Lib.hid (show bitsOf xs = if z % 4 ≠ 0 then none else some (xs.drop 1, 8 * ((m : Int) + 1) - 2) from HBT.out)
          clear HBT
          by_cases hz : z % 4 = 0
          · have HV : Hid (∀ k c', k = 8 * ((m : Int) + 1) - 2 → BitsSaid xs (some ⟨ab, aoff, none⟩) (.returned (.tuple #[.slice (some ⟨ab, aoff + 1, none⟩) (m + 1) c', .int .i64 k, .bool true]))) := Lib.hid (by
              intro k c' hk
              unfold BitsSaid
              rw [HB2.out, if_neg (fun h => h hz), hk]
              exact ⟨_, c', by rw [HDL.out], HR1.out⟩)
            have _hq2 : (z % 4 != 0) = false := by simpa using hz
            have _hw3 : IntKind.i64.wrap (8 * ((m : Int) + 1) - 2) = 8 * ((m : Int) + 1) - 2 := IntWalk.i64_in _ (by omega)
            clear hz HB2
            go_enter Try.func26, Try.ntmps26
            go_wp2_with fail
            go_quiet (fail)
            go_wp2_with fail
            go_quiet (fail)
            go_wp2_with fail
            go_ret3
            exact ⟨HV.out _ _ (by first | omega | (rw [IntWalk.i64_in _ (by omega)]; omega)), by first | exact Only.refl _ _ | exact (Only.refl _ _).drewN _ | exact ((Only.refl _ _).drewN _).drewN _⟩
          · have HV : Hid (BitsSaid xs (some ⟨ab, aoff, none⟩) (.returned (.tuple #[.slice none 0 0, .int .i64 0, .bool false]))) := Lib.hid (by unfold BitsSaid; rw [HB2.out, if_pos hz])
            have _hq2 : (z % 4 != 0) = true := by simpa using hz
            clear hz HB2
            go_enter Try.func26, Try.ntmps26
            go_wp2_with fail
            go_quiet (fail)
            go_wp2_with fail
            go_ret3
            exact ⟨HV.out, by first | exact Only.refl _ _ | exact (Only.refl _ _).drewN _ | exact ((Only.refl _ _).drewN _).drewN _⟩
        · have HB2 := Lib.hid (show bitsOf xs = if z % 8 ≠ 0 then none else some (xs.drop 1, 8 * ((m : Int) + 1) - 3) from HBT.out)
          clear HBT
          by_cases hz : z % 8 = 0
          · have HV : Hid (∀ k c', k = 8 * ((m : Int) + 1) - 3 → BitsSaid xs (some ⟨ab, aoff, none⟩) (.returned (.tuple #[.slice (some ⟨ab, aoff + 1, none⟩) (m + 1) c', .int .i64 k, .bool true]))) := Lib.hid (by
              intro k c' hk
              unfold BitsSaid
              rw [HB2.out, if_neg (fun h => h hz), hk]
              exact ⟨_, c', by rw [HDL.out], HR1.out⟩)
            have _hq2 : (z % 8 != 0) = false := by simpa using hz
            have _hw3 : IntKind.i64.wrap (8 * ((m : Int) + 1) - 3) = 8 * ((m : Int) + 1) - 3 := IntWalk.i64_in _ (by omega)
            clear hz HB2
            go_enter Try.func26, Try.ntmps26
            go_wp2_with fail
            go_quiet (fail)
            go_wp2_with fail
            go_quiet (fail)
            go_wp2_with fail
            go_ret3
            exact ⟨HV.out _ _ (by first | omega | (rw [IntWalk.i64_in _ (by omega)]; omega)), by first | exact Only.refl _ _ | exact (Only.refl _ _).drewN _ | exact ((Only.refl _ _).drewN _).drewN _⟩
          · have HV : Hid (BitsSaid xs (some ⟨ab, aoff, none⟩) (.returned (.tuple #[.slice none 0 0, .int .i64 0, .bool false]))) := Lib.hid (by unfold BitsSaid; rw [HB2.out, if_pos hz])
            have _hq2 : (z % 8 != 0) = true := by simpa using hz
            clear hz HB2
            go_enter Try.func26, Try.ntmps26
            go_wp2_with fail
            go_quiet (fail)
            go_wp2_with fail
            go_ret3
            exact ⟨HV.out, by first | exact Only.refl _ _ | exact (Only.refl _ _).drewN _ | exact ((Only.refl _ _).drewN _).drewN _⟩
        · have HB2 := Lib.hid (show bitsOf xs = if z % 16 ≠ 0 then none else some (xs.drop 1, 8 * ((m : Int) + 1) - 4) from HBT.out)
          clear HBT
          by_cases hz : z % 16 = 0
          · have HV : Hid (∀ k c', k = 8 * ((m : Int) + 1) - 4 → BitsSaid xs (some ⟨ab, aoff, none⟩) (.returned (.tuple #[.slice (some ⟨ab, aoff + 1, none⟩) (m + 1) c', .int .i64 k, .bool true]))) := Lib.hid (by
              intro k c' hk
              unfold BitsSaid
              rw [HB2.out, if_neg (fun h => h hz), hk]
              exact ⟨_, c', by rw [HDL.out], HR1.out⟩)
            have _hq2 : (z % 16 != 0) = false := by simpa using hz
            have _hw3 : IntKind.i64.wrap (8 * ((m : Int) + 1) - 4) = 8 * ((m : Int) + 1) - 4 := IntWalk.i64_in _ (by omega)
            clear hz HB2
            go_enter Try.func26, Try.ntmps26
            go_wp2_with fail
            go_quiet (fail)
            go_wp2_with fail
            go_quiet (fail)
            go_wp2_with fail
            go_ret3
            exact ⟨HV.out _ _ (by first | omega | (rw [IntWalk.i64_in _ (by omega)]; omega)), by first | exact Only.refl _ _ | exact (Only.refl _ _).drewN _ | exact ((Only.refl _ _).drewN _).drewN _⟩
          · have HV : Hid (BitsSaid xs (some ⟨ab, aoff, none⟩) (.returned (.tuple #[.slice none 0 0, .int .i64 0, .bool false]))) := Lib.hid (by unfold BitsSaid; rw [HB2.out, if_pos hz])
            have _hq2 : (z % 16 != 0) = true := by simpa using hz
            clear hz HB2
            go_enter Try.func26, Try.ntmps26
            go_wp2_with fail
            go_quiet (fail)
            go_wp2_with fail
            go_ret3
            exact ⟨HV.out, by first | exact Only.refl _ _ | exact (Only.refl _ _).drewN _ | exact ((Only.refl _ _).drewN _).drewN _⟩
        · have HB2 := Lib.hid (show bitsOf xs = if z % 32 ≠ 0 then none else some (xs.drop 1, 8 * ((m : Int) + 1) - 5) from HBT.out)
          clear HBT
          by_cases hz : z % 32 = 0
          · have HV : Hid (∀ k c', k = 8 * ((m : Int) + 1) - 5 → BitsSaid xs (some ⟨ab, aoff, none⟩) (.returned (.tuple #[.slice (some ⟨ab, aoff + 1, none⟩) (m + 1) c', .int .i64 k, .bool true]))) := Lib.hid (by
              intro k c' hk
              unfold BitsSaid
              rw [HB2.out, if_neg (fun h => h hz), hk]
              exact ⟨_, c', by rw [HDL.out], HR1.out⟩)
            have _hq2 : (z % 32 != 0) = false := by simpa using hz
            have _hw3 : IntKind.i64.wrap (8 * ((m : Int) + 1) - 5) = 8 * ((m : Int) + 1) - 5 := IntWalk.i64_in _ (by omega)
            clear hz HB2
            go_enter Try.func26, Try.ntmps26
            go_wp2_with fail
            go_quiet (fail)
            go_wp2_with fail
            go_quiet (fail)
            go_wp2_with fail
            go_ret3
            exact ⟨HV.out _ _ (by first | omega | (rw [IntWalk.i64_in _ (by omega)]; omega)), by first | exact Only.refl _ _ | exact (Only.refl _ _).drewN _ | exact ((Only.refl _ _).drewN _).drewN _⟩
          · have HV : Hid (BitsSaid xs (some ⟨ab, aoff, none⟩) (.returned (.tuple #[.slice none 0 0, .int .i64 0, .bool false]))) := Lib.hid (by unfold BitsSaid; rw [HB2.out, if_pos hz])
            have _hq2 : (z % 32 != 0) = true := by simpa using hz
            clear hz HB2
            go_enter Try.func26, Try.ntmps26
            go_wp2_with fail
            go_quiet (fail)
            go_wp2_with fail
            go_ret3
            exact ⟨HV.out, by first | exact Only.refl _ _ | exact (Only.refl _ _).drewN _ | exact ((Only.refl _ _).drewN _).drewN _⟩
        · have HB2 := Lib.hid (show bitsOf xs = if z % 64 ≠ 0 then none else some (xs.drop 1, 8 * ((m : Int) + 1) - 6) from HBT.out)
          clear HBT
          by_cases hz : z % 64 = 0
          · have HV : Hid (∀ k c', k = 8 * ((m : Int) + 1) - 6 → BitsSaid xs (some ⟨ab, aoff, none⟩) (.returned (.tuple #[.slice (some ⟨ab, aoff + 1, none⟩) (m + 1) c', .int .i64 k, .bool true]))) := Lib.hid (by
              intro k c' hk
              unfold BitsSaid
              rw [HB2.out, if_neg (fun h => h hz), hk]
              exact ⟨_, c', by rw [HDL.out], HR1.out⟩)
            have _hq2 : (z % 64 != 0) = false := by simpa using hz
            have _hw3 : IntKind.i64.wrap (8 * ((m : Int) + 1) - 6) = 8 * ((m : Int) + 1) - 6 := IntWalk.i64_in _ (by omega)
            clear hz HB2
            go_enter Try.func26, Try.ntmps26
            go_wp2_with fail
            go_quiet (fail)
            go_wp2_with fail
            go_quiet (fail)
            go_wp2_with fail
            go_ret3
            exact ⟨HV.out _ _ (by first | omega | (rw [IntWalk.i64_in _ (by omega)]; omega)), by first | exact Only.refl _ _ | exact (Only.refl _ _).drewN _ | exact ((Only.refl _ _).drewN _).drewN _⟩
          · have HV : Hid (BitsSaid xs (some ⟨ab, aoff, none⟩) (.returned (.tuple #[.slice none 0 0, .int .i64 0, .bool false]))) := Lib.hid (by unfold BitsSaid; rw [HB2.out, if_pos hz])
            have _hq2 : (z % 64 != 0) = true := by simpa using hz
            clear hz HB2
            go_enter Try.func26, Try.ntmps26
            go_wp2_with fail
            go_quiet (fail)
            go_wp2_with fail
            go_ret3
            exact ⟨HV.out, by first | exact Only.refl _ _ | exact (Only.refl _ _).drewN _ | exact ((Only.refl _ _).drewN _).drewN _⟩
        · have HB2 := Lib.hid (show bitsOf xs = if z % 128 ≠ 0 then none else some (xs.drop 1, 8 * ((m : Int) + 1) - 7) from HBT.out)
          clear HBT
          by_cases hz : z % 128 = 0
          · have HV : Hid (∀ k c', k = 8 * ((m : Int) + 1) - 7 → BitsSaid xs (some ⟨ab, aoff, none⟩) (.returned (.tuple #[.slice (some ⟨ab, aoff + 1, none⟩) (m + 1) c', .int .i64 k, .bool true]))) := Lib.hid (by
              intro k c' hk
              unfold BitsSaid
              rw [HB2.out, if_neg (fun h => h hz), hk]
              exact ⟨_, c', by rw [HDL.out], HR1.out⟩)
            have _hq2 : (z % 128 != 0) = false := by simpa using hz
            have _hw3 : IntKind.i64.wrap (8 * ((m : Int) + 1) - 7) = 8 * ((m : Int) + 1) - 7 := IntWalk.i64_in _ (by omega)
            clear hz HB2
            go_enter Try.func26, Try.ntmps26
            go_wp2_with fail
            go_quiet (fail)
            go_wp2_with fail
            go_quiet (fail)
            go_wp2_with fail
            go_ret3
            exact ⟨HV.out _ _ (by first | omega | (rw [IntWalk.i64_in _ (by omega)]; omega)), by first | exact Only.refl _ _ | exact (Only.refl _ _).drewN _ | exact ((Only.refl _ _).drewN _).drewN _⟩
          · have HV : Hid (BitsSaid xs (some ⟨ab, aoff, none⟩) (.returned (.tuple #[.slice none 0 0, .int .i64 0, .bool false]))) := Lib.hid (by unfold BitsSaid; rw [HB2.out, if_pos hz])
            have _hq2 : (z % 128 != 0) = true := by simpa using hz
            clear hz HB2
            go_enter Try.func26, Try.ntmps26
            go_wp2_with fail
            go_quiet (fail)
            go_wp2_with fail
            go_ret3
            exact ⟨HV.out, by first | exact Only.refl _ _ | exact (Only.refl _ _).drewN _ | exact ((Only.refl _ _).drewN _).drewN _⟩

end Go.Proofs.Ytpndhbhkmfcgaaa
