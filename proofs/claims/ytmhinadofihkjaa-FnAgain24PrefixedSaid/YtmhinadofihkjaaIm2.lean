/- The thin package's readers of bytes: contracts. -/
import Derived.Test.YtmhinadofihkjaaIm1
import Derived.Test.YtmhinadofihkjaaRd2
namespace Go.Proofs.Ytmhinadofihkjaa
open Go.RowKit

/-- What a reader of bytes hands back: bytes, what is left, whether it went well. -/
def ResBB (w : World) (xs ys : List Int) (ok : Bool) (e : Ending) (w' : World) : Prop :=
  ∃ A c A' c', e = .returned (.tuple #[.slice A xs.length c, .slice A' ys.length c', .bool ok]) ∧ Rd w' w'.heap.size A xs ∧ Rd w' w'.heap.size A' ys ∧ Only [] w w'
/-- What is left, and whether it went well. -/
def Res2 (w : World) (ys : List Int) (ok : Bool) (e : Ending) (w' : World) : Prop :=
  ∃ A c, e = .returned (.tuple #[.slice A ys.length c, .bool ok]) ∧ Rd w' w'.heap.size A ys ∧ Only [] w w'





set_option maxHeartbeats 800000 in
theorem ImRead8Prefixed_ok (A : Option Addr) (n c : Nat) (xs : List Int) (w : World) (B : Nat) (h : Rd w B A xs) (hn : n = xs.length) (hb : xs.length ≤ 4194304) (hl : 1 ≤ xs.length) (hf : lpSize xs 1 ≤ xs.length - 1) :
    Calls Try.prog 32 #[.slice A n c] w (ResBB w ((xs.drop 1).take (lpSize xs 1)) (xs.drop (1 + lpSize xs 1)) true) := by
  have H := Lib.hid (str_any A n c xs w B h hn (by omega))
  have hby := h.byt
  obtain ⟨zs, hzs⟩ : ∃ zs, (xs.drop 1).take (lpSize xs 1) = zs := ⟨_, rfl⟩
  rw [hzs]
  have HYO := Lib.hid (hzs ▸ (hby.drop _).take _ : Byt zs)
  have HLO := Lib.hid (show zs.length ≤ 140737488355328 by rw [← hzs]; simp; omega)
  have Ezs := Lib.hid hzs
  obtain ⟨ys, hys⟩ : ∃ ys, xs.drop (1 + lpSize xs 1) = ys := ⟨_, rfl⟩
  rw [hys]
  have HYB := Lib.hid (hys ▸ hby.drop _ : Byt ys)
  have HLY := Lib.hid (show ys.length ≤ 140737488355328 by rw [← hys]; simp; omega)
  have Eys := Lib.hid hys
  clear hzs
  clear hys
  have HL := Lib.hid hl
  have HF := Lib.hid hf
  clear hl hf
  have HY := Lib.hid hby
  have HB := Lib.hid hb
  clear h hn hb hby
  go_enter Try.func32, Try.ntmps32
  go_wp2_with fail
  refine H.out.mono ?_
  rintro e w1 ⟨A1, c1, rfl, hc1, hm1, hown, hk1⟩
  have R1 := Lib.hid (Rd.of_own HY.out hown)
  have K1 := Lib.hid hk1
  clear hown hk1 H
  go_wp2_with fail
  refine (SReadUint8LengthPrefixed_ok w1.heap.size (w1.heap.size + 1) (.slice none 0 0) xs _ w1.heap.size ?s0 ?s1 (by omega) (by omega) HL.out).mono ?_
  case s0 => exact ⟨Nat.le_refl _, A1, c1, (Var.new _ _ _).alloc _, hc1, hm1, (R1.out.alloc (Nat.le_refl _) _).alloc (by simp <;> omega) _⟩
  case s1 => exact Var.new' _ _ _ _ (by simp)
  rintro e w2 ⟨⟨rfl, ho2⟩, hyes, _⟩
  rw [decide_eq_true HF.out]
  obtain ⟨hso, hs2⟩ := hyes HF.out
  clear hyes
  have hk2 : Only [] w w2 := ((K1.out.alloc _).alloc _).then ho2 (by have := K1.out.size; simp; omega)
  rw [Eys.out] at hs2
  rw [Ezs.out] at hso
  obtain ⟨_, Ao, co, hvo, hco, hmo, hro⟩ := hso
  have RO := Lib.hid hro
  clear hro
  obtain ⟨_, A2, c2, hvi, hc2, hm2, hr2⟩ := hs2
  have hci := hvi.cell
  have LI := Lib.hid hvi.lt
  have R2 := Lib.hid hr2
  have K2 := Lib.hid hk2
  have hco1 := hvo.cell
  have LO1 := Lib.hid hvo.lt
  clear hr2 hk2 hvi ho2 hvo
  go_wp2_with fail
  go_region_held3 (fun w' => w'.cell? ⟨w1.heap.size, 0, none⟩ = some (.slice A2 ys.length c2) ∧ w'.cell? ⟨w1.heap.size + 1, 0, none⟩ = some (.slice Ao zs.length co)) (first | exact ⟨hci, hco1⟩ | exact ⟨hciw3, hco1w3⟩ | exact ⟨hciw4, hco1w4⟩) (first | (go_at_call 43; have hq : Rd w2.drew w1.heap.size Ao zs := RO.out.drew; (with_reducible refine (copied_any Ao _ co zs w2.drew w1.heap.size hq rfl HLO.out).mono ?_); clear hq; rintro e w3 ⟨A3, c3, rfl, hc3, hm3, hown3, hk3⟩; have hciw3 := (hk3.cell (p := ⟨w1.heap.size, 0, none⟩) LI.out (by simp)).trans hci; have hco1w3 := (hk3.cell (p := ⟨w1.heap.size + 1, 0, none⟩) LO1.out (by simp)).trans hco1; have R3n := Lib.hid (Rd.of_own HYO.out hown3); have K3 := Lib.hid hk3; clear hown3 hk3) | (go_at_call 43; have hq : Rd w3 w1.heap.size A2 ys := R2.out.drew.only K3.out (by simp) (Nat.le_of_lt LI.out); (with_reducible refine (copied_any A2 _ c2 ys w3 w1.heap.size hq rfl HLY.out).mono ?_); clear hq; rintro e w4 ⟨A4, c4, rfl, hc4, hm4, hown4, hk4⟩; have hciw4 := (hk4.cell (p := ⟨w1.heap.size, 0, none⟩) (Nat.lt_of_lt_of_le LI.out K3.out.size) (by simp)).trans hciw3; have hco1w4 := (hk4.cell (p := ⟨w1.heap.size + 1, 0, none⟩) (Nat.lt_of_lt_of_le LO1.out K3.out.size) (by simp)).trans hco1w3; have R4n := Lib.hid (Rd.of_own HYB.out hown4); have K4 := Lib.hid hk4; clear hown4 hk4))
  all_goals
    go_wp2
    go_ret3
    exact ⟨A3, c3, A4, c4, rfl, (R3n.out.only K4.out (by simp) (Nat.le_refl _)).more K4.out.size, R4n.out, (K2.out.drew.trans K3.out).trans K4.out⟩

set_option maxHeartbeats 800000 in
theorem ImRead8Prefixed_long (A : Option Addr) (n c : Nat) (xs : List Int) (w : World) (B : Nat) (h : Rd w B A xs) (hn : n = xs.length) (hb : xs.length ≤ 4194304) (hl : 1 ≤ xs.length) (hf : ¬ lpSize xs 1 ≤ xs.length - 1) :
    Calls Try.prog 32 #[.slice A n c] w (ResBB w [] (xs.drop 1) false) := by
  have H := Lib.hid (str_any A n c xs w B h hn (by omega))
  have hby := h.byt
  obtain ⟨ys, hys⟩ : ∃ ys, xs.drop 1 = ys := ⟨_, rfl⟩
  rw [hys]
  have HYB := Lib.hid (hys ▸ hby.drop _ : Byt ys)
  have HLY := Lib.hid (show ys.length ≤ 140737488355328 by rw [← hys]; simp; omega)
  have Eys := Lib.hid hys
  clear hys
  have HLO := Lib.hid (show ([] : List Int).length ≤ 140737488355328 by simp)
  have HYO := Lib.hid Byt.nil
  have HL := Lib.hid hl
  have HF := Lib.hid hf
  clear hl hf
  have HY := Lib.hid hby
  have HB := Lib.hid hb
  clear h hn hb hby
  go_enter Try.func32, Try.ntmps32
  go_wp2_with fail
  refine H.out.mono ?_
  rintro e w1 ⟨A1, c1, rfl, hc1, hm1, hown, hk1⟩
  have R1 := Lib.hid (Rd.of_own HY.out hown)
  have K1 := Lib.hid hk1
  clear hown hk1 H
  go_wp2_with fail
  refine (SReadUint8LengthPrefixed_ok w1.heap.size (w1.heap.size + 1) (.slice none 0 0) xs _ w1.heap.size ?s0 ?s1 (by omega) (by omega) HL.out).mono ?_
  case s0 => exact ⟨Nat.le_refl _, A1, c1, (Var.new _ _ _).alloc _, hc1, hm1, (R1.out.alloc (Nat.le_refl _) _).alloc (by simp <;> omega) _⟩
  case s1 => exact Var.new' _ _ _ _ (by simp)
  rintro e w2 ⟨⟨rfl, ho2⟩, _, hno⟩
  rw [decide_eq_false HF.out]
  obtain ⟨hvo, hs2⟩ := hno HF.out
  clear hno
  have hk2 : Only [] w w2 := ((K1.out.alloc _).alloc _).then ho2 (by have := K1.out.size; simp; omega)
  rw [Eys.out] at hs2
  have hrn := Rd.nil w2 w1.heap.size none
  have RO := Lib.hid hrn
  clear hrn
  obtain ⟨_, A2, c2, hvi, hc2, hm2, hr2⟩ := hs2
  have hci := hvi.cell
  have LI := Lib.hid hvi.lt
  have R2 := Lib.hid hr2
  have K2 := Lib.hid hk2
  have hco1 := hvo.cell
  have LO1 := Lib.hid hvo.lt
  clear hr2 hk2 hvi ho2 hvo
  go_wp2_with fail
  go_region_held3 (fun w' => w'.cell? ⟨w1.heap.size, 0, none⟩ = some (.slice A2 ys.length c2) ∧ w'.cell? ⟨w1.heap.size + 1, 0, none⟩ = some (.slice none 0 0)) (first | exact ⟨hci, hco1⟩ | exact ⟨hciw3, hco1w3⟩ | exact ⟨hciw4, hco1w4⟩) (first | (go_at_call 43; have hq : Rd w2.drew w1.heap.size none [] := RO.out.drew; (with_reducible refine (copied_any none 0 0 [] w2.drew w1.heap.size hq rfl HLO.out).mono ?_); clear hq; rintro e w3 ⟨A3, c3, rfl, hc3, hm3, hown3, hk3⟩; have hciw3 := (hk3.cell (p := ⟨w1.heap.size, 0, none⟩) LI.out (by simp)).trans hci; have hco1w3 := (hk3.cell (p := ⟨w1.heap.size + 1, 0, none⟩) LO1.out (by simp)).trans hco1; have R3n := Lib.hid (Rd.of_own HYO.out hown3); have K3 := Lib.hid hk3; clear hown3 hk3) | (go_at_call 43; have hq : Rd w3 w1.heap.size A2 ys := R2.out.drew.only K3.out (by simp) (Nat.le_of_lt LI.out); (with_reducible refine (copied_any A2 _ c2 ys w3 w1.heap.size hq rfl HLY.out).mono ?_); clear hq; rintro e w4 ⟨A4, c4, rfl, hc4, hm4, hown4, hk4⟩; have hciw4 := (hk4.cell (p := ⟨w1.heap.size, 0, none⟩) (Nat.lt_of_lt_of_le LI.out K3.out.size) (by simp)).trans hciw3; have hco1w4 := (hk4.cell (p := ⟨w1.heap.size + 1, 0, none⟩) (Nat.lt_of_lt_of_le LO1.out K3.out.size) (by simp)).trans hco1w3; have R4n := Lib.hid (Rd.of_own HYB.out hown4); have K4 := Lib.hid hk4; clear hown4 hk4))
  all_goals
    go_wp2
    go_ret3
    exact ⟨A3, c3, A4, c4, rfl, (R3n.out.only K4.out (by simp) (Nat.le_refl _)).more K4.out.size, R4n.out, (K2.out.drew.trans K3.out).trans K4.out⟩

set_option maxHeartbeats 800000 in
theorem ImRead8Prefixed_short (A : Option Addr) (n c : Nat) (xs : List Int) (w : World) (B : Nat) (h : Rd w B A xs) (hn : n = xs.length) (hb : xs.length ≤ 4194304) (hl : xs.length < 1) :
    Calls Try.prog 32 #[.slice A n c] w (ResBB w [] xs false) := by
  have H := Lib.hid (str_any A n c xs w B h hn (by omega))
  have hby := h.byt
  have HLY := Lib.hid (show xs.length ≤ 140737488355328 by omega)
  have HYB := Lib.hid hby
  have HLO := Lib.hid (show ([] : List Int).length ≤ 140737488355328 by simp)
  have HYO := Lib.hid Byt.nil
  have HL := Lib.hid hl
  clear hl
  have HY := Lib.hid hby
  have HB := Lib.hid hb
  clear h hn hb hby
  go_enter Try.func32, Try.ntmps32
  go_wp2_with fail
  refine H.out.mono ?_
  rintro e w1 ⟨A1, c1, rfl, hc1, hm1, hown, hk1⟩
  have R1 := Lib.hid (Rd.of_own HY.out hown)
  have K1 := Lib.hid hk1
  clear hown hk1 H
  go_wp2_with fail
  refine (SReadUint8LengthPrefixed_short w1.heap.size (w1.heap.size + 1) xs _ w1.heap.size ?s0 HL.out).mono ?_
  case s0 => exact ⟨Nat.le_refl _, A1, c1, (Var.new _ _ _).alloc _, hc1, hm1, (R1.out.alloc (Nat.le_refl _) _).alloc (by simp <;> omega) _⟩
  rintro e w2 ⟨rfl, hw2⟩
  have hk2 : Only [] w w2 := hw2 ▸ (K1.out.alloc _).alloc _
  have hs2 : Sl w2 w1.heap.size w1.heap.size 58 xs := hw2 ▸ ⟨Nat.le_refl _, A1, c1, (Var.new _ _ _).alloc _, hc1, hm1, (R1.out.alloc (Nat.le_refl _) _).alloc (by simp <;> omega) _⟩
  have hvo1 : Var w2 (w1.heap.size + 1) 58 (.slice none 0 0) := hw2 ▸ Var.new' _ _ _ _ (by simp)
  have ho2 := True.intro
  clear hw2
  have hrn := Rd.nil w2 w1.heap.size none
  have RO := Lib.hid hrn
  clear hrn
  obtain ⟨_, A2, c2, hvi, hc2, hm2, hr2⟩ := hs2
  have hci := hvi.cell
  have LI := Lib.hid hvi.lt
  have R2 := Lib.hid hr2
  have K2 := Lib.hid hk2
  have hco1 := hvo1.cell
  have LO1 := Lib.hid hvo1.lt
  clear hr2 hk2 hvi ho2 hvo1
  go_wp2_with fail
  go_region_held3 (fun w' => w'.cell? ⟨w1.heap.size, 0, none⟩ = some (.slice A2 xs.length c2) ∧ w'.cell? ⟨w1.heap.size + 1, 0, none⟩ = some (.slice none 0 0)) (first | exact ⟨hci, hco1⟩ | exact ⟨hciw3, hco1w3⟩ | exact ⟨hciw4, hco1w4⟩) (first | (go_at_call 43; have hq : Rd w2.drew w1.heap.size none [] := RO.out.drew; (with_reducible refine (copied_any none 0 0 [] w2.drew w1.heap.size hq rfl HLO.out).mono ?_); clear hq; rintro e w3 ⟨A3, c3, rfl, hc3, hm3, hown3, hk3⟩; have hciw3 := (hk3.cell (p := ⟨w1.heap.size, 0, none⟩) LI.out (by simp)).trans hci; have hco1w3 := (hk3.cell (p := ⟨w1.heap.size + 1, 0, none⟩) LO1.out (by simp)).trans hco1; have R3n := Lib.hid (Rd.of_own HYO.out hown3); have K3 := Lib.hid hk3; clear hown3 hk3) | (go_at_call 43; have hq : Rd w3 w1.heap.size A2 xs := R2.out.drew.only K3.out (by simp) (Nat.le_of_lt LI.out); (with_reducible refine (copied_any A2 _ c2 xs w3 w1.heap.size hq rfl HLY.out).mono ?_); clear hq; rintro e w4 ⟨A4, c4, rfl, hc4, hm4, hown4, hk4⟩; have hciw4 := (hk4.cell (p := ⟨w1.heap.size, 0, none⟩) (Nat.lt_of_lt_of_le LI.out K3.out.size) (by simp)).trans hciw3; have hco1w4 := (hk4.cell (p := ⟨w1.heap.size + 1, 0, none⟩) (Nat.lt_of_lt_of_le LO1.out K3.out.size) (by simp)).trans hco1w3; have R4n := Lib.hid (Rd.of_own HYB.out hown4); have K4 := Lib.hid hk4; clear hown4 hk4))
  all_goals
    go_wp2
    go_ret3
    exact ⟨A3, c3, A4, c4, rfl, (R3n.out.only K4.out (by simp) (Nat.le_refl _)).more K4.out.size, R4n.out, (K2.out.drew.trans K3.out).trans K4.out⟩

set_option maxHeartbeats 800000 in
theorem ImRead16Prefixed_ok (A : Option Addr) (n c : Nat) (xs : List Int) (w : World) (B : Nat) (h : Rd w B A xs) (hn : n = xs.length) (hb : xs.length ≤ 4194304) (hl : 2 ≤ xs.length) (hf : lpSize xs 2 ≤ xs.length - 2) :
    Calls Try.prog 28 #[.slice A n c] w (ResBB w ((xs.drop 2).take (lpSize xs 2)) (xs.drop (2 + lpSize xs 2)) true) := by
  have H := Lib.hid (str_any A n c xs w B h hn (by omega))
  have hby := h.byt
  obtain ⟨zs, hzs⟩ : ∃ zs, (xs.drop 2).take (lpSize xs 2) = zs := ⟨_, rfl⟩
  rw [hzs]
  have HYO := Lib.hid (hzs ▸ (hby.drop _).take _ : Byt zs)
  have HLO := Lib.hid (show zs.length ≤ 140737488355328 by rw [← hzs]; simp; omega)
  have Ezs := Lib.hid hzs
  obtain ⟨ys, hys⟩ : ∃ ys, xs.drop (2 + lpSize xs 2) = ys := ⟨_, rfl⟩
  rw [hys]
  have HYB := Lib.hid (hys ▸ hby.drop _ : Byt ys)
  have HLY := Lib.hid (show ys.length ≤ 140737488355328 by rw [← hys]; simp; omega)
  have Eys := Lib.hid hys
  clear hzs
  clear hys
  have HL := Lib.hid hl
  have HF := Lib.hid hf
  clear hl hf
  have HY := Lib.hid hby
  have HB := Lib.hid hb
  clear h hn hb hby
  go_enter Try.func28, Try.ntmps28
  go_wp2_with fail
  refine H.out.mono ?_
  rintro e w1 ⟨A1, c1, rfl, hc1, hm1, hown, hk1⟩
  have R1 := Lib.hid (Rd.of_own HY.out hown)
  have K1 := Lib.hid hk1
  clear hown hk1 H
  go_wp2_with fail
  refine (SReadUint16LengthPrefixed_ok w1.heap.size (w1.heap.size + 1) (.slice none 0 0) xs _ w1.heap.size ?s0 ?s1 (by omega) (by omega) HL.out).mono ?_
  case s0 => exact ⟨Nat.le_refl _, A1, c1, (Var.new _ _ _).alloc _, hc1, hm1, (R1.out.alloc (Nat.le_refl _) _).alloc (by simp <;> omega) _⟩
  case s1 => exact Var.new' _ _ _ _ (by simp)
  rintro e w2 ⟨⟨rfl, ho2⟩, hyes, _⟩
  rw [decide_eq_true HF.out]
  obtain ⟨hso, hs2⟩ := hyes HF.out
  clear hyes
  have hk2 : Only [] w w2 := ((K1.out.alloc _).alloc _).then ho2 (by have := K1.out.size; simp; omega)
  rw [Eys.out] at hs2
  rw [Ezs.out] at hso
  obtain ⟨_, Ao, co, hvo, hco, hmo, hro⟩ := hso
  have RO := Lib.hid hro
  clear hro
  obtain ⟨_, A2, c2, hvi, hc2, hm2, hr2⟩ := hs2
  have hci := hvi.cell
  have LI := Lib.hid hvi.lt
  have R2 := Lib.hid hr2
  have K2 := Lib.hid hk2
  have hco1 := hvo.cell
  have LO1 := Lib.hid hvo.lt
  clear hr2 hk2 hvi ho2 hvo
  go_wp2_with fail
  go_region_held3 (fun w' => w'.cell? ⟨w1.heap.size, 0, none⟩ = some (.slice A2 ys.length c2) ∧ w'.cell? ⟨w1.heap.size + 1, 0, none⟩ = some (.slice Ao zs.length co)) (first | exact ⟨hci, hco1⟩ | exact ⟨hciw3, hco1w3⟩ | exact ⟨hciw4, hco1w4⟩) (first | (go_at_call 43; have hq : Rd w2.drew w1.heap.size Ao zs := RO.out.drew; (with_reducible refine (copied_any Ao _ co zs w2.drew w1.heap.size hq rfl HLO.out).mono ?_); clear hq; rintro e w3 ⟨A3, c3, rfl, hc3, hm3, hown3, hk3⟩; have hciw3 := (hk3.cell (p := ⟨w1.heap.size, 0, none⟩) LI.out (by simp)).trans hci; have hco1w3 := (hk3.cell (p := ⟨w1.heap.size + 1, 0, none⟩) LO1.out (by simp)).trans hco1; have R3n := Lib.hid (Rd.of_own HYO.out hown3); have K3 := Lib.hid hk3; clear hown3 hk3) | (go_at_call 43; have hq : Rd w3 w1.heap.size A2 ys := R2.out.drew.only K3.out (by simp) (Nat.le_of_lt LI.out); (with_reducible refine (copied_any A2 _ c2 ys w3 w1.heap.size hq rfl HLY.out).mono ?_); clear hq; rintro e w4 ⟨A4, c4, rfl, hc4, hm4, hown4, hk4⟩; have hciw4 := (hk4.cell (p := ⟨w1.heap.size, 0, none⟩) (Nat.lt_of_lt_of_le LI.out K3.out.size) (by simp)).trans hciw3; have hco1w4 := (hk4.cell (p := ⟨w1.heap.size + 1, 0, none⟩) (Nat.lt_of_lt_of_le LO1.out K3.out.size) (by simp)).trans hco1w3; have R4n := Lib.hid (Rd.of_own HYB.out hown4); have K4 := Lib.hid hk4; clear hown4 hk4))
  all_goals
    go_wp2
    go_ret3
    exact ⟨A3, c3, A4, c4, rfl, (R3n.out.only K4.out (by simp) (Nat.le_refl _)).more K4.out.size, R4n.out, (K2.out.drew.trans K3.out).trans K4.out⟩

set_option maxHeartbeats 800000 in
theorem ImRead16Prefixed_long (A : Option Addr) (n c : Nat) (xs : List Int) (w : World) (B : Nat) (h : Rd w B A xs) (hn : n = xs.length) (hb : xs.length ≤ 4194304) (hl : 2 ≤ xs.length) (hf : ¬ lpSize xs 2 ≤ xs.length - 2) :
    Calls Try.prog 28 #[.slice A n c] w (ResBB w [] (xs.drop 2) false) := by
  have H := Lib.hid (str_any A n c xs w B h hn (by omega))
  have hby := h.byt
  obtain ⟨ys, hys⟩ : ∃ ys, xs.drop 2 = ys := ⟨_, rfl⟩
  rw [hys]
  have HYB := Lib.hid (hys ▸ hby.drop _ : Byt ys)
  have HLY := Lib.hid (show ys.length ≤ 140737488355328 by rw [← hys]; simp; omega)
  have Eys := Lib.hid hys
  clear hys
  have HLO := Lib.hid (show ([] : List Int).length ≤ 140737488355328 by simp)
  have HYO := Lib.hid Byt.nil
  have HL := Lib.hid hl
  have HF := Lib.hid hf
  clear hl hf
  have HY := Lib.hid hby
  have HB := Lib.hid hb
  clear h hn hb hby
  go_enter Try.func28, Try.ntmps28
  go_wp2_with fail
  refine H.out.mono ?_
  rintro e w1 ⟨A1, c1, rfl, hc1, hm1, hown, hk1⟩
  have R1 := Lib.hid (Rd.of_own HY.out hown)
  have K1 := Lib.hid hk1
  clear hown hk1 H
  go_wp2_with fail
  refine (SReadUint16LengthPrefixed_ok w1.heap.size (w1.heap.size + 1) (.slice none 0 0) xs _ w1.heap.size ?s0 ?s1 (by omega) (by omega) HL.out).mono ?_
  case s0 => exact ⟨Nat.le_refl _, A1, c1, (Var.new _ _ _).alloc _, hc1, hm1, (R1.out.alloc (Nat.le_refl _) _).alloc (by simp <;> omega) _⟩
  case s1 => exact Var.new' _ _ _ _ (by simp)
  rintro e w2 ⟨⟨rfl, ho2⟩, _, hno⟩
  rw [decide_eq_false HF.out]
  obtain ⟨hvo, hs2⟩ := hno HF.out
  clear hno
  have hk2 : Only [] w w2 := ((K1.out.alloc _).alloc _).then ho2 (by have := K1.out.size; simp; omega)
  rw [Eys.out] at hs2
  have hrn := Rd.nil w2 w1.heap.size none
  have RO := Lib.hid hrn
  clear hrn
  obtain ⟨_, A2, c2, hvi, hc2, hm2, hr2⟩ := hs2
  have hci := hvi.cell
  have LI := Lib.hid hvi.lt
  have R2 := Lib.hid hr2
  have K2 := Lib.hid hk2
  have hco1 := hvo.cell
  have LO1 := Lib.hid hvo.lt
  clear hr2 hk2 hvi ho2 hvo
  go_wp2_with fail
  go_region_held3 (fun w' => w'.cell? ⟨w1.heap.size, 0, none⟩ = some (.slice A2 ys.length c2) ∧ w'.cell? ⟨w1.heap.size + 1, 0, none⟩ = some (.slice none 0 0)) (first | exact ⟨hci, hco1⟩ | exact ⟨hciw3, hco1w3⟩ | exact ⟨hciw4, hco1w4⟩) (first | (go_at_call 43; have hq : Rd w2.drew w1.heap.size none [] := RO.out.drew; (with_reducible refine (copied_any none 0 0 [] w2.drew w1.heap.size hq rfl HLO.out).mono ?_); clear hq; rintro e w3 ⟨A3, c3, rfl, hc3, hm3, hown3, hk3⟩; have hciw3 := (hk3.cell (p := ⟨w1.heap.size, 0, none⟩) LI.out (by simp)).trans hci; have hco1w3 := (hk3.cell (p := ⟨w1.heap.size + 1, 0, none⟩) LO1.out (by simp)).trans hco1; have R3n := Lib.hid (Rd.of_own HYO.out hown3); have K3 := Lib.hid hk3; clear hown3 hk3) | (go_at_call 43; have hq : Rd w3 w1.heap.size A2 ys := R2.out.drew.only K3.out (by simp) (Nat.le_of_lt LI.out); (with_reducible refine (copied_any A2 _ c2 ys w3 w1.heap.size hq rfl HLY.out).mono ?_); clear hq; rintro e w4 ⟨A4, c4, rfl, hc4, hm4, hown4, hk4⟩; have hciw4 := (hk4.cell (p := ⟨w1.heap.size, 0, none⟩) (Nat.lt_of_lt_of_le LI.out K3.out.size) (by simp)).trans hciw3; have hco1w4 := (hk4.cell (p := ⟨w1.heap.size + 1, 0, none⟩) (Nat.lt_of_lt_of_le LO1.out K3.out.size) (by simp)).trans hco1w3; have R4n := Lib.hid (Rd.of_own HYB.out hown4); have K4 := Lib.hid hk4; clear hown4 hk4))
  all_goals
    go_wp2
    go_ret3
    exact ⟨A3, c3, A4, c4, rfl, (R3n.out.only K4.out (by simp) (Nat.le_refl _)).more K4.out.size, R4n.out, (K2.out.drew.trans K3.out).trans K4.out⟩

set_option maxHeartbeats 800000 in
theorem ImRead16Prefixed_short (A : Option Addr) (n c : Nat) (xs : List Int) (w : World) (B : Nat) (h : Rd w B A xs) (hn : n = xs.length) (hb : xs.length ≤ 4194304) (hl : xs.length < 2) :
    Calls Try.prog 28 #[.slice A n c] w (ResBB w [] xs false) := by
  have H := Lib.hid (str_any A n c xs w B h hn (by omega))
  have hby := h.byt
  have HLY := Lib.hid (show xs.length ≤ 140737488355328 by omega)
  have HYB := Lib.hid hby
  have HLO := Lib.hid (show ([] : List Int).length ≤ 140737488355328 by simp)
  have HYO := Lib.hid Byt.nil
  have HL := Lib.hid hl
  clear hl
  have HY := Lib.hid hby
  have HB := Lib.hid hb
  clear h hn hb hby
  go_enter Try.func28, Try.ntmps28
  go_wp2_with fail
  refine H.out.mono ?_
  rintro e w1 ⟨A1, c1, rfl, hc1, hm1, hown, hk1⟩
  have R1 := Lib.hid (Rd.of_own HY.out hown)
  have K1 := Lib.hid hk1
  clear hown hk1 H
  go_wp2_with fail
  refine (SReadUint16LengthPrefixed_short w1.heap.size (w1.heap.size + 1) xs _ w1.heap.size ?s0 HL.out).mono ?_
  case s0 => exact ⟨Nat.le_refl _, A1, c1, (Var.new _ _ _).alloc _, hc1, hm1, (R1.out.alloc (Nat.le_refl _) _).alloc (by simp <;> omega) _⟩
  rintro e w2 ⟨rfl, hw2⟩
  have hk2 : Only [] w w2 := hw2 ▸ (K1.out.alloc _).alloc _
  have hs2 : Sl w2 w1.heap.size w1.heap.size 58 xs := hw2 ▸ ⟨Nat.le_refl _, A1, c1, (Var.new _ _ _).alloc _, hc1, hm1, (R1.out.alloc (Nat.le_refl _) _).alloc (by simp <;> omega) _⟩
  have hvo1 : Var w2 (w1.heap.size + 1) 58 (.slice none 0 0) := hw2 ▸ Var.new' _ _ _ _ (by simp)
  have ho2 := True.intro
  clear hw2
  have hrn := Rd.nil w2 w1.heap.size none
  have RO := Lib.hid hrn
  clear hrn
  obtain ⟨_, A2, c2, hvi, hc2, hm2, hr2⟩ := hs2
  have hci := hvi.cell
  have LI := Lib.hid hvi.lt
  have R2 := Lib.hid hr2
  have K2 := Lib.hid hk2
  have hco1 := hvo1.cell
  have LO1 := Lib.hid hvo1.lt
  clear hr2 hk2 hvi ho2 hvo1
  go_wp2_with fail
  go_region_held3 (fun w' => w'.cell? ⟨w1.heap.size, 0, none⟩ = some (.slice A2 xs.length c2) ∧ w'.cell? ⟨w1.heap.size + 1, 0, none⟩ = some (.slice none 0 0)) (first | exact ⟨hci, hco1⟩ | exact ⟨hciw3, hco1w3⟩ | exact ⟨hciw4, hco1w4⟩) (first | (go_at_call 43; have hq : Rd w2.drew w1.heap.size none [] := RO.out.drew; (with_reducible refine (copied_any none 0 0 [] w2.drew w1.heap.size hq rfl HLO.out).mono ?_); clear hq; rintro e w3 ⟨A3, c3, rfl, hc3, hm3, hown3, hk3⟩; have hciw3 := (hk3.cell (p := ⟨w1.heap.size, 0, none⟩) LI.out (by simp)).trans hci; have hco1w3 := (hk3.cell (p := ⟨w1.heap.size + 1, 0, none⟩) LO1.out (by simp)).trans hco1; have R3n := Lib.hid (Rd.of_own HYO.out hown3); have K3 := Lib.hid hk3; clear hown3 hk3) | (go_at_call 43; have hq : Rd w3 w1.heap.size A2 xs := R2.out.drew.only K3.out (by simp) (Nat.le_of_lt LI.out); (with_reducible refine (copied_any A2 _ c2 xs w3 w1.heap.size hq rfl HLY.out).mono ?_); clear hq; rintro e w4 ⟨A4, c4, rfl, hc4, hm4, hown4, hk4⟩; have hciw4 := (hk4.cell (p := ⟨w1.heap.size, 0, none⟩) (Nat.lt_of_lt_of_le LI.out K3.out.size) (by simp)).trans hciw3; have hco1w4 := (hk4.cell (p := ⟨w1.heap.size + 1, 0, none⟩) (Nat.lt_of_lt_of_le LO1.out K3.out.size) (by simp)).trans hco1w3; have R4n := Lib.hid (Rd.of_own HYB.out hown4); have K4 := Lib.hid hk4; clear hown4 hk4))
  all_goals
    go_wp2
    go_ret3
    exact ⟨A3, c3, A4, c4, rfl, (R3n.out.only K4.out (by simp) (Nat.le_refl _)).more K4.out.size, R4n.out, (K2.out.drew.trans K3.out).trans K4.out⟩

set_option maxHeartbeats 800000 in
theorem ImRead24Prefixed_ok (A : Option Addr) (n c : Nat) (xs : List Int) (w : World) (B : Nat) (h : Rd w B A xs) (hn : n = xs.length) (hb : xs.length ≤ 4194304) (hl : 3 ≤ xs.length) (hf : lpSize xs 3 ≤ xs.length - 3) :
    Calls Try.prog 31 #[.slice A n c] w (ResBB w ((xs.drop 3).take (lpSize xs 3)) (xs.drop (3 + lpSize xs 3)) true) := by
  have H := Lib.hid (str_any A n c xs w B h hn (by omega))
  have hby := h.byt
  obtain ⟨zs, hzs⟩ : ∃ zs, (xs.drop 3).take (lpSize xs 3) = zs := ⟨_, rfl⟩
  rw [hzs]
  have HYO := Lib.hid (hzs ▸ (hby.drop _).take _ : Byt zs)
  have HLO := Lib.hid (show zs.length ≤ 140737488355328 by rw [← hzs]; simp; omega)
  have Ezs := Lib.hid hzs
  obtain ⟨ys, hys⟩ : ∃ ys, xs.drop (3 + lpSize xs 3) = ys := ⟨_, rfl⟩
  rw [hys]
  have HYB := Lib.hid (hys ▸ hby.drop _ : Byt ys)
  have HLY := Lib.hid (show ys.length ≤ 140737488355328 by rw [← hys]; simp; omega)
  have Eys := Lib.hid hys
  clear hzs
  clear hys
  have HL := Lib.hid hl
  have HF := Lib.hid hf
  clear hl hf
  have HY := Lib.hid hby
  have HB := Lib.hid hb
  clear h hn hb hby
  go_enter Try.func31, Try.ntmps31
  go_wp2_with fail
  refine H.out.mono ?_
  rintro e w1 ⟨A1, c1, rfl, hc1, hm1, hown, hk1⟩
  have R1 := Lib.hid (Rd.of_own HY.out hown)
  have K1 := Lib.hid hk1
  clear hown hk1 H
  go_wp2_with fail
  refine (SReadUint24LengthPrefixed_ok w1.heap.size (w1.heap.size + 1) (.slice none 0 0) xs _ w1.heap.size ?s0 ?s1 (by omega) (by omega) HL.out).mono ?_
  case s0 => exact ⟨Nat.le_refl _, A1, c1, (Var.new _ _ _).alloc _, hc1, hm1, (R1.out.alloc (Nat.le_refl _) _).alloc (by simp <;> omega) _⟩
  case s1 => exact Var.new' _ _ _ _ (by simp)
  rintro e w2 ⟨⟨rfl, ho2⟩, hyes, _⟩
  rw [decide_eq_true HF.out]
  obtain ⟨hso, hs2⟩ := hyes HF.out
  clear hyes
  have hk2 : Only [] w w2 := ((K1.out.alloc _).alloc _).then ho2 (by have := K1.out.size; simp; omega)
  rw [Eys.out] at hs2
  rw [Ezs.out] at hso
  obtain ⟨_, Ao, co, hvo, hco, hmo, hro⟩ := hso
  have RO := Lib.hid hro
  clear hro
  obtain ⟨_, A2, c2, hvi, hc2, hm2, hr2⟩ := hs2
  have hci := hvi.cell
  have LI := Lib.hid hvi.lt
  have R2 := Lib.hid hr2
  have K2 := Lib.hid hk2
  have hco1 := hvo.cell
  have LO1 := Lib.hid hvo.lt
  clear hr2 hk2 hvi ho2 hvo
  go_wp2_with fail
  go_region_held3 (fun w' => w'.cell? ⟨w1.heap.size, 0, none⟩ = some (.slice A2 ys.length c2) ∧ w'.cell? ⟨w1.heap.size + 1, 0, none⟩ = some (.slice Ao zs.length co)) (first | exact ⟨hci, hco1⟩ | exact ⟨hciw3, hco1w3⟩ | exact ⟨hciw4, hco1w4⟩) (first | (go_at_call 43; have hq : Rd w2.drew w1.heap.size Ao zs := RO.out.drew; (with_reducible refine (copied_any Ao _ co zs w2.drew w1.heap.size hq rfl HLO.out).mono ?_); clear hq; rintro e w3 ⟨A3, c3, rfl, hc3, hm3, hown3, hk3⟩; have hciw3 := (hk3.cell (p := ⟨w1.heap.size, 0, none⟩) LI.out (by simp)).trans hci; have hco1w3 := (hk3.cell (p := ⟨w1.heap.size + 1, 0, none⟩) LO1.out (by simp)).trans hco1; have R3n := Lib.hid (Rd.of_own HYO.out hown3); have K3 := Lib.hid hk3; clear hown3 hk3) | (go_at_call 43; have hq : Rd w3 w1.heap.size A2 ys := R2.out.drew.only K3.out (by simp) (Nat.le_of_lt LI.out); (with_reducible refine (copied_any A2 _ c2 ys w3 w1.heap.size hq rfl HLY.out).mono ?_); clear hq; rintro e w4 ⟨A4, c4, rfl, hc4, hm4, hown4, hk4⟩; have hciw4 := (hk4.cell (p := ⟨w1.heap.size, 0, none⟩) (Nat.lt_of_lt_of_le LI.out K3.out.size) (by simp)).trans hciw3; have hco1w4 := (hk4.cell (p := ⟨w1.heap.size + 1, 0, none⟩) (Nat.lt_of_lt_of_le LO1.out K3.out.size) (by simp)).trans hco1w3; have R4n := Lib.hid (Rd.of_own HYB.out hown4); have K4 := Lib.hid hk4; clear hown4 hk4))
  all_goals
    go_wp2
    go_ret3
    exact ⟨A3, c3, A4, c4, rfl, (R3n.out.only K4.out (by simp) (Nat.le_refl _)).more K4.out.size, R4n.out, (K2.out.drew.trans K3.out).trans K4.out⟩

set_option maxHeartbeats 800000 in
theorem ImRead24Prefixed_long (A : Option Addr) (n c : Nat) (xs : List Int) (w : World) (B : Nat) (h : Rd w B A xs) (hn : n = xs.length) (hb : xs.length ≤ 4194304) (hl : 3 ≤ xs.length) (hf : ¬ lpSize xs 3 ≤ xs.length - 3) :
    Calls Try.prog 31 #[.slice A n c] w (ResBB w [] (xs.drop 3) false) := by
  have H := Lib.hid (str_any A n c xs w B h hn (by omega))
  have hby := h.byt
  obtain ⟨ys, hys⟩ : ∃ ys, xs.drop 3 = ys := ⟨_, rfl⟩
  rw [hys]
  have HYB := Lib.hid (hys ▸ hby.drop _ : Byt ys)
  have HLY := Lib.hid (show ys.length ≤ 140737488355328 by rw [← hys]; simp; omega)
  have Eys := Lib.hid hys
  clear hys
  have HLO := Lib.hid (show ([] : List Int).length ≤ 140737488355328 by simp)
  have HYO := Lib.hid Byt.nil
  have HL := Lib.hid hl
  have HF := Lib.hid hf
  clear hl hf
  have HY := Lib.hid hby
  have HB := Lib.hid hb
  clear h hn hb hby
  go_enter Try.func31, Try.ntmps31
  go_wp2_with fail
  refine H.out.mono ?_
  rintro e w1 ⟨A1, c1, rfl, hc1, hm1, hown, hk1⟩
  have R1 := Lib.hid (Rd.of_own HY.out hown)
  have K1 := Lib.hid hk1
  clear hown hk1 H
  go_wp2_with fail
  refine (SReadUint24LengthPrefixed_ok w1.heap.size (w1.heap.size + 1) (.slice none 0 0) xs _ w1.heap.size ?s0 ?s1 (by omega) (by omega) HL.out).mono ?_
  case s0 => exact ⟨Nat.le_refl _, A1, c1, (Var.new _ _ _).alloc _, hc1, hm1, (R1.out.alloc (Nat.le_refl _) _).alloc (by simp <;> omega) _⟩
  case s1 => exact Var.new' _ _ _ _ (by simp)
  rintro e w2 ⟨⟨rfl, ho2⟩, _, hno⟩
  rw [decide_eq_false HF.out]
  obtain ⟨hvo, hs2⟩ := hno HF.out
  clear hno
  have hk2 : Only [] w w2 := ((K1.out.alloc _).alloc _).then ho2 (by have := K1.out.size; simp; omega)
  rw [Eys.out] at hs2
  have hrn := Rd.nil w2 w1.heap.size none
  have RO := Lib.hid hrn
  clear hrn
  obtain ⟨_, A2, c2, hvi, hc2, hm2, hr2⟩ := hs2
  have hci := hvi.cell
  have LI := Lib.hid hvi.lt
  have R2 := Lib.hid hr2
  have K2 := Lib.hid hk2
  have hco1 := hvo.cell
  have LO1 := Lib.hid hvo.lt
  clear hr2 hk2 hvi ho2 hvo
  go_wp2_with fail
  go_region_held3 (fun w' => w'.cell? ⟨w1.heap.size, 0, none⟩ = some (.slice A2 ys.length c2) ∧ w'.cell? ⟨w1.heap.size + 1, 0, none⟩ = some (.slice none 0 0)) (first | exact ⟨hci, hco1⟩ | exact ⟨hciw3, hco1w3⟩ | exact ⟨hciw4, hco1w4⟩) (first | (go_at_call 43; have hq : Rd w2.drew w1.heap.size none [] := RO.out.drew; (with_reducible refine (copied_any none 0 0 [] w2.drew w1.heap.size hq rfl HLO.out).mono ?_); clear hq; rintro e w3 ⟨A3, c3, rfl, hc3, hm3, hown3, hk3⟩; have hciw3 := (hk3.cell (p := ⟨w1.heap.size, 0, none⟩) LI.out (by simp)).trans hci; have hco1w3 := (hk3.cell (p := ⟨w1.heap.size + 1, 0, none⟩) LO1.out (by simp)).trans hco1; have R3n := Lib.hid (Rd.of_own HYO.out hown3); have K3 := Lib.hid hk3; clear hown3 hk3) | (go_at_call 43; have hq : Rd w3 w1.heap.size A2 ys := R2.out.drew.only K3.out (by simp) (Nat.le_of_lt LI.out); (with_reducible refine (copied_any A2 _ c2 ys w3 w1.heap.size hq rfl HLY.out).mono ?_); clear hq; rintro e w4 ⟨A4, c4, rfl, hc4, hm4, hown4, hk4⟩; have hciw4 := (hk4.cell (p := ⟨w1.heap.size, 0, none⟩) (Nat.lt_of_lt_of_le LI.out K3.out.size) (by simp)).trans hciw3; have hco1w4 := (hk4.cell (p := ⟨w1.heap.size + 1, 0, none⟩) (Nat.lt_of_lt_of_le LO1.out K3.out.size) (by simp)).trans hco1w3; have R4n := Lib.hid (Rd.of_own HYB.out hown4); have K4 := Lib.hid hk4; clear hown4 hk4))
  all_goals
    go_wp2
    go_ret3
    exact ⟨A3, c3, A4, c4, rfl, (R3n.out.only K4.out (by simp) (Nat.le_refl _)).more K4.out.size, R4n.out, (K2.out.drew.trans K3.out).trans K4.out⟩

set_option maxHeartbeats 800000 in
theorem ImRead24Prefixed_short (A : Option Addr) (n c : Nat) (xs : List Int) (w : World) (B : Nat) (h : Rd w B A xs) (hn : n = xs.length) (hb : xs.length ≤ 4194304) (hl : xs.length < 3) :
    Calls Try.prog 31 #[.slice A n c] w (ResBB w [] xs false) := by
  have H := Lib.hid (str_any A n c xs w B h hn (by omega))
  have hby := h.byt
  have HLY := Lib.hid (show xs.length ≤ 140737488355328 by omega)
  have HYB := Lib.hid hby
  have HLO := Lib.hid (show ([] : List Int).length ≤ 140737488355328 by simp)
  have HYO := Lib.hid Byt.nil
  have HL := Lib.hid hl
  clear hl
  have HY := Lib.hid hby
  have HB := Lib.hid hb
  clear h hn hb hby
  go_enter Try.func31, Try.ntmps31
  go_wp2_with fail
  refine H.out.mono ?_
  rintro e w1 ⟨A1, c1, rfl, hc1, hm1, hown, hk1⟩
  have R1 := Lib.hid (Rd.of_own HY.out hown)
  have K1 := Lib.hid hk1
  clear hown hk1 H
  go_wp2_with fail
  refine (SReadUint24LengthPrefixed_short w1.heap.size (w1.heap.size + 1) xs _ w1.heap.size ?s0 HL.out).mono ?_
  case s0 => exact ⟨Nat.le_refl _, A1, c1, (Var.new _ _ _).alloc _, hc1, hm1, (R1.out.alloc (Nat.le_refl _) _).alloc (by simp <;> omega) _⟩
  rintro e w2 ⟨rfl, hw2⟩
  have hk2 : Only [] w w2 := hw2 ▸ (K1.out.alloc _).alloc _
  have hs2 : Sl w2 w1.heap.size w1.heap.size 58 xs := hw2 ▸ ⟨Nat.le_refl _, A1, c1, (Var.new _ _ _).alloc _, hc1, hm1, (R1.out.alloc (Nat.le_refl _) _).alloc (by simp <;> omega) _⟩
  have hvo1 : Var w2 (w1.heap.size + 1) 58 (.slice none 0 0) := hw2 ▸ Var.new' _ _ _ _ (by simp)
  have ho2 := True.intro
  clear hw2
  have hrn := Rd.nil w2 w1.heap.size none
  have RO := Lib.hid hrn
  clear hrn
  obtain ⟨_, A2, c2, hvi, hc2, hm2, hr2⟩ := hs2
  have hci := hvi.cell
  have LI := Lib.hid hvi.lt
  have R2 := Lib.hid hr2
  have K2 := Lib.hid hk2
  have hco1 := hvo1.cell
  have LO1 := Lib.hid hvo1.lt
  clear hr2 hk2 hvi ho2 hvo1
  go_wp2_with fail
  go_region_held3 (fun w' => w'.cell? ⟨w1.heap.size, 0, none⟩ = some (.slice A2 xs.length c2) ∧ w'.cell? ⟨w1.heap.size + 1, 0, none⟩ = some (.slice none 0 0)) (first | exact ⟨hci, hco1⟩ | exact ⟨hciw3, hco1w3⟩ | exact ⟨hciw4, hco1w4⟩) (first | (go_at_call 43; have hq : Rd w2.drew w1.heap.size none [] := RO.out.drew; (with_reducible refine (copied_any none 0 0 [] w2.drew w1.heap.size hq rfl HLO.out).mono ?_); clear hq; rintro e w3 ⟨A3, c3, rfl, hc3, hm3, hown3, hk3⟩; have hciw3 := (hk3.cell (p := ⟨w1.heap.size, 0, none⟩) LI.out (by simp)).trans hci; have hco1w3 := (hk3.cell (p := ⟨w1.heap.size + 1, 0, none⟩) LO1.out (by simp)).trans hco1; have R3n := Lib.hid (Rd.of_own HYO.out hown3); have K3 := Lib.hid hk3; clear hown3 hk3) | (go_at_call 43; have hq : Rd w3 w1.heap.size A2 xs := R2.out.drew.only K3.out (by simp) (Nat.le_of_lt LI.out); (with_reducible refine (copied_any A2 _ c2 xs w3 w1.heap.size hq rfl HLY.out).mono ?_); clear hq; rintro e w4 ⟨A4, c4, rfl, hc4, hm4, hown4, hk4⟩; have hciw4 := (hk4.cell (p := ⟨w1.heap.size, 0, none⟩) (Nat.lt_of_lt_of_le LI.out K3.out.size) (by simp)).trans hciw3; have hco1w4 := (hk4.cell (p := ⟨w1.heap.size + 1, 0, none⟩) (Nat.lt_of_lt_of_le LO1.out K3.out.size) (by simp)).trans hco1w3; have R4n := Lib.hid (Rd.of_own HYB.out hown4); have K4 := Lib.hid hk4; clear hown4 hk4))
  all_goals
    go_wp2
    go_ret3
    exact ⟨A3, c3, A4, c4, rfl, (R3n.out.only K4.out (by simp) (Nat.le_refl _)).more K4.out.size, R4n.out, (K2.out.drew.trans K3.out).trans K4.out⟩
end Go.Proofs.Ytmhinadofihkjaa
