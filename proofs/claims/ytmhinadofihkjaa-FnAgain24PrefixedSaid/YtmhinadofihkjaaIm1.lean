/- The thin package's readers of numbers and bytes, by the package's own: contracts. -/
import Derived.Test.YtmhinadofihkjaaRd1
import Derived.Deep.RegionHeld3
namespace Go.Proofs.Ytmhinadofihkjaa
open Go.RowKit

theorem Var.new' (w : World) (b : Nat) (t : TypeId) (v : Value) (h : b = w.heap.size) : Var (w.alloc (.cells #[v] t)) b t v := by subst h; exact Var.new w t v
/-- What a number reader of the thin package hands back: a value, what is left, whether it went well. -/
def Res3 (w : World) (v : Value) (ys : List Int) (ok : Bool) (e : Ending) (w' : World) : Prop :=
  ∃ A c, e = .returned (.tuple #[v, .slice A ys.length c, .bool ok]) ∧ Rd w' w'.heap.size A ys ∧ Only [] w w'



set_option maxHeartbeats 800000 in
theorem ImReadUint16_ok (A : Option Addr) (n c : Nat) (xs : List Int) (w : World) (B : Nat) (h : Rd w B A xs) (hn : n = xs.length) (hb : xs.length ≤ 4194304) (hl : 2 ≤ xs.length) :
    Calls Try.prog 22 #[.slice A n c] w (Res3 w (.int .i64 (beN (xs.take 2))) (xs.drop 2) true) := by
  have H := Lib.hid (str_any A n c xs w B h hn (by omega))
  have hby := h.byt
  obtain ⟨v, hv0, hv1, hvd⟩ : ∃ v, 0 ≤ v ∧ v ≤ 65535 ∧ beN (xs.take 2) = v := by
    have := beN_take_bd xs hby 2 2 (Nat.le_refl _)
    exact ⟨_, this.1, by omega, rfl⟩
  rw [hvd]
  obtain ⟨ys, hy⟩ : ∃ ys, xs.drop 2 = ys := ⟨_, rfl⟩
  rw [hy]
  have HV := Lib.hid hvd
  have HYS := Lib.hid hy
  have HL := Lib.hid hl
  have HYB := Lib.hid (hy ▸ hby.drop 2 : Byt ys)
  have HLY := Lib.hid (show ys.length ≤ 140737488355328 by rw [← hy]; simp; omega)
  clear hl hvd hy
  have hw : IntKind.i64.wrap v = v := IntWalk.i64_in _ (by omega)
  have HY := Lib.hid hby
  have HB := Lib.hid hb
  clear h hn hb hby
  go_enter Try.func22, Try.ntmps22
  go_wp2_with fail
  refine H.out.mono ?_
  rintro e w1 ⟨A1, c1, rfl, hc1, hm1, hown, hk1⟩
  have R1 := Lib.hid (Rd.of_own HY.out hown)
  have K1 := Lib.hid hk1
  clear hown hk1 H
  go_wp2_with fail
  refine (SReadUint16_ok w1.heap.size (w1.heap.size + 1) (.int .u16 0) xs _ w1.heap.size ?s0 ?s1 (by omega) (by omega) HL.out).mono ?_
  case s0 => exact ⟨Nat.le_refl _, A1, c1, (Var.new _ _ _).alloc _, hc1, hm1, (R1.out.alloc (Nat.le_refl _) _).alloc (by simp <;> omega) _⟩
  case s1 => exact Var.new' _ _ _ _ (by simp)
  rintro e w2 ⟨rfl, hvo, hs2, ho2⟩
  have hk2 : Only [] w w2 := ((K1.out.alloc _).alloc _).then ho2 (by have := K1.out.size; simp; omega)
  rw [HV.out] at hvo
  rw [HYS.out] at hs2
  obtain ⟨_, A2, c2, hvi, hc2, hm2, hr2⟩ := hs2
  have hci := hvi.cell
  have LI := Lib.hid hvi.lt
  have R2 := Lib.hid hr2
  have K2 := Lib.hid hk2
  have hco1 := hvo.cell
  have LO1 := Lib.hid hvo.lt
  clear hr2 hk2 hvi ho2 hvo
  go_wp2_with fail
  go_region_held3 (fun w' => w'.cell? ⟨w1.heap.size, 0, none⟩ = some (.slice A2 ys.length c2) ∧ w'.cell? ⟨w1.heap.size + 1, 0, none⟩ = some (.int .u16 v)) (first | exact ⟨hci, hco1⟩ | exact ⟨hciw3, hco1w3⟩) (first | (go_at_call 43; have hq : Rd w2.drew w1.heap.size A2 ys := R2.out.drew; (with_reducible refine (copied_any A2 _ c2 ys w2.drew w1.heap.size hq rfl HLY.out).mono ?_); clear hq; rintro e w3 ⟨A3, c3, rfl, hc3, hm3, hown3, hk3⟩; have hciw3 := (hk3.cell (p := ⟨w1.heap.size, 0, none⟩) LI.out (by simp)).trans hci; have hco1w3 := (hk3.cell (p := ⟨w1.heap.size + 1, 0, none⟩) LO1.out (by simp)).trans hco1; have R3n := Lib.hid (Rd.of_own HYB.out hown3); have K3 := Lib.hid hk3; clear hown3 hk3))
  all_goals
    go_wp2
    go_ret3
    exact ⟨A3, c3, rfl, R3n.out, K2.out.drew.trans K3.out⟩

set_option maxHeartbeats 800000 in
theorem ImReadUint16_no (A : Option Addr) (n c : Nat) (xs : List Int) (w : World) (B : Nat) (h : Rd w B A xs) (hn : n = xs.length) (hb : xs.length ≤ 4194304) (hl : xs.length < 2) :
    Calls Try.prog 22 #[.slice A n c] w (Res3 w (.int .i64 0) xs false) := by
  have H := Lib.hid (str_any A n c xs w B h hn (by omega))
  have hby := h.byt
  have HL := Lib.hid hl
  have HYB := Lib.hid hby
  have HLY := Lib.hid (show xs.length ≤ 140737488355328 by omega)
  clear hl
  have HY := Lib.hid hby
  have HB := Lib.hid hb
  clear h hn hb hby
  go_enter Try.func22, Try.ntmps22
  go_wp2_with fail
  refine H.out.mono ?_
  rintro e w1 ⟨A1, c1, rfl, hc1, hm1, hown, hk1⟩
  have R1 := Lib.hid (Rd.of_own HY.out hown)
  have K1 := Lib.hid hk1
  clear hown hk1 H
  go_wp2_with fail
  refine (SReadUint16_no w1.heap.size (w1.heap.size + 1) xs _ w1.heap.size ?s0 HL.out).mono ?_
  case s0 => exact ⟨Nat.le_refl _, A1, c1, (Var.new _ _ _).alloc _, hc1, hm1, (R1.out.alloc (Nat.le_refl _) _).alloc (by simp <;> omega) _⟩
  rintro e w2 ⟨rfl, hw2⟩
  have hk2 : Only [] w w2 := hw2 ▸ (K1.out.alloc _).alloc _
  have hs2 : Sl w2 w1.heap.size w1.heap.size 58 xs := hw2 ▸ ⟨Nat.le_refl _, A1, c1, (Var.new _ _ _).alloc _, hc1, hm1, (R1.out.alloc (Nat.le_refl _) _).alloc (by simp <;> omega) _⟩
  have hvo1 : Var w2 (w1.heap.size + 1) 53 (.int .u16 0) := hw2 ▸ Var.new' _ _ _ _ (by simp)
  have ho2 := True.intro
  clear hw2
  obtain ⟨_, A2, c2, hvi, hc2, hm2, hr2⟩ := hs2
  have hci := hvi.cell
  have LI := Lib.hid hvi.lt
  have R2 := Lib.hid hr2
  have K2 := Lib.hid hk2
  have hco1 := hvo1.cell
  have LO1 := Lib.hid hvo1.lt
  clear hr2 hk2 hvi ho2 hvo1
  go_wp2_with fail
  go_region_held3 (fun w' => w'.cell? ⟨w1.heap.size, 0, none⟩ = some (.slice A2 xs.length c2) ∧ w'.cell? ⟨w1.heap.size + 1, 0, none⟩ = some (.int .u16 0)) (first | exact ⟨hci, hco1⟩ | exact ⟨hciw3, hco1w3⟩) (first | (go_at_call 43; have hq : Rd w2.drew w1.heap.size A2 xs := R2.out.drew; (with_reducible refine (copied_any A2 _ c2 xs w2.drew w1.heap.size hq rfl HLY.out).mono ?_); clear hq; rintro e w3 ⟨A3, c3, rfl, hc3, hm3, hown3, hk3⟩; have hciw3 := (hk3.cell (p := ⟨w1.heap.size, 0, none⟩) LI.out (by simp)).trans hci; have hco1w3 := (hk3.cell (p := ⟨w1.heap.size + 1, 0, none⟩) LO1.out (by simp)).trans hco1; have R3n := Lib.hid (Rd.of_own HYB.out hown3); have K3 := Lib.hid hk3; clear hown3 hk3))
  all_goals
    go_wp2
    go_ret3
    exact ⟨A3, c3, rfl, R3n.out, K2.out.drew.trans K3.out⟩



set_option maxHeartbeats 800000 in
theorem ImReadUint32_ok (A : Option Addr) (n c : Nat) (xs : List Int) (w : World) (B : Nat) (h : Rd w B A xs) (hn : n = xs.length) (hb : xs.length ≤ 4194304) (hl : 4 ≤ xs.length) :
    Calls Try.prog 24 #[.slice A n c] w (Res3 w (.int .i64 (beN (xs.take 4))) (xs.drop 4) true) := by
  have H := Lib.hid (str_any A n c xs w B h hn (by omega))
  have hby := h.byt
  obtain ⟨v, hv0, hv1, hvd⟩ : ∃ v, 0 ≤ v ∧ v ≤ 4294967295 ∧ beN (xs.take 4) = v := by
    have := beN_take_bd xs hby 4 4 (Nat.le_refl _)
    exact ⟨_, this.1, by omega, rfl⟩
  rw [hvd]
  obtain ⟨ys, hy⟩ : ∃ ys, xs.drop 4 = ys := ⟨_, rfl⟩
  rw [hy]
  have HV := Lib.hid hvd
  have HYS := Lib.hid hy
  have HL := Lib.hid hl
  have HYB := Lib.hid (hy ▸ hby.drop 4 : Byt ys)
  have HLY := Lib.hid (show ys.length ≤ 140737488355328 by rw [← hy]; simp; omega)
  clear hl hvd hy
  have hw : IntKind.i64.wrap v = v := IntWalk.i64_in _ (by omega)
  have HY := Lib.hid hby
  have HB := Lib.hid hb
  clear h hn hb hby
  go_enter Try.func24, Try.ntmps24
  go_wp2_with fail
  refine H.out.mono ?_
  rintro e w1 ⟨A1, c1, rfl, hc1, hm1, hown, hk1⟩
  have R1 := Lib.hid (Rd.of_own HY.out hown)
  have K1 := Lib.hid hk1
  clear hown hk1 H
  go_wp2_with fail
  refine (SReadUint32_ok w1.heap.size (w1.heap.size + 1) (.int .u32 0) xs _ w1.heap.size ?s0 ?s1 (by omega) (by omega) HL.out).mono ?_
  case s0 => exact ⟨Nat.le_refl _, A1, c1, (Var.new _ _ _).alloc _, hc1, hm1, (R1.out.alloc (Nat.le_refl _) _).alloc (by simp <;> omega) _⟩
  case s1 => exact Var.new' _ _ _ _ (by simp)
  rintro e w2 ⟨rfl, hvo, hs2, ho2⟩
  have hk2 : Only [] w w2 := ((K1.out.alloc _).alloc _).then ho2 (by have := K1.out.size; simp; omega)
  rw [HV.out] at hvo
  rw [HYS.out] at hs2
  obtain ⟨_, A2, c2, hvi, hc2, hm2, hr2⟩ := hs2
  have hci := hvi.cell
  have LI := Lib.hid hvi.lt
  have R2 := Lib.hid hr2
  have K2 := Lib.hid hk2
  have hco1 := hvo.cell
  have LO1 := Lib.hid hvo.lt
  clear hr2 hk2 hvi ho2 hvo
  go_wp2_with fail
  go_region_held3 (fun w' => w'.cell? ⟨w1.heap.size, 0, none⟩ = some (.slice A2 ys.length c2) ∧ w'.cell? ⟨w1.heap.size + 1, 0, none⟩ = some (.int .u32 v)) (first | exact ⟨hci, hco1⟩ | exact ⟨hciw3, hco1w3⟩) (first | (go_at_call 43; have hq : Rd w2.drew w1.heap.size A2 ys := R2.out.drew; (with_reducible refine (copied_any A2 _ c2 ys w2.drew w1.heap.size hq rfl HLY.out).mono ?_); clear hq; rintro e w3 ⟨A3, c3, rfl, hc3, hm3, hown3, hk3⟩; have hciw3 := (hk3.cell (p := ⟨w1.heap.size, 0, none⟩) LI.out (by simp)).trans hci; have hco1w3 := (hk3.cell (p := ⟨w1.heap.size + 1, 0, none⟩) LO1.out (by simp)).trans hco1; have R3n := Lib.hid (Rd.of_own HYB.out hown3); have K3 := Lib.hid hk3; clear hown3 hk3))
  all_goals
    go_wp2
    go_ret3
    exact ⟨A3, c3, rfl, R3n.out, K2.out.drew.trans K3.out⟩

set_option maxHeartbeats 800000 in
theorem ImReadUint32_no (A : Option Addr) (n c : Nat) (xs : List Int) (w : World) (B : Nat) (h : Rd w B A xs) (hn : n = xs.length) (hb : xs.length ≤ 4194304) (hl : xs.length < 4) :
    Calls Try.prog 24 #[.slice A n c] w (Res3 w (.int .i64 0) xs false) := by
  have H := Lib.hid (str_any A n c xs w B h hn (by omega))
  have hby := h.byt
  have HL := Lib.hid hl
  have HYB := Lib.hid hby
  have HLY := Lib.hid (show xs.length ≤ 140737488355328 by omega)
  clear hl
  have HY := Lib.hid hby
  have HB := Lib.hid hb
  clear h hn hb hby
  go_enter Try.func24, Try.ntmps24
  go_wp2_with fail
  refine H.out.mono ?_
  rintro e w1 ⟨A1, c1, rfl, hc1, hm1, hown, hk1⟩
  have R1 := Lib.hid (Rd.of_own HY.out hown)
  have K1 := Lib.hid hk1
  clear hown hk1 H
  go_wp2_with fail
  refine (SReadUint32_no w1.heap.size (w1.heap.size + 1) xs _ w1.heap.size ?s0 HL.out).mono ?_
  case s0 => exact ⟨Nat.le_refl _, A1, c1, (Var.new _ _ _).alloc _, hc1, hm1, (R1.out.alloc (Nat.le_refl _) _).alloc (by simp <;> omega) _⟩
  rintro e w2 ⟨rfl, hw2⟩
  have hk2 : Only [] w w2 := hw2 ▸ (K1.out.alloc _).alloc _
  have hs2 : Sl w2 w1.heap.size w1.heap.size 58 xs := hw2 ▸ ⟨Nat.le_refl _, A1, c1, (Var.new _ _ _).alloc _, hc1, hm1, (R1.out.alloc (Nat.le_refl _) _).alloc (by simp <;> omega) _⟩
  have hvo1 : Var w2 (w1.heap.size + 1) 56 (.int .u32 0) := hw2 ▸ Var.new' _ _ _ _ (by simp)
  have ho2 := True.intro
  clear hw2
  obtain ⟨_, A2, c2, hvi, hc2, hm2, hr2⟩ := hs2
  have hci := hvi.cell
  have LI := Lib.hid hvi.lt
  have R2 := Lib.hid hr2
  have K2 := Lib.hid hk2
  have hco1 := hvo1.cell
  have LO1 := Lib.hid hvo1.lt
  clear hr2 hk2 hvi ho2 hvo1
  go_wp2_with fail
  go_region_held3 (fun w' => w'.cell? ⟨w1.heap.size, 0, none⟩ = some (.slice A2 xs.length c2) ∧ w'.cell? ⟨w1.heap.size + 1, 0, none⟩ = some (.int .u32 0)) (first | exact ⟨hci, hco1⟩ | exact ⟨hciw3, hco1w3⟩) (first | (go_at_call 43; have hq : Rd w2.drew w1.heap.size A2 xs := R2.out.drew; (with_reducible refine (copied_any A2 _ c2 xs w2.drew w1.heap.size hq rfl HLY.out).mono ?_); clear hq; rintro e w3 ⟨A3, c3, rfl, hc3, hm3, hown3, hk3⟩; have hciw3 := (hk3.cell (p := ⟨w1.heap.size, 0, none⟩) LI.out (by simp)).trans hci; have hco1w3 := (hk3.cell (p := ⟨w1.heap.size + 1, 0, none⟩) LO1.out (by simp)).trans hco1; have R3n := Lib.hid (Rd.of_own HYB.out hown3); have K3 := Lib.hid hk3; clear hown3 hk3))
  all_goals
    go_wp2
    go_ret3
    exact ⟨A3, c3, rfl, R3n.out, K2.out.drew.trans K3.out⟩



set_option maxHeartbeats 800000 in
theorem ImReadUint64_ok (A : Option Addr) (n c : Nat) (xs : List Int) (w : World) (B : Nat) (h : Rd w B A xs) (hn : n = xs.length) (hb : xs.length ≤ 4194304) (hl : 8 ≤ xs.length) :
    Calls Try.prog 25 #[.slice A n c] w (Res3 w (.int .u64 (beN (xs.take 8))) (xs.drop 8) true) := by
  have H := Lib.hid (str_any A n c xs w B h hn (by omega))
  have hby := h.byt
  obtain ⟨v, hv0, hv1, hvd⟩ : ∃ v, 0 ≤ v ∧ v ≤ 18446744073709551615 ∧ beN (xs.take 8) = v := by
    have := beN_take_bd xs hby 8 8 (Nat.le_refl _)
    exact ⟨_, this.1, by omega, rfl⟩
  rw [hvd]
  obtain ⟨ys, hy⟩ : ∃ ys, xs.drop 8 = ys := ⟨_, rfl⟩
  rw [hy]
  have HV := Lib.hid hvd
  have HYS := Lib.hid hy
  have HL := Lib.hid hl
  have HYB := Lib.hid (hy ▸ hby.drop 8 : Byt ys)
  have HLY := Lib.hid (show ys.length ≤ 140737488355328 by rw [← hy]; simp; omega)
  clear hl hvd hy
  have HY := Lib.hid hby
  have HB := Lib.hid hb
  clear h hn hb hby
  go_enter Try.func25, Try.ntmps25
  go_wp2_with fail
  refine H.out.mono ?_
  rintro e w1 ⟨A1, c1, rfl, hc1, hm1, hown, hk1⟩
  have R1 := Lib.hid (Rd.of_own HY.out hown)
  have K1 := Lib.hid hk1
  clear hown hk1 H
  go_wp2_with fail
  refine (SReadUint64_ok w1.heap.size (w1.heap.size + 1) (.int .u64 0) xs _ w1.heap.size ?s0 ?s1 (by omega) (by omega) HL.out).mono ?_
  case s0 => exact ⟨Nat.le_refl _, A1, c1, (Var.new _ _ _).alloc _, hc1, hm1, (R1.out.alloc (Nat.le_refl _) _).alloc (by simp <;> omega) _⟩
  case s1 => exact Var.new' _ _ _ _ (by simp)
  rintro e w2 ⟨rfl, hvo, hs2, ho2⟩
  have hk2 : Only [] w w2 := ((K1.out.alloc _).alloc _).then ho2 (by have := K1.out.size; simp; omega)
  rw [HV.out] at hvo
  rw [HYS.out] at hs2
  obtain ⟨_, A2, c2, hvi, hc2, hm2, hr2⟩ := hs2
  have hci := hvi.cell
  have LI := Lib.hid hvi.lt
  have R2 := Lib.hid hr2
  have K2 := Lib.hid hk2
  have hco1 := hvo.cell
  have LO1 := Lib.hid hvo.lt
  clear hr2 hk2 hvi ho2 hvo
  go_wp2_with fail
  go_region_held3 (fun w' => w'.cell? ⟨w1.heap.size, 0, none⟩ = some (.slice A2 ys.length c2) ∧ w'.cell? ⟨w1.heap.size + 1, 0, none⟩ = some (.int .u64 v)) (first | exact ⟨hci, hco1⟩ | exact ⟨hciw3, hco1w3⟩) (first | (go_at_call 43; have hq : Rd w2.drew w1.heap.size A2 ys := R2.out.drew; (with_reducible refine (copied_any A2 _ c2 ys w2.drew w1.heap.size hq rfl HLY.out).mono ?_); clear hq; rintro e w3 ⟨A3, c3, rfl, hc3, hm3, hown3, hk3⟩; have hciw3 := (hk3.cell (p := ⟨w1.heap.size, 0, none⟩) LI.out (by simp)).trans hci; have hco1w3 := (hk3.cell (p := ⟨w1.heap.size + 1, 0, none⟩) LO1.out (by simp)).trans hco1; have R3n := Lib.hid (Rd.of_own HYB.out hown3); have K3 := Lib.hid hk3; clear hown3 hk3))
  all_goals
    go_wp2
    go_ret3
    exact ⟨A3, c3, rfl, R3n.out, K2.out.drew.trans K3.out⟩

set_option maxHeartbeats 800000 in
theorem ImReadUint64_no (A : Option Addr) (n c : Nat) (xs : List Int) (w : World) (B : Nat) (h : Rd w B A xs) (hn : n = xs.length) (hb : xs.length ≤ 4194304) (hl : xs.length < 8) :
    Calls Try.prog 25 #[.slice A n c] w (Res3 w (.int .u64 0) xs false) := by
  have H := Lib.hid (str_any A n c xs w B h hn (by omega))
  have hby := h.byt
  have HL := Lib.hid hl
  have HYB := Lib.hid hby
  have HLY := Lib.hid (show xs.length ≤ 140737488355328 by omega)
  clear hl
  have HY := Lib.hid hby
  have HB := Lib.hid hb
  clear h hn hb hby
  go_enter Try.func25, Try.ntmps25
  go_wp2_with fail
  refine H.out.mono ?_
  rintro e w1 ⟨A1, c1, rfl, hc1, hm1, hown, hk1⟩
  have R1 := Lib.hid (Rd.of_own HY.out hown)
  have K1 := Lib.hid hk1
  clear hown hk1 H
  go_wp2_with fail
  refine (SReadUint64_no w1.heap.size (w1.heap.size + 1) xs _ w1.heap.size ?s0 HL.out).mono ?_
  case s0 => exact ⟨Nat.le_refl _, A1, c1, (Var.new _ _ _).alloc _, hc1, hm1, (R1.out.alloc (Nat.le_refl _) _).alloc (by simp <;> omega) _⟩
  rintro e w2 ⟨rfl, hw2⟩
  have hk2 : Only [] w w2 := hw2 ▸ (K1.out.alloc _).alloc _
  have hs2 : Sl w2 w1.heap.size w1.heap.size 58 xs := hw2 ▸ ⟨Nat.le_refl _, A1, c1, (Var.new _ _ _).alloc _, hc1, hm1, (R1.out.alloc (Nat.le_refl _) _).alloc (by simp <;> omega) _⟩
  have hvo1 : Var w2 (w1.heap.size + 1) 27 (.int .u64 0) := hw2 ▸ Var.new' _ _ _ _ (by simp)
  have ho2 := True.intro
  clear hw2
  obtain ⟨_, A2, c2, hvi, hc2, hm2, hr2⟩ := hs2
  have hci := hvi.cell
  have LI := Lib.hid hvi.lt
  have R2 := Lib.hid hr2
  have K2 := Lib.hid hk2
  have hco1 := hvo1.cell
  have LO1 := Lib.hid hvo1.lt
  clear hr2 hk2 hvi ho2 hvo1
  go_wp2_with fail
  go_region_held3 (fun w' => w'.cell? ⟨w1.heap.size, 0, none⟩ = some (.slice A2 xs.length c2) ∧ w'.cell? ⟨w1.heap.size + 1, 0, none⟩ = some (.int .u64 0)) (first | exact ⟨hci, hco1⟩ | exact ⟨hciw3, hco1w3⟩) (first | (go_at_call 43; have hq : Rd w2.drew w1.heap.size A2 xs := R2.out.drew; (with_reducible refine (copied_any A2 _ c2 xs w2.drew w1.heap.size hq rfl HLY.out).mono ?_); clear hq; rintro e w3 ⟨A3, c3, rfl, hc3, hm3, hown3, hk3⟩; have hciw3 := (hk3.cell (p := ⟨w1.heap.size, 0, none⟩) LI.out (by simp)).trans hci; have hco1w3 := (hk3.cell (p := ⟨w1.heap.size + 1, 0, none⟩) LO1.out (by simp)).trans hco1; have R3n := Lib.hid (Rd.of_own HYB.out hown3); have K3 := Lib.hid hk3; clear hown3 hk3))
  all_goals
    go_wp2
    go_ret3
    exact ⟨A3, c3, rfl, R3n.out, K2.out.drew.trans K3.out⟩
end Go.Proofs.Ytmhinadofihkjaa
