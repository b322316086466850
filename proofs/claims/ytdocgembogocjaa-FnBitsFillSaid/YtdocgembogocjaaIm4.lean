/- The thin package's readers of elements of a tag, of truths and of numbers: contracts. -/
import Derived.Test.YtdocgembogocjaaIm3
import Derived.Test.YtdocgembogocjaaMth2
import Derived.Test.YtdocgembogocjaaOpt
namespace Go.Proofs.Ytdocgembogocjaa
open Go.RowKit

theorem wrap_id_u8 (x : Int) (h0 : 0 ≤ x) (h1 : x ≤ 255) : IntKind.u8.wrap x = x := by simp [IntKind.wrap, IntKind.bits, IntKind.signed]; omega
/-- Bytes, what is left, whether it went well, by what should be given. -/
def ResS (w : World) (R : Option (List Int × List Int)) (e : Ending) (w' : World) : Prop :=
  ∃ ok zs ys A c A' c', e = .returned (.tuple #[.slice A zs.length c, .slice A' ys.length c', .bool ok]) ∧ Rd w' w'.heap.size A zs ∧ Rd w' w'.heap.size A' ys ∧ Only [] w w' ∧ zs.length ≤ 4194304 ∧ ys.length ≤ 4194304 ∧ Got R ok zs ys
/-- A value, what is left, whether it went well, by what should be given. -/
def ResV {α : Type} (mk : α → Value) (w : World) (R : Option (α × List Int)) (e : Ending) (w' : World) : Prop :=
  ∃ ok x ys A c, e = .returned (.tuple #[mk x, .slice A ys.length c, .bool ok]) ∧ Rd w' w'.heap.size A ys ∧ Only [] w w' ∧ ys.length ≤ 4194304 ∧ Got R ok x ys
/-- Bytes, whether they are there, what is left, whether it went well, by what should be given. -/
def ResP (w : World) (p : Bool) (R : Option (List Int × List Int)) (e : Ending) (w' : World) : Prop :=
  ∃ ok zs ys q A c A' c', e = .returned (.tuple #[.slice A zs.length c, .bool q, .slice A' ys.length c', .bool ok]) ∧ Rd w' w'.heap.size A zs ∧ Rd w' w'.heap.size A' ys ∧ Only [] w w' ∧ zs.length ≤ 4194304 ∧ ys.length ≤ 4194304 ∧ Got R ok zs ys ∧ (ok = true → q = p)
/-- What is left, whether it went well, by what should be given. -/
def ResU (w : World) (R : Option (Unit × List Int)) (e : Ending) (w' : World) : Prop :=
  ∃ ok ys A c, e = .returned (.tuple #[.slice A ys.length c, .bool ok]) ∧ Rd w' w'.heap.size A ys ∧ Only [] w w' ∧ ys.length ≤ 4194304 ∧ Got R ok () ys


set_option maxHeartbeats 800000 in
theorem ImReadASN1_of (A : Option Addr) (n c : Nat) (xs : List Int) (w : World) (B : Nat) (h : Rd w B A xs) (hn : n = xs.length) (hb : xs.length ≤ 4194304) (tag : Int) (ht : 0 ≤ tag ∧ tag ≤ 255) :
    Calls Try.prog 30 #[.slice A n c, .int .i64 tag] w (ResS w (firstOf xs tag)) := by
  have H := Lib.hid (str_any A n c xs w B h hn (by omega))
  have hby := h.byt
  have hwt : IntKind.u8.wrap tag = tag := wrap_id_u8 _ ht.1 ht.2
  clear ht
  have HY := Lib.hid hby
  have HB := Lib.hid hb
  clear h hn hb hby
  go_enter Try.func30, Try.ntmps30
  go_wp2_with fail
  refine H.out.mono ?_
  rintro e w1 ⟨A1, c1, rfl, hc1, hm1, hown, hk1⟩
  have R1 := Lib.hid (Rd.of_own HY.out hown)
  have K1 := Lib.hid hk1
  clear hown hk1 H
  go_wp2_with fail
  refine (SReadASN1_of w1.heap.size (w1.heap.size + 1) 55 tag [] xs _ w1.heap.size ?s0 ?s1 (by omega) HB.out (by simp)).mono ?_
  case s0 => exact ⟨Nat.le_refl _, A1, c1, (Var.new _ _ _).alloc _, hc1, hm1, (R1.out.alloc (Nat.le_refl _) _).alloc (by simp <;> omega) _⟩
  case s1 => exact Sl.new _ _ _ _ (by simp) (by simp)
  rintro e w2 ⟨ok, zs, ys, rfl, ho2, hso, hs2, hlz, hly, hg⟩
  have HG := Lib.hid hg
  have HLO := Lib.hid (show zs.length ≤ 140737488355328 by omega)
  have HYO := Lib.hid hso.byt
  have HLY := Lib.hid (show ys.length ≤ 140737488355328 by omega)
  have HYB := Lib.hid hs2.byt
  have HLL := Lib.hid (And.intro hlz hly)
  clear hg hlz hly
  have hk2 : Only [] w w2 := ((K1.out.alloc _).alloc _).then ho2 (by have := K1.out.size; simp; omega)
  obtain ⟨_, Ao, co, hvo, hco, hmo, hro⟩ := hso
  have RO := Lib.hid hro
  clear hro
  obtain ⟨_, A2, c2, hvi, hc2, hm2, hr2⟩ := hs2
  have hci := hvi.cell
  have LI := Lib.hid hvi.lt
  have R2 := Lib.hid hr2
  have K2 := Lib.hid hk2
  have hco1 := hvo.cell
  have LO1 := Lib.hid hvo.lt
  clear hr2 hk2 hvi ho2 hvo
  go_wp2_with fail
  go_region_held3 (fun w' => w'.cell? ⟨w1.heap.size, 0, none⟩ = some (.slice A2 ys.length c2) ∧ w'.cell? ⟨w1.heap.size + 1, 0, none⟩ = some (.slice Ao zs.length co)) (first | exact ⟨hci, hco1⟩ | exact ⟨hciw3, hco1w3⟩ | exact ⟨hciw4, hco1w4⟩) (first | (go_at_call 37; have hq : Rd w2.drew w1.heap.size Ao zs := RO.out.drew; (with_reducible refine (copied_any Ao _ co zs w2.drew w1.heap.size hq rfl HLO.out).mono ?_); clear hq; rintro e w3 ⟨A3, c3, rfl, hc3, hm3, hown3, hk3⟩; have hciw3 := (hk3.cell (p := ⟨w1.heap.size, 0, none⟩) LI.out (by simp)).trans hci; have hco1w3 := (hk3.cell (p := ⟨w1.heap.size + 1, 0, none⟩) LO1.out (by simp)).trans hco1; have R3n := Lib.hid (Rd.of_own HYO.out hown3); have K3 := Lib.hid hk3; clear hown3 hk3) | (go_at_call 37; have hq : Rd w3 w1.heap.size A2 ys := R2.out.drew.only K3.out (by simp) (Nat.le_of_lt LI.out); (with_reducible refine (copied_any A2 _ c2 ys w3 w1.heap.size hq rfl HLY.out).mono ?_); clear hq; rintro e w4 ⟨A4, c4, rfl, hc4, hm4, hown4, hk4⟩; have hciw4 := (hk4.cell (p := ⟨w1.heap.size, 0, none⟩) (Nat.lt_of_lt_of_le LI.out K3.out.size) (by simp)).trans hciw3; have hco1w4 := (hk4.cell (p := ⟨w1.heap.size + 1, 0, none⟩) (Nat.lt_of_lt_of_le LO1.out K3.out.size) (by simp)).trans hco1w3; have R4n := Lib.hid (Rd.of_own HYB.out hown4); have K4 := Lib.hid hk4; clear hown4 hk4))
  all_goals
    go_wp2
    go_ret3
    exact ⟨ok, zs, ys, A3, c3, A4, c4, rfl, (R3n.out.only K4.out (by simp) (Nat.le_refl _)).more K4.out.size, R4n.out, (K2.out.drew.trans K3.out).trans K4.out, HLL.out.1, HLL.out.2, HG.out⟩






set_option maxHeartbeats 800000 in
theorem ImReadInt64WithTag_of (A : Option Addr) (n c : Nat) (xs : List Int) (w : World) (B : Nat) (h : Rd w B A xs) (hn : n = xs.length) (hb : xs.length ≤ 4194304) (tag : Int) (ht : 0 ≤ tag ∧ tag ≤ 255) :
    Calls Try.prog 18 #[.slice A n c, .int .i64 tag] w (ResV (Value.int .i64) w (asOf intOf' xs tag)) := by
  have H := Lib.hid (str_any A n c xs w B h hn (by omega))
  have hby := h.byt
  have hwt : IntKind.u8.wrap tag = tag := wrap_id_u8 _ ht.1 ht.2
  clear ht
  have HY := Lib.hid hby
  have HB := Lib.hid hb
  clear h hn hb hby
  go_enter Try.func18, Try.ntmps18
  go_wp2_with fail
  refine H.out.mono ?_
  rintro e w1 ⟨A1, c1, rfl, hc1, hm1, hown, hk1⟩
  have R1 := Lib.hid (Rd.of_own HY.out hown)
  have K1 := Lib.hid hk1
  clear hown hk1 H
  go_wp2_with fail
  refine (SReadInt64WithTag_of w1.heap.size (w1.heap.size + 1) tag xs _ w1.heap.size ?s0 ?s1 (by omega) (by omega) HB.out).mono ?_
  case s0 => exact ⟨Nat.le_refl _, A1, c1, (Var.new _ _ _).alloc _, hc1, hm1, (R1.out.alloc (Nat.le_refl _) _).alloc (by simp <;> omega) _⟩
  case s1 => exact Var.new' _ _ _ _ (by simp)
  rintro e w2 ⟨ok, x, ys, rfl, ho2, hvo, hs2, hly, hg⟩
  have HG := Lib.hid hg
  have HLY := Lib.hid (show ys.length ≤ 140737488355328 by omega)
  have HYB := Lib.hid hs2.byt
  have HLL := Lib.hid hly
  clear hg hly
  have hk2 : Only [] w w2 := ((K1.out.alloc _).alloc _).then ho2 (by have := K1.out.size; simp; omega)
  obtain ⟨_, A2, c2, hvi, hc2, hm2, hr2⟩ := hs2
  have hci := hvi.cell
  have LI := Lib.hid hvi.lt
  have R2 := Lib.hid hr2
  have K2 := Lib.hid hk2
  have hco1 := hvo.cell
  have LO1 := Lib.hid hvo.lt
  clear hr2 hk2 hvi ho2 hvo
  go_wp2_with fail
  go_region_held3 (fun w' => w'.cell? ⟨w1.heap.size, 0, none⟩ = some (.slice A2 ys.length c2) ∧ w'.cell? ⟨w1.heap.size + 1, 0, none⟩ = some (Value.int .i64 x)) (first | exact ⟨hci, hco1⟩ | exact ⟨hciw3, hco1w3⟩) (first | (go_at_call 37; have hq : Rd w2.drew w1.heap.size A2 ys := R2.out.drew; (with_reducible refine (copied_any A2 _ c2 ys w2.drew w1.heap.size hq rfl HLY.out).mono ?_); clear hq; rintro e w3 ⟨A3, c3, rfl, hc3, hm3, hown3, hk3⟩; have hciw3 := (hk3.cell (p := ⟨w1.heap.size, 0, none⟩) LI.out (by simp)).trans hci; have hco1w3 := (hk3.cell (p := ⟨w1.heap.size + 1, 0, none⟩) LO1.out (by simp)).trans hco1; have R3n := Lib.hid (Rd.of_own HYB.out hown3); have K3 := Lib.hid hk3; clear hown3 hk3))
  all_goals
    go_wp2
    go_ret3
    exact ⟨ok, x, ys, A3, c3, rfl, R3n.out, K2.out.drew.trans K3.out, HLL.out, HG.out⟩

set_option maxHeartbeats 800000 in
theorem ImReadEnum_of (A : Option Addr) (n c : Nat) (xs : List Int) (w : World) (B : Nat) (h : Rd w B A xs) (hn : n = xs.length) (hb : xs.length ≤ 4194304) :
    Calls Try.prog 12 #[.slice A n c] w (ResV (Value.int .i64) w (asOf intOf' xs 10)) := by
  have H := Lib.hid (str_any A n c xs w B h hn (by omega))
  have hby := h.byt
  have HY := Lib.hid hby
  have HB := Lib.hid hb
  clear h hn hb hby
  go_enter Try.func12, Try.ntmps12
  go_wp2_with fail
  refine H.out.mono ?_
  rintro e w1 ⟨A1, c1, rfl, hc1, hm1, hown, hk1⟩
  have R1 := Lib.hid (Rd.of_own HY.out hown)
  have K1 := Lib.hid hk1
  clear hown hk1 H
  go_wp2_with fail
  refine (SReadEnum_of w1.heap.size (w1.heap.size + 1)  xs _ w1.heap.size ?s0 ?s1 (by omega) (by omega) HB.out).mono ?_
  case s0 => exact ⟨Nat.le_refl _, A1, c1, (Var.new _ _ _).alloc _, hc1, hm1, (R1.out.alloc (Nat.le_refl _) _).alloc (by simp <;> omega) _⟩
  case s1 => exact Var.new' _ _ _ _ (by simp)
  rintro e w2 ⟨ok, x, ys, rfl, ho2, hvo, hs2, hly, hg⟩
  have HG := Lib.hid hg
  have HLY := Lib.hid (show ys.length ≤ 140737488355328 by omega)
  have HYB := Lib.hid hs2.byt
  have HLL := Lib.hid hly
  clear hg hly
  have hk2 : Only [] w w2 := ((K1.out.alloc _).alloc _).then ho2 (by have := K1.out.size; simp; omega)
  obtain ⟨_, A2, c2, hvi, hc2, hm2, hr2⟩ := hs2
  have hci := hvi.cell
  have LI := Lib.hid hvi.lt
  have R2 := Lib.hid hr2
  have K2 := Lib.hid hk2
  have hco1 := hvo.cell
  have LO1 := Lib.hid hvo.lt
  clear hr2 hk2 hvi ho2 hvo
  go_wp2_with fail
  go_region_held3 (fun w' => w'.cell? ⟨w1.heap.size, 0, none⟩ = some (.slice A2 ys.length c2) ∧ w'.cell? ⟨w1.heap.size + 1, 0, none⟩ = some (Value.int .i64 x)) (first | exact ⟨hci, hco1⟩ | exact ⟨hciw3, hco1w3⟩) (first | (go_at_call 37; have hq : Rd w2.drew w1.heap.size A2 ys := R2.out.drew; (with_reducible refine (copied_any A2 _ c2 ys w2.drew w1.heap.size hq rfl HLY.out).mono ?_); clear hq; rintro e w3 ⟨A3, c3, rfl, hc3, hm3, hown3, hk3⟩; have hciw3 := (hk3.cell (p := ⟨w1.heap.size, 0, none⟩) LI.out (by simp)).trans hci; have hco1w3 := (hk3.cell (p := ⟨w1.heap.size + 1, 0, none⟩) LO1.out (by simp)).trans hco1; have R3n := Lib.hid (Rd.of_own HYB.out hown3); have K3 := Lib.hid hk3; clear hown3 hk3))
  all_goals
    go_wp2
    go_ret3
    exact ⟨ok, x, ys, A3, c3, rfl, R3n.out, K2.out.drew.trans K3.out, HLL.out, HG.out⟩

set_option maxHeartbeats 800000 in
theorem ImReadUint_of (A : Option Addr) (n c : Nat) (xs : List Int) (w : World) (B : Nat) (h : Rd w B A xs) (hn : n = xs.length) (hb : xs.length ≤ 4194304) :
    Calls Try.prog 16 #[.slice A n c] w (ResV (Value.int .u64) w (asOf uintOf xs 2)) := by
  have H := Lib.hid (str_any A n c xs w B h hn (by omega))
  have hby := h.byt
  have HY := Lib.hid hby
  have HB := Lib.hid hb
  clear h hn hb hby
  go_enter Try.func16, Try.ntmps16
  go_wp2_with fail
  refine H.out.mono ?_
  rintro e w1 ⟨A1, c1, rfl, hc1, hm1, hown, hk1⟩
  have R1 := Lib.hid (Rd.of_own HY.out hown)
  have K1 := Lib.hid hk1
  clear hown hk1 H
  go_wp2_with fail
  refine (SReadASN1Uint64_of w1.heap.size (w1.heap.size + 1) 0 xs _ w1.heap.size ?s0 ?s1 (by omega) (by omega) HB.out).mono ?_
  case s0 => exact ⟨Nat.le_refl _, A1, c1, (Var.new _ _ _).alloc _, hc1, hm1, (R1.out.alloc (Nat.le_refl _) _).alloc (by simp <;> omega) _⟩
  case s1 => exact Var.new' _ _ _ _ (by simp)
  rintro e w2 ⟨ok, x, ys, rfl, ho2, hvo, hs2, hly, hg⟩
  have HG := Lib.hid hg
  have HLY := Lib.hid (show ys.length ≤ 140737488355328 by omega)
  have HYB := Lib.hid hs2.byt
  have HLL := Lib.hid hly
  clear hg hly
  have hk2 : Only [] w w2 := ((K1.out.alloc _).alloc _).then ho2 (by have := K1.out.size; simp; omega)
  obtain ⟨_, A2, c2, hvi, hc2, hm2, hr2⟩ := hs2
  have hci := hvi.cell
  have LI := Lib.hid hvi.lt
  have R2 := Lib.hid hr2
  have K2 := Lib.hid hk2
  have hco1 := hvo.cell
  have LO1 := Lib.hid hvo.lt
  clear hr2 hk2 hvi ho2 hvo
  go_wp2_with fail
  go_region_held3 (fun w' => w'.cell? ⟨w1.heap.size, 0, none⟩ = some (.slice A2 ys.length c2) ∧ w'.cell? ⟨w1.heap.size + 1, 0, none⟩ = some (Value.int .u64 x)) (first | exact ⟨hci, hco1⟩ | exact ⟨hciw3, hco1w3⟩) (first | (go_at_call 37; have hq : Rd w2.drew w1.heap.size A2 ys := R2.out.drew; (with_reducible refine (copied_any A2 _ c2 ys w2.drew w1.heap.size hq rfl HLY.out).mono ?_); clear hq; rintro e w3 ⟨A3, c3, rfl, hc3, hm3, hown3, hk3⟩; have hciw3 := (hk3.cell (p := ⟨w1.heap.size, 0, none⟩) LI.out (by simp)).trans hci; have hco1w3 := (hk3.cell (p := ⟨w1.heap.size + 1, 0, none⟩) LO1.out (by simp)).trans hco1; have R3n := Lib.hid (Rd.of_own HYB.out hown3); have K3 := Lib.hid hk3; clear hown3 hk3))
  all_goals
    go_wp2
    go_ret3
    exact ⟨ok, x, ys, A3, c3, rfl, R3n.out, K2.out.drew.trans K3.out, HLL.out, HG.out⟩

end Go.Proofs.Ytdocgembogocjaa
