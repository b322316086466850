/- The thin package's readers of elements: contracts. -/
import Derived.Test.YtdocgembogocjaaIm2
import Derived.Test.YtdocgembogocjaaRd5
namespace Go.Proofs.Ytdocgembogocjaa
open Go.RowKit

theorem results_four {fn : Func} {t u v x : Tmp} (h : fn.results = #[.tmp t, .tmp u, .tmp v, .tmp x]) (tmps : Array Value) (P : Program) (w : World) :
    (results fn tmps).run P w = .ok (.tuple #[tmps.getD t undef, tmps.getD u undef, tmps.getD v undef, tmps.getD x undef]) w := by simp [results, h]
/-- Bytes, a value, what is left, whether it went well. -/
def ResBVB (w : World) (xs : List Int) (v : Value) (ys : List Int) (ok : Bool) (e : Ending) (w' : World) : Prop :=
  ∃ A c A' c', e = .returned (.tuple #[.slice A xs.length c, v, .slice A' ys.length c', .bool ok]) ∧ Rd w' w'.heap.size A xs ∧ Rd w' w'.heap.size A' ys ∧ Only [] w w'

set_option maxHeartbeats 800000 in
theorem ImReadAny_ok (A : Option Addr) (n c : Nat) (xs : List Int) (w : World) (B : Nat) (h : Rd w B A xs) (hn : n = xs.length) (hb : xs.length ≤ 4194304) (t : Int) (hd e : Nat) (hf : first xs = some (t, hd, e)) :
    Calls Try.prog 29 #[.slice A n c] w (ResBVB w ((xs.take e).drop hd) (.int .i64 t) (xs.drop e) true) := by
  have H := Lib.hid (str_any A n c xs w B h hn (by omega))
  have hby := h.byt
  obtain ⟨f1, f2, f3, f4, f5, f6⟩ := first_le hf
  obtain ⟨x0, x1⟩ := Byt.getD hby 0
  rw [← f5] at x0 x1
  have hw : IntKind.i64.wrap t = t := IntWalk.i64_in _ (by omega)
  obtain ⟨zs, hzs⟩ : ∃ zs, (xs.take e).drop hd = zs := ⟨_, rfl⟩
  rw [hzs]
  have HYO := Lib.hid (hzs ▸ (hby.take _).drop _ : Byt zs)
  have HLO := Lib.hid (show zs.length ≤ 140737488355328 by rw [← hzs]; simp; omega)
  have Ezs := Lib.hid hzs
  obtain ⟨ys, hys⟩ : ∃ ys, xs.drop e = ys := ⟨_, rfl⟩
  rw [hys]
  have HYB := Lib.hid (hys ▸ hby.drop _ : Byt ys)
  have HLY := Lib.hid (show ys.length ≤ 140737488355328 by rw [← hys]; simp; omega)
  have Eys := Lib.hid hys
  clear hzs
  clear hys
  have HF := Lib.hid hf
  clear hf f5 f6 f1 f2 f3 f4
  have HY := Lib.hid hby
  have HB := Lib.hid hb
  clear h hn hb hby
  go_enter Try.func29, Try.ntmps29
  go_wp2_with fail
  refine H.out.mono ?_
  rintro e w1 ⟨A1, c1, rfl, hc1, hm1, hown, hk1⟩
  have R1 := Lib.hid (Rd.of_own HY.out hown)
  have K1 := Lib.hid hk1
  clear hown hk1 H
  go_wp2_with fail
  refine (SReadAnyASN1_any w1.heap.size (w1.heap.size + 1) (w1.heap.size + 2) 55 (.slice none 0 0) 0 xs _ w1.heap.size ?s0 ?s1 ?s2 (by decide) (by omega) (by omega) (by omega) (by omega) (by omega) HB.out).mono ?_
  case s0 => exact ⟨Nat.le_refl _, A1, c1, ((Var.new _ _ _).alloc _).alloc _, hc1, hm1, ((R1.out.alloc (Nat.le_refl _) _).alloc (by simp <;> omega) _).alloc (by simp <;> omega) _⟩
  case s1 => exact (Var.new' _ _ _ _ (by simp)).alloc _
  case s2 => exact Var.new' _ _ _ _ (by simp)
  rintro e w2 hT
  unfold TookEl at hT
  rw [HF.out] at hT
  obtain ⟨ho2, rfl, hvt, hso, hs2⟩ := hT
  simp only [if_true] at hso
  have hk2 : Only [] w w2 := (((K1.out.alloc _).alloc _).alloc _).then ho2 (by have := K1.out.size; simp; omega)
  rw [Eys.out] at hs2
  rw [Ezs.out] at hso
  obtain ⟨_, Ao, co, hvo, hco, hmo, hro⟩ := hso
  have RO := Lib.hid hro
  clear hro
  obtain ⟨_, A2, c2, hvi, hc2, hm2, hr2⟩ := hs2
  have hci := hvi.cell
  have LI := Lib.hid hvi.lt
  have R2 := Lib.hid hr2
  have K2 := Lib.hid hk2
  have hco1 := hvo.cell
  have LO1 := Lib.hid hvo.lt
  have hco2 := hvt.cell
  have LO2 := Lib.hid hvt.lt
  clear hr2 hk2 hvi ho2 hvo hvt
  go_wp2_with fail
  go_region_held3 (fun w' => w'.cell? ⟨w1.heap.size, 0, none⟩ = some (.slice A2 ys.length c2) ∧ w'.cell? ⟨w1.heap.size + 1, 0, none⟩ = some (.slice Ao zs.length co) ∧ w'.cell? ⟨w1.heap.size + 2, 0, none⟩ = some (.int .u8 t)) (first | exact ⟨hci, hco1, hco2⟩ | exact ⟨hciw3, hco1w3, hco2w3⟩ | exact ⟨hciw4, hco1w4, hco2w4⟩) (first | (go_at_call 37; have hq : Rd w2.drew w1.heap.size Ao zs := RO.out.drew; (with_reducible refine (copied_any Ao _ co zs w2.drew w1.heap.size hq rfl HLO.out).mono ?_); clear hq; rintro e w3 ⟨A3, c3, rfl, hc3, hm3, hown3, hk3⟩; have hciw3 := (hk3.cell (p := ⟨w1.heap.size, 0, none⟩) LI.out (by simp)).trans hci; have hco1w3 := (hk3.cell (p := ⟨w1.heap.size + 1, 0, none⟩) LO1.out (by simp)).trans hco1; have hco2w3 := (hk3.cell (p := ⟨w1.heap.size + 2, 0, none⟩) LO2.out (by simp)).trans hco2; have R3n := Lib.hid (Rd.of_own HYO.out hown3); have K3 := Lib.hid hk3; clear hown3 hk3) | (go_at_call 37; have hq : Rd w3 w1.heap.size A2 ys := R2.out.drew.only K3.out (by simp) (Nat.le_of_lt LI.out); (with_reducible refine (copied_any A2 _ c2 ys w3 w1.heap.size hq rfl HLY.out).mono ?_); clear hq; rintro e w4 ⟨A4, c4, rfl, hc4, hm4, hown4, hk4⟩; have hciw4 := (hk4.cell (p := ⟨w1.heap.size, 0, none⟩) (Nat.lt_of_lt_of_le LI.out K3.out.size) (by simp)).trans hciw3; have hco1w4 := (hk4.cell (p := ⟨w1.heap.size + 1, 0, none⟩) (Nat.lt_of_lt_of_le LO1.out K3.out.size) (by simp)).trans hco1w3; have hco2w4 := (hk4.cell (p := ⟨w1.heap.size + 2, 0, none⟩) (Nat.lt_of_lt_of_le LO2.out K3.out.size) (by simp)).trans hco2w3; have R4n := Lib.hid (Rd.of_own HYB.out hown4); have K4 := Lib.hid hk4; clear hown4 hk4))
  all_goals
    go_wp2
    refine bodyPost_ret (results_four rfl _ _ _) rfl ?_
    exact ⟨A3, c3, A4, c4, rfl, (R3n.out.only K4.out (by simp) (Nat.le_refl _)).more K4.out.size, R4n.out, (K2.out.drew.trans K3.out).trans K4.out⟩

set_option maxHeartbeats 800000 in
theorem ImReadAny_no (A : Option Addr) (n c : Nat) (xs : List Int) (w : World) (B : Nat) (h : Rd w B A xs) (hn : n = xs.length) (hb : xs.length ≤ 4194304) (hf : first xs = none) :
    Calls Try.prog 29 #[.slice A n c] w (fun e w2 => ∃ t, ResBVB w [] (.int .i64 t) xs false e w2) := by
  have H := Lib.hid (str_any A n c xs w B h hn (by omega))
  have hby := h.byt
  have HLY := Lib.hid (show xs.length ≤ 140737488355328 by omega)
  have HYB := Lib.hid hby
  have HLO := Lib.hid (show ([] : List Int).length ≤ 140737488355328 by simp)
  have HYO := Lib.hid Byt.nil
  have HF := Lib.hid hf
  clear hf
  have HY := Lib.hid hby
  have HB := Lib.hid hb
  clear h hn hb hby
  go_enter Try.func29, Try.ntmps29
  go_wp2_with fail
  refine H.out.mono ?_
  rintro e w1 ⟨A1, c1, rfl, hc1, hm1, hown, hk1⟩
  have R1 := Lib.hid (Rd.of_own HY.out hown)
  have K1 := Lib.hid hk1
  clear hown hk1 H
  go_wp2_with fail
  refine (SReadAnyASN1_any w1.heap.size (w1.heap.size + 1) (w1.heap.size + 2) 55 (.slice none 0 0) 0 xs _ w1.heap.size ?s0 ?s1 ?s2 (by decide) (by omega) (by omega) (by omega) (by omega) (by omega) HB.out).mono ?_
  case s0 => exact ⟨Nat.le_refl _, A1, c1, ((Var.new _ _ _).alloc _).alloc _, hc1, hm1, ((R1.out.alloc (Nat.le_refl _) _).alloc (by simp <;> omega) _).alloc (by simp <;> omega) _⟩
  case s1 => exact (Var.new' _ _ _ _ (by simp)).alloc _
  case s2 => exact Var.new' _ _ _ _ (by simp)
  rintro e w2 hT
  unfold TookEl at hT
  rw [HF.out] at hT
  obtain ⟨ho2, rfl, ⟨t, t0, t1, hvt⟩, ⟨vo, hvo1, hvo⟩, hs2⟩ := hT
  have hvn : vo = .slice none 0 0 := by
    have h1 : Var _ (w1.heap.size + 1) 55 (.slice none 0 0) := (Var.new' (w1.alloc (.cells #[.slice A1 xs.length c1] 55)) (w1.heap.size + 1) 55 (.slice none 0 0) (by simp)).alloc (.cells #[.int .u8 0] 68)
    unfold Var at h1 hvo1
    rw [hvo1] at h1
    simpa using h1
  rw [hvn] at hvo
  have hw : IntKind.i64.wrap t = t := IntWalk.i64_in _ (by omega)
  clear hvo1 hvn
  have hk2 : Only [] w w2 := (((K1.out.alloc _).alloc _).alloc _).then ho2 (by have := K1.out.size; simp; omega)
  have hrn := Rd.nil w2 w1.heap.size none
  have RO := Lib.hid hrn
  clear hrn
  obtain ⟨_, A2, c2, hvi, hc2, hm2, hr2⟩ := hs2
  have hci := hvi.cell
  have LI := Lib.hid hvi.lt
  have R2 := Lib.hid hr2
  have K2 := Lib.hid hk2
  have hco1 := hvo.cell
  have LO1 := Lib.hid hvo.lt
  have hco2 := hvt.cell
  have LO2 := Lib.hid hvt.lt
  clear hr2 hk2 hvi ho2 hvo hvt
  go_wp2_with fail
  go_region_held3 (fun w' => w'.cell? ⟨w1.heap.size, 0, none⟩ = some (.slice A2 xs.length c2) ∧ w'.cell? ⟨w1.heap.size + 1, 0, none⟩ = some (.slice none 0 0) ∧ w'.cell? ⟨w1.heap.size + 2, 0, none⟩ = some (.int .u8 t)) (first | exact ⟨hci, hco1, hco2⟩ | exact ⟨hciw3, hco1w3, hco2w3⟩ | exact ⟨hciw4, hco1w4, hco2w4⟩) (first | (go_at_call 37; have hq : Rd w2.drew w1.heap.size none [] := RO.out.drew; (with_reducible refine (copied_any none 0 0 [] w2.drew w1.heap.size hq rfl HLO.out).mono ?_); clear hq; rintro e w3 ⟨A3, c3, rfl, hc3, hm3, hown3, hk3⟩; have hciw3 := (hk3.cell (p := ⟨w1.heap.size, 0, none⟩) LI.out (by simp)).trans hci; have hco1w3 := (hk3.cell (p := ⟨w1.heap.size + 1, 0, none⟩) LO1.out (by simp)).trans hco1; have hco2w3 := (hk3.cell (p := ⟨w1.heap.size + 2, 0, none⟩) LO2.out (by simp)).trans hco2; have R3n := Lib.hid (Rd.of_own HYO.out hown3); have K3 := Lib.hid hk3; clear hown3 hk3) | (go_at_call 37; have hq : Rd w3 w1.heap.size A2 xs := R2.out.drew.only K3.out (by simp) (Nat.le_of_lt LI.out); (with_reducible refine (copied_any A2 _ c2 xs w3 w1.heap.size hq rfl HLY.out).mono ?_); clear hq; rintro e w4 ⟨A4, c4, rfl, hc4, hm4, hown4, hk4⟩; have hciw4 := (hk4.cell (p := ⟨w1.heap.size, 0, none⟩) (Nat.lt_of_lt_of_le LI.out K3.out.size) (by simp)).trans hciw3; have hco1w4 := (hk4.cell (p := ⟨w1.heap.size + 1, 0, none⟩) (Nat.lt_of_lt_of_le LO1.out K3.out.size) (by simp)).trans hco1w3; have hco2w4 := (hk4.cell (p := ⟨w1.heap.size + 2, 0, none⟩) (Nat.lt_of_lt_of_le LO2.out K3.out.size) (by simp)).trans hco2w3; have R4n := Lib.hid (Rd.of_own HYB.out hown4); have K4 := Lib.hid hk4; clear hown4 hk4))
  all_goals
    go_wp2
    refine bodyPost_ret (results_four rfl _ _ _) rfl ?_
    exact ⟨t, A3, c3, A4, c4, rfl, (R3n.out.only K4.out (by simp) (Nat.le_refl _)).more K4.out.size, R4n.out, (K2.out.drew.trans K3.out).trans K4.out⟩


end Go.Proofs.Ytdocgembogocjaa
