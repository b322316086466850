/- The thin package's reader of object identifiers: contract. -/
import Derived.Test.YtlnoeipbbncnfaaOidRd2
import Derived.Test.YtlnoeipbbncnfaaIm4
import Derived.Deep.RegionHeld3
namespace Go.Proofs.Ytlnoeipbbncnfaa
open Go.RowKit

/-- Of the second argument's type 'append' asks alone whether it is a slice's. -/
theorem append_types {P : Program} (t u ty e e' : TypeId) (ht : P.underlying t = some (.slice e)) (hu : P.underlying u = some (.slice e')) (a : Option Addr) (n c : Nat) (x : Value) (w : World) :
    (Builtin.append_ #[t, u] ty #[.slice a n c, x]).run P w = (Builtin.append_ #[t, t] ty #[.slice a n c, x]).run P w := by
  simp [Builtin.append_, run_underlying ht, run_underlying hu]
/-- Appending ints that are read to a row of one's own, at an operation of a region that draws its order. -/
theorem step_rowI {ops : Array Oper} {o : Oper} {a : Act} {w : World} {K : Act → World → Prop} {Q : Exit → Act → World → Prop} {E : Prop} (hgd : o.guard = none) (s x : Operand)
    (ho : o.op = .call { callee := .builtin .append, args := #[s, x], argTypes := #[24, 41] }) (hty : o.type = 24) (base B : Nat) (v : Value) (ys xs : List Int) (A : Option Addr) (n c : Nat)
    (hs : a.eval s = v) (hx : a.eval x = .slice A n c) (hr : RowI w base v ys) (hrd : RdI w B A xs) (hn : n = xs.length) (hb : base ≤ w.heap.size) (hl : ys.length + xs.length ≤ 16777216)
    (h : ∀ v' w1, RowI w1 base v' (ys ++ xs) → Only (own v) w w1 → K (a.put o.dst v') w1) :
    if Region.wanted o (yielded ops a.tmps) = true then Oper.wp Try.prog o a w K Q else E := by
  have hw : Region.wanted o (yielded ops a.tmps) = true := by simp [Region.wanted, hgd]
  rw [if_pos hw]
  subst hn
  obtain ⟨i0, hi, hz0, hz1, hz2⟩ := info_parts int_info
  have hcells := rdI_cells hrd
  rcases A with _ | ad
  · have h0 : xs = [] := by
      rcases xs with _ | ⟨x, xs⟩
      · rfl
      · obtain ⟨_, _, e', _⟩ := hrd.2 (by simp)
        cases e'
    subst h0
    have hq := h v w (by rw [List.append_nil]; exact hr) (Only.refl _ _)
    have hr0 := appendI_none w base v ys c hr
    obtain ⟨Av, cv, rfl, _, _, _⟩ := hr.form
    rw [← append_types 24 41 24 _ _ Try.underlying24 Try.underlying41] at hr0
    unfold Oper.wp execOp
    simp only [ho, hty, resolve, invoke, builtin, Sem.run_bind, Sem.run_pure, Result.andThen_ok, List.map_toArray, List.map_cons, List.map_nil, hs, hx, hr0, List.length_nil]
    exact hq
  · obtain ⟨v', w', hr', h2, h3, _, _⟩ := run_append_own_at (P := Try.prog) w base 24 o.type 3 i0 (.int .i64 0) 1 8 Try.underlying24 hi hz0 hz1 hz2 rfl (by decide) v ys.length (ys.map (Value.int .i64)) hr.2 ad xs.length c (xs.map (Value.int .i64)) (by simp) (hcells ad rfl) (Sml.oneCells xs) (by unfold maxLen; omega) (by omega) hb
    obtain ⟨Av, cv, rfl, _, _, _⟩ := hr.form
    rw [← append_types 24 41 _ _ _ Try.underlying24 Try.underlying41] at hr'
    unfold Oper.wp execOp
    simp only [ho, resolve, invoke, builtin, Sem.run_bind, Sem.run_pure, Result.andThen_ok, List.map_toArray, List.map_cons, List.map_nil, hs, hx, hr']
    exact h v' w' ⟨hr.1.append hrd.1, by simpa using h2⟩ (Only.grown h3 (fun k hk _ => by simp [own, hk]))

/-- Arcs, what is left, whether it went well, by what should be given. -/
def ResO (w : World) (R : Option (List Int × List Int)) (e : Ending) (w' : World) : Prop :=
  ∃ ok v ys A c A' c', e = .returned (.tuple #[.slice A v.length c, .slice A' ys.length c', .bool ok]) ∧ RdI w' w'.heap.size A v ∧ Rd w' w'.heap.size A' ys ∧ Only [] w w' ∧ v.length ≤ 4194305 ∧ ys.length ≤ 4194304 ∧ Got R ok v ys

set_option maxHeartbeats 800000 in
theorem ImReadOID_of (A : Option Addr) (n c : Nat) (xs : List Int) (w : World) (B : Nat) (h : Rd w B A xs) (hn : n = xs.length) (hb : xs.length ≤ 4194304) :
    Calls Try.prog 7 #[.slice A n c] w (ResO w (asOf oidOf xs 6)) := by
  have H := Lib.hid (str_any A n c xs w B h hn (by omega))
  have hby := h.byt
  have HY := Lib.hid hby
  have HB := Lib.hid hb
  clear h hn hb hby
  go_enter Try.func7, Try.ntmps7
  go_wp2_with fail
  refine H.out.mono ?_
  rintro e w1 ⟨A1, c1, rfl, hc1, hm1, hown, hk1⟩
  have R1 := Lib.hid (Rd.of_own HY.out hown)
  have K1 := Lib.hid hk1
  clear hown hk1 H
  go_wp2_with fail
  refine (SReadOID_of w1.heap.size (w1.heap.size + 1) xs _ w1.heap.size ?s0 ?s1 (by omega) (by omega) HB.out).mono ?_
  case s0 => exact ⟨Nat.le_refl _, A1, c1, (Var.new _ _ _).alloc _, hc1, hm1, (R1.out.alloc (Nat.le_refl _) _).alloc (by simp) _⟩
  case s1 => have := Var.new (w1.alloc (.cells #[.slice A1 xs.length c1] 39)) 41 (.slice none 0 0); rwa [World.size_alloc] at this
  rintro e w2 ⟨ok, v, ys, Ao, co, rfl, ho2, hbt, hco, hmo, hso, hlz, hs2, hly, hg⟩
  have HG := Lib.hid hg
  have HLO := Lib.hid hlz
  have HLY := Lib.hid (show ys.length ≤ 140737488355328 by omega)
  have HYB := Lib.hid hs2.byt
  have HLL := Lib.hid (And.intro hlz hly)
  clear hg hlz hly
  have hk2 : Only [] w w2 := ((K1.out.alloc _).alloc _).then ho2 (by have := K1.out.size; simp; omega)
  have RO := Lib.hid hso
  clear hso
  obtain ⟨_, A2, c2, hvi, hc2, hm2, hr2⟩ := hs2
  have hci := hvi.cell
  have LI := Lib.hid hvi.lt
  have R2 := Lib.hid hr2
  have K2 := Lib.hid hk2
  have hco1 := hbt.cell
  have LO1 := Lib.hid hbt.lt
  clear hr2 hk2 hvi ho2 hbt
  go_wp2_with fail
  go_region_held3 (fun w' => w'.cell? ⟨w1.heap.size, 0, none⟩ = some (.slice A2 ys.length c2) ∧ w'.cell? ⟨w1.heap.size + 1, 0, none⟩ = some (.slice Ao v.length co)) (first | exact ⟨hci, hco1⟩ | exact ⟨hciw3, hco1w3⟩ | exact ⟨hciw4, hco1w4⟩) (first | (refine step_rowI rfl _ _ rfl rfl w.heap.size w2.heap.size (.slice none 0 0) [] v Ao _ co rfl rfl (RowI.nil _ _) RO.out.drew rfl K2.out.size (by have := HLO.out; simp; omega) (fun va wa hra hka => ?_); have hka' : Only [] w2.drew wa := hka; have hciw3 := (hka'.cell (p := ⟨w1.heap.size, 0, none⟩) LI.out (by simp)).trans hci; have hco1w3 := (hka'.cell (p := ⟨w1.heap.size + 1, 0, none⟩) LO1.out (by simp)).trans hco1; obtain ⟨Av, cv, rfl, _, _, _⟩ := hra.form; have RVA := Lib.hid hra; have KA := Lib.hid hka'; clear hra hka hka') | (go_at_call 20; have hq : Rd wa w1.heap.size A2 ys := R2.out.drew.only KA.out (by simp) (Nat.le_of_lt LI.out); (with_reducible refine (copied_any A2 _ c2 ys wa w1.heap.size hq rfl HLY.out).mono ?_); clear hq; rintro e wc ⟨Ac, cc, rfl, hcc, hmc, hownc, hkc⟩; have hciw4 := (hkc.cell (p := ⟨w1.heap.size, 0, none⟩) (Nat.lt_of_lt_of_le LI.out KA.out.size) (by simp)).trans hciw3; have hco1w4 := (hkc.cell (p := ⟨w1.heap.size + 1, 0, none⟩) (Nat.lt_of_lt_of_le LO1.out KA.out.size) (by simp)).trans hco1w3; have RC := Lib.hid (Rd.of_own HYB.out hownc); have KC := Lib.hid hkc; clear hownc hkc) | (go_at_call 20; have hq : Rd w2.drew w1.heap.size A2 ys := R2.out.drew; (with_reducible refine (copied_any A2 _ c2 ys w2.drew w1.heap.size hq rfl HLY.out).mono ?_); clear hq; rintro e wc ⟨Ac, cc, rfl, hcc, hmc, hownc, hkc⟩; have hciw3 := (hkc.cell (p := ⟨w1.heap.size, 0, none⟩) LI.out (by simp)).trans hci; have hco1w3 := (hkc.cell (p := ⟨w1.heap.size + 1, 0, none⟩) LO1.out (by simp)).trans hco1; have RC := Lib.hid (Rd.of_own HYB.out hownc); have KC := Lib.hid hkc; clear hownc hkc) | (refine step_rowI rfl _ _ rfl rfl w.heap.size w2.heap.size (.slice none 0 0) [] v Ao _ co rfl rfl (RowI.nil _ _) (RO.out.drew.only KC.out (by simp) (Nat.le_refl _)) rfl (Nat.le_trans K2.out.size KC.out.size) (by have := HLO.out; simp; omega) (fun va wa hra hka => ?_); have hka' : Only [] wc wa := hka; have hciw4 := (hka'.cell (p := ⟨w1.heap.size, 0, none⟩) (Nat.lt_of_lt_of_le LI.out KC.out.size) (by simp)).trans hciw3; have hco1w4 := (hka'.cell (p := ⟨w1.heap.size + 1, 0, none⟩) (Nat.lt_of_lt_of_le LO1.out KC.out.size) (by simp)).trans hco1w3; obtain ⟨Av, cv, rfl, _, _, _⟩ := hra.form; have RVA := Lib.hid hra; have KA := Lib.hid hka'; clear hra hka hka'))
  all_goals
    go_wp2
    go_ret3
    first
      | exact ⟨ok, v, ys, Av, cv, Ac, cc, rfl, (RVA.out.only (l := []) KC.out (by simp)).rd rfl, RC.out, (K2.out.drew.trans KA.out).trans KC.out, HLL.out.1, HLL.out.2, HG.out⟩
      | exact ⟨ok, v, ys, Av, cv, Ac, cc, rfl, RVA.out.rd rfl, (RC.out.only KA.out (by simp) (Nat.le_refl _)).more KA.out.size, (K2.out.drew.trans KC.out).trans KA.out, HLL.out.1, HLL.out.2, HG.out⟩
end Go.Proofs.Ytlnoeipbbncnfaa
