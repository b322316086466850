/- A builder in memory; add, the numbers, the bytes: contracts. -/
import Derived.Test.YtlnoeipbbncnfaaStr
import Derived.Test.YtlnoeipbbncnfaaNum
import Derived.Maps.AppendAt
import Derived.BigQuiet
import Derived.Deep.QuietTactic
import Derived.StillTailTactics
namespace Go.Proofs.Ytlnoeipbbncnfaa
open Go.RowKit

/-- What a builder's block holds. -/
structure Bv where
  err : Value
  res : Value
  fixed : Bool
  child : Value
  off : Int
  pll : Int
  pasn : Bool
  inc : Value
def Bv.cells (v : Bv) : Array Value := #[v.err, v.res, .bool v.fixed, v.child, .int .i64 v.off, .int .i64 v.pll, .bool v.pasn, v.inc]
def Bv.zero : Bv := ⟨.nilIface, .slice none 0 0, false, .pointer none, 0, 0, false, .pointer none⟩
def Bld (w : World) (b : Nat) (v : Bv) : Prop := w.heap[b]? = some (.cells v.cells 54 (0, 0))
section
variable {w w' : World} {b : Nat} {v : Bv}
theorem Bld.lt (h : Bld w b v) : b < w.heap.size := lt_of_block h
theorem Bld.c0 (h : Bld w b v) : w.cell? ⟨b, 0, none⟩ = some v.err := cell_of_row w b 0 _ _ _ h
theorem Bld.c1 (h : Bld w b v) : w.cell? ⟨b, 1, none⟩ = some v.res := cell_of_row w b 1 _ _ _ h
theorem Bld.c2 (h : Bld w b v) : w.cell? ⟨b, 2, none⟩ = some (.bool v.fixed) := cell_of_row w b 2 _ _ _ h
theorem Bld.c3 (h : Bld w b v) : w.cell? ⟨b, 3, none⟩ = some v.child := cell_of_row w b 3 _ _ _ h
theorem Bld.c4 (h : Bld w b v) : w.cell? ⟨b, 4, none⟩ = some (.int .i64 v.off) := cell_of_row w b 4 _ _ _ h
theorem Bld.c5 (h : Bld w b v) : w.cell? ⟨b, 5, none⟩ = some (.int .i64 v.pll) := cell_of_row w b 5 _ _ _ h
theorem Bld.c6 (h : Bld w b v) : w.cell? ⟨b, 6, none⟩ = some (.bool v.pasn) := cell_of_row w b 6 _ _ _ h
theorem Bld.c7 (h : Bld w b v) : w.cell? ⟨b, 7, none⟩ = some v.inc := cell_of_row w b 7 _ _ _ h
theorem Bld.free (h : Bld w b v) (i : Nat) : w.frozen? ⟨b, i, none⟩ = false := frozen_of_row w b i _ _ h
theorem Bld.only {l : List Nat} (h : Bld w b v) (ho : Only l w w') (hb : b ∉ l) : Bld w' b v := (ho.block b h.lt hb).trans h
theorem Bld.alloc (h : Bld w b v) (o : Obj) : Bld (w.alloc o) b v := (Below.heap_alloc w o b h.lt).trans h
theorem Bld.drew (h : Bld w b v) : Bld w.drew b v := h
theorem Bld.drewN (h : Bld w b v) (n : Nat) : Bld (w.drewN n) b v := h
theorem Bld.far (h : Bld w b v) {p : Addr} (hp : b ≠ p.block) (u : Value) : Bld (w.setCell p u) b v := (Below.heap_setCell w p u b hp).trans h
theorem Bld.set0 (h : Bld w b v) (u : Value) : Bld (w.setCell ⟨b, 0, none⟩ u) b { v with err := u } := heap_setCell_same w b 0 _ _ u h
theorem Bld.set1 (h : Bld w b v) (u : Value) : Bld (w.setCell ⟨b, 1, none⟩ u) b { v with res := u } := heap_setCell_same w b 1 _ _ u h
theorem Bld.set3 (h : Bld w b v) (u : Value) : Bld (w.setCell ⟨b, 3, none⟩ u) b { v with child := u } := heap_setCell_same w b 3 _ _ u h
theorem Bld.set4 (h : Bld w b v) (u : Int) : Bld (w.setCell ⟨b, 4, none⟩ (.int .i64 u)) b { v with off := u } := heap_setCell_same w b 4 _ _ _ h
theorem Bld.set5 (h : Bld w b v) (u : Int) : Bld (w.setCell ⟨b, 5, none⟩ (.int .i64 u)) b { v with pll := u } := heap_setCell_same w b 5 _ _ _ h
theorem Bld.set7 (h : Bld w b v) (u : Value) : Bld (w.setCell ⟨b, 7, none⟩ u) b { v with inc := u } := heap_setCell_same w b 7 _ _ u h
theorem Bld.new (w : World) (v : Bv) : Bld (w.alloc (.cells v.cells 54)) w.heap.size v := heap_alloc_new w _
end

/-- The bytes of a row that a slice owns. -/
def Row (w : World) (base : Nat) (v : Value) (xs : List Int) : Prop := Byt xs ∧ w.ownsRow base 5 1 v xs.length (xs.map (Value.int .u8))
def own (v : Value) : List Nat := v.ownBlock.toList
section
variable {w w' : World} {base : Nat} {v : Value} {xs : List Int}
theorem Row.byt' (h : Row w base v xs) : Byt xs := h.1
theorem Row.nil (w : World) (base : Nat) : Row w base (.slice none 0 0) [] := ⟨Byt.nil, World.ownsRow_nil _ _ _ _⟩
theorem Row.form (h : Row w base v xs) : ∃ A c, v = .slice A xs.length c ∧ xs.length ≤ c ∧ c ≤ maxLen ∧ (∀ b, A = some b → base ≤ b.block) := own_form h.2
theorem Row.rd {A : Option Addr} {n c : Nat} (h : Row w base (.slice A n c) xs) (hn : n = xs.length) : Rd w w.heap.size A xs := by
  subst hn
  exact Rd.of_own h.1 h.2
theorem Row.ne (h : Row w base v xs) {b : Nat} {cs : Array Value} {T : TypeId} {fr : Nat × Nat} (hb : w.heap[b]? = some (.cells cs T fr)) (hT : T ≠ 5) : b ∉ own v := by
  rcases h.2.2 with ⟨rfl, _⟩ | ⟨g, cap, cur, rfl, _, hg, _⟩
  · simp [own, Value.ownBlock]
  · simp only [own, Value.ownBlock, Option.toList_some, List.mem_singleton]
    rintro rfl
    rw [hb] at hg
    simp only [Option.some.injEq, Obj.cells.injEq] at hg
    exact hT hg.2.1
theorem Row.only {l : List Nat} (h : Row w base v xs) (ho : Only l w w') (hl : ∀ k ∈ l, k ∉ own v) : Row w' base v xs := by
  refine ⟨h.1, h.2.1, ?_⟩
  rcases h.2.2 with h0 | ⟨g, cap, cur, rfl, hb, hg, hr⟩
  · exact .inl h0
  · exact .inr ⟨g, cap, cur, rfl, hb, (ho.block g (lt_of_block hg) (fun hm => hl g hm (by simp [own, Value.ownBlock]))).trans hg, hr⟩
theorem Row.low (h : Row w base v xs) : ∀ k ∈ own v, base ≤ k := by
  rcases h.2.2 with ⟨rfl, _⟩ | ⟨g, cap, cur, rfl, hb, _⟩
  · simp [own, Value.ownBlock]
  · simpa [own, Value.ownBlock] using hb
theorem Row.more (h : Row w base v xs) {base' : Nat} (hb : base' ≤ base) : Row w base' v xs := by
  refine ⟨h.1, h.2.1, ?_⟩
  rcases h.2.2 with h0 | ⟨g, cap, cur, rfl, hg, hr⟩
  · exact .inl h0
  · exact .inr ⟨g, cap, cur, rfl, Nat.le_trans hb hg, hr⟩
end

theorem append_none (w : World) (base : Nat) (v : Value) (xs : List Int) (c : Nat) (h : Row w base v xs) :
    (Builtin.append_ #[22, 22] 22 #[v, .slice none 0 c]).run Try.prog w = .ok v w := by
  obtain ⟨i0, hi, _⟩ := info_parts u8_info
  rcases h.2.2 with ⟨rfl, h0⟩ | ⟨g, cap, cur, rfl, _, _, hnc, _⟩
  · simp [Builtin.append_, run_underlying Try.underlying22, sizeOf, typeInfo, hi, Builtin.lenOf, Builtin.firstCells]
  · simp [Builtin.append_, run_underlying Try.underlying22, sizeOf, typeInfo, hi, Builtin.lenOf, Builtin.firstCells, hnc, storeCells]

/-- Appending no bytes, at the operation. -/
theorem wpList_append_none {ops : Array Oper} {rest : List Oper} {o : Oper} {a : Act} {w : World} {Q : Exit → Act → World → Prop} (hgd : o.guard = none) (s x : Operand)
    (ho : o.op = .call { callee := .builtin .append, args := #[s, x], argTypes := #[22, 22] }) (hty : o.type = 22) (base : Nat) (v : Value) (xs : List Int) (c : Nat) (hs : a.eval s = v) (hr : Row w base v xs) (hx : a.eval x = .slice none 0 c)
    (h : wpList Try.prog ops Q rest (a.put o.dst v) w) : wpList Try.prog ops Q (o :: rest) a w := by
  refine wpList_plain hgd fun _ hK => ?_
  unfold Oper.wp execOp
  simp only [ho, hty, resolve, invoke, builtin, Sem.run_bind, Sem.run_pure, Result.andThen_ok, List.map_toArray, List.map_cons, List.map_nil, hs, hx, append_none w base v xs c hr]
  exact hK _ _ h
theorem rd_cells {w : World} {B : Nat} {A : Option Addr} {xs : List Int} (h : Rd w B A xs) : ∀ ad, A = some ad → ∀ j u, (xs.map (Value.int .u8))[j]? = some u → w.cell? (ad.add j) = some u := by
  intro ad hA j u hu
  have hj : j < xs.length := by
    rcases Nat.lt_or_ge j xs.length with hj | hj
    · exact hj
    · simp [List.getElem?_eq_none hj] at hu
  obtain ⟨b, off, e, _, hc⟩ := h.2 (by omega)
  rw [hA] at e
  replace e := Option.some.inj e
  subst e
  have hp : (⟨b, off, none⟩ : Addr).add j = ⟨b, off + j, none⟩ := by unfold Addr.add; split <;> simp_all
  rw [hp, hc j hj]
  simp [List.getElem?_eq_getElem hj] at hu
  subst hu
  simp [List.getD_eq_getElem?_getD, List.getElem?_eq_getElem hj]
/-- Appending bytes that are read to a row of one's own, at the operation. -/
theorem wpList_row {ops : Array Oper} {rest : List Oper} {o : Oper} {a : Act} {w : World} {Q : Exit → Act → World → Prop} (hgd : o.guard = none) (s x : Operand)
    (ho : o.op = .call { callee := .builtin .append, args := #[s, x], argTypes := #[22, 22] }) (hty : o.type = 22) (base B : Nat) (v : Value) (ys xs : List Int) (A : Option Addr) (n c : Nat)
    (hs : a.eval s = v) (hx : a.eval x = .slice A n c) (hr : Row w base v ys) (hrd : Rd w B A xs) (hn : n = xs.length) (hb : base ≤ w.heap.size) (hl : ys.length + xs.length ≤ 140737488355328)
    (h : ∀ v' w1, Row w1 base v' (ys ++ xs) → Only (own v) w w1 → (v'.ownBlock = v.ownBlock ∨ ∀ k ∈ own v', w.heap.size ≤ k) → wpList Try.prog ops Q rest (a.put o.dst v') w1) :
    wpList Try.prog ops Q (o :: rest) a w := by
  subst hn
  obtain ⟨i0, hi, hz0, hz1, hz2⟩ := info_parts u8_info
  have hcells := rd_cells hrd
  rcases A with _ | ad
  · have h0 : xs = [] := by
      rcases xs with _ | ⟨x, xs⟩
      · rfl
      · obtain ⟨_, _, e', _⟩ := hrd.2 (by simp)
        cases e'
    subst h0
    have hq := h v w (by rw [List.append_nil]; exact hr) (Only.refl _ _) (.inl rfl)
    exact wpList_append_none hgd s x ho hty base v ys c hs hr hx hq
  · refine wpList_append_own_at w hgd s x 22 ho base 5 i0 (.int .u8 0) 1 1 Try.underlying22 hi hz0 hz1 hz2 rfl (by decide) v ys.length (ys.map (Value.int .u8)) hs hr.2 ad xs.length c (xs.map (Value.int .u8)) hx (by simp) (hcells ad rfl) (Byt.oneCells xs) (by unfold maxLen; omega) (by omega) hb ?_
    intro v' w1 hown hg _ hat
    refine h v' w1 ⟨hr.1.append hrd.byt, by simpa using hown⟩ (Only.grown hg (fun k hk _ => by simp [own, hk])) ?_
    rcases hat with e | e
    · exact .inl e
    · refine .inr fun k hk => ?_
      simp [own, e] at hk
      omega
/-- What adding bytes leaves. -/
def Added (w : World) (base b : Nat) (v : Bv) (ys xs : List Int) (e : Ending) (w' : World) : Prop :=
  ∃ r, e = .returned (.tuple #[]) ∧ Bld w' b { v with res := r } ∧ Row w' base r (ys ++ xs) ∧ Only (b :: own v.res) w w' ∧ (r.ownBlock = v.res.ownBlock ∨ ∀ k ∈ own r, w.heap.size ≤ k)
set_option maxRecDepth 100000 in
theorem Badd_any (b : Nat) (v : Bv) (A : Option Addr) (n c : Nat) (xs ys : List Int) (w : World) (base B : Nat) (h : Bld w b v) (he : v.err = .nilIface) (hch : v.child = .pointer none) (hf : v.fixed = false)
    (hr : Row w base v.res ys) (hx : Rd w B A xs) (hn : n = xs.length) (hb : base ≤ w.heap.size) (hl : ys.length + xs.length ≤ 140737488355328) :
    Calls Try.prog 40 #[.pointer (some ⟨b, 0, none⟩), .slice A n c] w (Added w base b v ys xs) := by
  subst hn
  obtain ⟨Ar, cr, hres, hrc, hrm, hrb⟩ := hr.form
  have h0 := h.c0
  have h1 := h.c1
  have h2 := h.c2
  have h3 := h.c3
  rw [he] at h0
  rw [hch] at h3
  rw [hf] at h2
  rw [hres] at h1
  have hfr := h.free 1
  have hd : decide ((ys.length : Int) + (xs.length : Int) < (xs.length : Int)) = false := decide_eq_false (by omega)
  obtain ⟨i0, hi, hz0, hz1, hz2⟩ := info_parts u8_info
  have hcells : ∀ ad, A = some ad → ∀ j u, (xs.map (Value.int .u8))[j]? = some u → w.cell? (ad.add j) = some u := rd_cells hx
  have hnon : A = none → xs = [] := by
    intro e
    rcases xs with _ | ⟨x, xs⟩
    · rfl
    · obtain ⟨_, _, e', _⟩ := hx.2 (by simp)
      rw [e] at e'
      cases e'
  have hnb : b ∉ own v.res := hr.ne h (by decide)
  have HB := Lib.hid h
  have HR := Lib.hid hr
  have HX := Lib.hid hx.byt
  have HC := Lib.hid hcells
  have HL := Lib.hid hl
  have HBa := Lib.hid hb
  have HRes := Lib.hid hres
  have HNb := Lib.hid hnb
  clear h hr hx hb he hch hf hrb hres hcells hnb
  rcases A with _ | ad
  · have h0' := hnon rfl
    subst h0'
    clear hnon
    go_enter Try.func40, Try.ntmps40
    go_wp2_with fail
    go_quiet (fail)
    go_wp2_with (at_builtin; refine wpList_append_none rfl _ _ rfl rfl base (.slice Ar ys.length cr) ys c rfl ?c9 rfl ?_)
    case c9 => have := HR.out; rw [HRes.out] at this; exact this
    go_end0
    refine ⟨v.res, rfl, ?_, ?_, ?_, .inl rfl⟩
    · have := (HB.out.drewN nq).set1 (.slice Ar ys.length cr)
      rw [← HRes.out] at this ⊢
      exact this
    · rw [List.append_nil]
      exact Row.only (l := [b]) (HR.out) (((Only.refl _ _).drewN _).setCell (.inl (by simp)) _) (by simpa using HNb.out)
    · exact ((Only.refl _ _).drewN _).setCell (.inl (by simp)) _
  · clear hnon
    go_enter Try.func40, Try.ntmps40
    go_wp2_with fail
    go_quiet (fail)
    go_wp2_with (at_builtin; refine wpList_append_own_at _ rfl _ _ 22 rfl base 5 i0 (.int .u8 0) 1 1 Try.underlying22 hi hz0 hz1 hz2 rfl (by decide) (.slice Ar ys.length cr) ys.length (ys.map (Value.int .u8)) rfl ?c9 ad xs.length c (xs.map (Value.int .u8)) rfl ?c0 (HC.out ad rfl) ?c2 ?c3 ?c4 ?c5 ?_)
    case c9 => have := HR.out.2; rw [HRes.out] at this; exact this
    case c0 => simp
    case c2 => exact Byt.oneCells xs
    case c3 => have := HL.out; unfold maxLen; omega
    case c4 => have := HL.out; omega
    case c5 => exact HBa.out
    · intro v' w1 hown hg _ hat
      obtain ⟨A', c', rfl, _, _, _⟩ := own_form hown
      have hk : Only (own v.res) w w1 := ((Only.refl _ _).drewN nq).trans (Only.grown hg (by
        rw [← HRes.out]
        intro k hk _
        simp [own, hk]))
      have hb1 := HB.out.only hk HNb.out
      have hrow : Row w1 base (.slice A' (ys.length + xs.length) c') (ys ++ xs) := ⟨HR.out.byt'.append HX.out, by simpa using hown⟩
      have hat' : (Value.slice A' (ys.length + xs.length) c').ownBlock = v.res.ownBlock ∨ ∀ k ∈ own (Value.slice A' (ys.length + xs.length) c'), w.heap.size ≤ k := by
        rw [HRes.out]
        rcases hat with e | e
        · exact .inl e
        · refine .inr fun k hk => ?_
          simp [own, e] at hk
          omega
      have hnb' : b ∉ own (Value.slice A' (ys.length + xs.length) c') := hrow.ne hb1 (by decide)
      have hf1 := hb1.free 1
      have hc1 := hb1.c1
      have HB1 := Lib.hid hb1
      have HRow := Lib.hid hrow
      have HK := Lib.hid hk
      have HAt := Lib.hid hat'
      have HNb' := Lib.hid hnb'
      clear hown hg hat hk hb1 hrow hat' hnb'
      go_wp2_with fail
      go_end0
      exact ⟨_, rfl, HB1.out.set1 _, Row.only (l := [b]) HRow.out ((Only.refl _ _).setCell (.inl (by simp)) _) (by simpa using HNb'.out), (HK.out.more (fun k hk _ => List.mem_cons_of_mem _ hk)).setCell (.inl (by simp)) _, HAt.out⟩
end Go.Proofs.Ytlnoeipbbncnfaa
