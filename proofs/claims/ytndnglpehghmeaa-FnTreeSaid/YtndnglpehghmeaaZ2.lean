/- A builder in memory; add, the numbers, the bytes: contracts. Rows of any element type that a slice owns; rows of ints. The reference's Big, Header, Wrapped, and bytes with others behind them: contracts. The builder's numbers and bytes, and what it has: contracts. The call of a continuation: contracts. flushChild: contract. Object identifiers that are right to add: isValidOID: contract. -/
import Derived.Test.YtndnglpehghmeaaZ1
import Derived.Maps.AppendAt
import Derived.BigQuiet
import Derived.Deep.QuietTactic
import Derived.StillTailTactics
import Derived.Laws.OwnMore
import Derived.Deep.RegionWith
import Derived.Deep.RegionHeld3
import Derived.Defers
import Derived.Recover
import Derived.Laws.Pointers
import Derived.Deep.DeepCutAuto
import Derived.Laws.CopyOwn
/-! ### A builder in memory; add, the numbers, the bytes: contracts. -/
namespace Go.Proofs.Ytndnglpehghmeaa
open Go.RowKit

/-- What a builder's block holds. -/
structure Bv where
  err : Value
  res : Value
  fixed : Bool
  child : Value
  off : Int
  pll : Int
  pasn : Bool
  inc : Value
def Bv.cells (v : Bv) : Array Value := #[v.err, v.res, .bool v.fixed, v.child, .int .i64 v.off, .int .i64 v.pll, .bool v.pasn, v.inc]
def Bv.zero : Bv := ⟨.nilIface, .slice none 0 0, false, .pointer none, 0, 0, false, .pointer none⟩
def Bld (w : World) (b : Nat) (v : Bv) : Prop := w.heap[b]? = some (.cells v.cells 35 (0, 0))
section
variable {w w' : World} {b : Nat} {v : Bv}
theorem Bld.lt (h : Bld w b v) : b < w.heap.size := lt_of_block h
theorem Bld.c0 (h : Bld w b v) : w.cell? ⟨b, 0, none⟩ = some v.err := cell_of_row w b 0 _ _ _ h
theorem Bld.c1 (h : Bld w b v) : w.cell? ⟨b, 1, none⟩ = some v.res := cell_of_row w b 1 _ _ _ h
theorem Bld.c2 (h : Bld w b v) : w.cell? ⟨b, 2, none⟩ = some (.bool v.fixed) := cell_of_row w b 2 _ _ _ h
theorem Bld.c3 (h : Bld w b v) : w.cell? ⟨b, 3, none⟩ = some v.child := cell_of_row w b 3 _ _ _ h
theorem Bld.c4 (h : Bld w b v) : w.cell? ⟨b, 4, none⟩ = some (.int .i64 v.off) := cell_of_row w b 4 _ _ _ h
theorem Bld.c5 (h : Bld w b v) : w.cell? ⟨b, 5, none⟩ = some (.int .i64 v.pll) := cell_of_row w b 5 _ _ _ h
theorem Bld.c6 (h : Bld w b v) : w.cell? ⟨b, 6, none⟩ = some (.bool v.pasn) := cell_of_row w b 6 _ _ _ h
theorem Bld.c7 (h : Bld w b v) : w.cell? ⟨b, 7, none⟩ = some v.inc := cell_of_row w b 7 _ _ _ h
theorem Bld.free (h : Bld w b v) (i : Nat) : w.frozen? ⟨b, i, none⟩ = false := frozen_of_row w b i _ _ h
theorem Bld.only {l : List Nat} (h : Bld w b v) (ho : Only l w w') (hb : b ∉ l) : Bld w' b v := (ho.block b h.lt hb).trans h
theorem Bld.alloc (h : Bld w b v) (o : Obj) : Bld (w.alloc o) b v := (Below.heap_alloc w o b h.lt).trans h
theorem Bld.drew (h : Bld w b v) : Bld w.drew b v := h
theorem Bld.drewN (h : Bld w b v) (n : Nat) : Bld (w.drewN n) b v := h
theorem Bld.far (h : Bld w b v) {p : Addr} (hp : b ≠ p.block) (u : Value) : Bld (w.setCell p u) b v := (Below.heap_setCell w p u b hp).trans h
theorem Bld.set0 (h : Bld w b v) (u : Value) : Bld (w.setCell ⟨b, 0, none⟩ u) b { v with err := u } := heap_setCell_same w b 0 _ _ u h
theorem Bld.set1 (h : Bld w b v) (u : Value) : Bld (w.setCell ⟨b, 1, none⟩ u) b { v with res := u } := heap_setCell_same w b 1 _ _ u h
theorem Bld.set3 (h : Bld w b v) (u : Value) : Bld (w.setCell ⟨b, 3, none⟩ u) b { v with child := u } := heap_setCell_same w b 3 _ _ u h
theorem Bld.set4 (h : Bld w b v) (u : Int) : Bld (w.setCell ⟨b, 4, none⟩ (.int .i64 u)) b { v with off := u } := heap_setCell_same w b 4 _ _ _ h
theorem Bld.set5 (h : Bld w b v) (u : Int) : Bld (w.setCell ⟨b, 5, none⟩ (.int .i64 u)) b { v with pll := u } := heap_setCell_same w b 5 _ _ _ h
theorem Bld.set7 (h : Bld w b v) (u : Value) : Bld (w.setCell ⟨b, 7, none⟩ u) b { v with inc := u } := heap_setCell_same w b 7 _ _ u h
theorem Bld.new (w : World) (v : Bv) : Bld (w.alloc (.cells v.cells 35)) w.heap.size v := heap_alloc_new w _
end

/-- The bytes of a row that a slice owns. -/
def Row (w : World) (base : Nat) (v : Value) (xs : List Int) : Prop := Byt xs ∧ w.ownsRow base 5 1 v xs.length (xs.map (Value.int .u8))
def own (v : Value) : List Nat := v.ownBlock.toList
section
variable {w w' : World} {base : Nat} {v : Value} {xs : List Int}
theorem Row.byt' (h : Row w base v xs) : Byt xs := h.1
theorem Row.nil (w : World) (base : Nat) : Row w base (.slice none 0 0) [] := ⟨Byt.nil, World.ownsRow_nil _ _ _ _⟩
theorem Row.form (h : Row w base v xs) : ∃ A c, v = .slice A xs.length c ∧ xs.length ≤ c ∧ c ≤ maxLen ∧ (∀ b, A = some b → base ≤ b.block) := own_form h.2
theorem Row.rd {A : Option Addr} {n c : Nat} (h : Row w base (.slice A n c) xs) (hn : n = xs.length) : Rd w w.heap.size A xs := by
  subst hn
  exact Rd.of_own h.1 h.2
theorem Row.ne (h : Row w base v xs) {b : Nat} {cs : Array Value} {T : TypeId} {fr : Nat × Nat} (hb : w.heap[b]? = some (.cells cs T fr)) (hT : T ≠ 5) : b ∉ own v := by
  rcases h.2.2 with ⟨rfl, _⟩ | ⟨g, cap, cur, rfl, _, hg, _⟩
  · simp [own, Value.ownBlock]
  · simp only [own, Value.ownBlock, Option.toList_some, List.mem_singleton]
    rintro rfl
    rw [hb] at hg
    simp only [Option.some.injEq, Obj.cells.injEq] at hg
    exact hT hg.2.1
theorem Row.only {l : List Nat} (h : Row w base v xs) (ho : Only l w w') (hl : ∀ k ∈ l, k ∉ own v) : Row w' base v xs := by
  refine ⟨h.1, h.2.1, ?_⟩
  rcases h.2.2 with h0 | ⟨g, cap, cur, rfl, hb, hg, hr⟩
  · exact .inl h0
  · exact .inr ⟨g, cap, cur, rfl, hb, (ho.block g (lt_of_block hg) (fun hm => hl g hm (by simp [own, Value.ownBlock]))).trans hg, hr⟩
theorem Row.low (h : Row w base v xs) : ∀ k ∈ own v, base ≤ k := by
  rcases h.2.2 with ⟨rfl, _⟩ | ⟨g, cap, cur, rfl, hb, _⟩
  · simp [own, Value.ownBlock]
  · simpa [own, Value.ownBlock] using hb
theorem Row.more (h : Row w base v xs) {base' : Nat} (hb : base' ≤ base) : Row w base' v xs := by
  refine ⟨h.1, h.2.1, ?_⟩
  rcases h.2.2 with h0 | ⟨g, cap, cur, rfl, hg, hr⟩
  · exact .inl h0
  · exact .inr ⟨g, cap, cur, rfl, Nat.le_trans hb hg, hr⟩
end

theorem append_none (w : World) (base : Nat) (v : Value) (xs : List Int) (c : Nat) (h : Row w base v xs) :
    (Builtin.append_ #[24, 24] 24 #[v, .slice none 0 c]).run Try.prog w = .ok v w := by
  obtain ⟨i0, hi, _⟩ := info_parts u8_info
  rcases h.2.2 with ⟨rfl, h0⟩ | ⟨g, cap, cur, rfl, _, _, hnc, _⟩
  · simp [Builtin.append_, run_underlying Try.underlying24, sizeOf, typeInfo, hi, Builtin.lenOf, Builtin.firstCells]
  · simp [Builtin.append_, run_underlying Try.underlying24, sizeOf, typeInfo, hi, Builtin.lenOf, Builtin.firstCells, hnc, storeCells]

/-- Appending no bytes, at the operation. -/
theorem wpList_append_none {ops : Array Oper} {rest : List Oper} {o : Oper} {a : Act} {w : World} {Q : Exit → Act → World → Prop} (hgd : o.guard = none) (s x : Operand)
    (ho : o.op = .call { callee := .builtin .append, args := #[s, x], argTypes := #[24, 24] }) (hty : o.type = 24) (base : Nat) (v : Value) (xs : List Int) (c : Nat) (hs : a.eval s = v) (hr : Row w base v xs) (hx : a.eval x = .slice none 0 c)
    (h : wpList Try.prog ops Q rest (a.put o.dst v) w) : wpList Try.prog ops Q (o :: rest) a w := by
  refine wpList_plain hgd fun _ hK => ?_
  unfold Oper.wp execOp
  simp only [ho, hty, resolve, invoke, builtin, Sem.run_bind, Sem.run_pure, Result.andThen_ok, List.map_toArray, List.map_cons, List.map_nil, hs, hx, append_none w base v xs c hr]
  exact hK _ _ h
theorem rd_cells {w : World} {B : Nat} {A : Option Addr} {xs : List Int} (h : Rd w B A xs) : ∀ ad, A = some ad → ∀ j u, (xs.map (Value.int .u8))[j]? = some u → w.cell? (ad.add j) = some u := by
  intro ad hA j u hu
  have hj : j < xs.length := by
    rcases Nat.lt_or_ge j xs.length with hj | hj
    · exact hj
    · simp [List.getElem?_eq_none hj] at hu
  obtain ⟨b, off, e, _, hc⟩ := h.2 (by omega)
  rw [hA] at e
  replace e := Option.some.inj e
  subst e
  have hp : (⟨b, off, none⟩ : Addr).add j = ⟨b, off + j, none⟩ := by unfold Addr.add; split <;> simp_all
  rw [hp, hc j hj]
  simp [List.getElem?_eq_getElem hj] at hu
  subst hu
  simp [List.getD_eq_getElem?_getD, List.getElem?_eq_getElem hj]
/-- Appending bytes that are read to a row of one's own, at the operation. -/
theorem wpList_row {ops : Array Oper} {rest : List Oper} {o : Oper} {a : Act} {w : World} {Q : Exit → Act → World → Prop} (hgd : o.guard = none) (s x : Operand)
    (ho : o.op = .call { callee := .builtin .append, args := #[s, x], argTypes := #[24, 24] }) (hty : o.type = 24) (base B : Nat) (v : Value) (ys xs : List Int) (A : Option Addr) (n c : Nat)
    (hs : a.eval s = v) (hx : a.eval x = .slice A n c) (hr : Row w base v ys) (hrd : Rd w B A xs) (hn : n = xs.length) (hb : base ≤ w.heap.size) (hl : ys.length + xs.length ≤ 140737488355328)
    (h : ∀ v' w1, Row w1 base v' (ys ++ xs) → Only (own v) w w1 → (v'.ownBlock = v.ownBlock ∨ ∀ k ∈ own v', w.heap.size ≤ k) → wpList Try.prog ops Q rest (a.put o.dst v') w1) :
    wpList Try.prog ops Q (o :: rest) a w := by
  subst hn
  obtain ⟨i0, hi, hz0, hz1, hz2⟩ := info_parts u8_info
  have hcells := rd_cells hrd
  rcases A with _ | ad
  · have h0 : xs = [] := by
      rcases xs with _ | ⟨x, xs⟩
      · rfl
      · obtain ⟨_, _, e', _⟩ := hrd.2 (by simp)
        cases e'
    subst h0
    have hq := h v w (by rw [List.append_nil]; exact hr) (Only.refl _ _) (.inl rfl)
    exact wpList_append_none hgd s x ho hty base v ys c hs hr hx hq
  · refine wpList_append_own_at w hgd s x 24 ho base 5 i0 (.int .u8 0) 1 1 Try.underlying24 hi hz0 hz1 hz2 rfl (by decide) v ys.length (ys.map (Value.int .u8)) hs hr.2 ad xs.length c (xs.map (Value.int .u8)) hx (by simp) (hcells ad rfl) (Byt.oneCells xs) (by unfold maxLen; omega) (by omega) hb ?_
    intro v' w1 hown hg _ hat
    refine h v' w1 ⟨hr.1.append hrd.byt, by simpa using hown⟩ (Only.grown hg (fun k hk _ => by simp [own, hk])) ?_
    rcases hat with e | e
    · exact .inl e
    · refine .inr fun k hk => ?_
      simp [own, e] at hk
      omega
/-- What adding bytes leaves. -/
def Added (w : World) (base b : Nat) (v : Bv) (ys xs : List Int) (e : Ending) (w' : World) : Prop :=
  ∃ r, e = .returned (.tuple #[]) ∧ Bld w' b { v with res := r } ∧ Row w' base r (ys ++ xs) ∧ Only (b :: own v.res) w w' ∧ (r.ownBlock = v.res.ownBlock ∨ ∀ k ∈ own r, w.heap.size ≤ k)
set_option maxRecDepth 100000 in
theorem Badd_any (b : Nat) (v : Bv) (A : Option Addr) (n c : Nat) (xs ys : List Int) (w : World) (base B : Nat) (h : Bld w b v) (he : v.err = .nilIface) (hch : v.child = .pointer none) (hf : v.fixed = false)
    (hr : Row w base v.res ys) (hx : Rd w B A xs) (hn : n = xs.length) (hb : base ≤ w.heap.size) (hl : ys.length + xs.length ≤ 140737488355328) :
    Calls Try.prog 55 #[.pointer (some ⟨b, 0, none⟩), .slice A n c] w (Added w base b v ys xs) := by
  subst hn
  obtain ⟨Ar, cr, hres, hrc, hrm, hrb⟩ := hr.form
  have h0 := h.c0
  have h1 := h.c1
  have h2 := h.c2
  have h3 := h.c3
  rw [he] at h0
  rw [hch] at h3
  rw [hf] at h2
  rw [hres] at h1
  have hfr := h.free 1
  have hd : decide ((ys.length : Int) + (xs.length : Int) < (xs.length : Int)) = false := decide_eq_false (by omega)
  obtain ⟨i0, hi, hz0, hz1, hz2⟩ := info_parts u8_info
  have hcells : ∀ ad, A = some ad → ∀ j u, (xs.map (Value.int .u8))[j]? = some u → w.cell? (ad.add j) = some u := rd_cells hx
  have hnon : A = none → xs = [] := by
    intro e
    rcases xs with _ | ⟨x, xs⟩
    · rfl
    · obtain ⟨_, _, e', _⟩ := hx.2 (by simp)
      rw [e] at e'
      cases e'
  have hnb : b ∉ own v.res := hr.ne h (by decide)
  have HB := Lib.hid h
  have HR := Lib.hid hr
  have HX := Lib.hid hx.byt
  have HC := Lib.hid hcells
  have HL := Lib.hid hl
  have HBa := Lib.hid hb
  have HRes := Lib.hid hres
  have HNb := Lib.hid hnb
  clear h hr hx hb he hch hf hrb hres hcells hnb
  rcases A with _ | ad
  · have h0' := hnon rfl
    subst h0'
    clear hnon
    go_enter Try.func55, Try.ntmps55
    go_wp2_with fail
    go_quiet (fail)
    go_wp2_with (at_builtin; refine wpList_append_none rfl _ _ rfl rfl base (.slice Ar ys.length cr) ys c rfl ?c9 rfl ?_)
    case c9 => have := HR.out; rw [HRes.out] at this; exact this
    go_end0
    refine ⟨v.res, rfl, ?_, ?_, ?_, .inl rfl⟩
    · have := (HB.out.drewN nq).set1 (.slice Ar ys.length cr)
      rw [← HRes.out] at this ⊢
      exact this
    · rw [List.append_nil]
      exact Row.only (l := [b]) (HR.out) (((Only.refl _ _).drewN _).setCell (.inl (by simp)) _) (by simpa using HNb.out)
    · exact ((Only.refl _ _).drewN _).setCell (.inl (by simp)) _
  · clear hnon
    go_enter Try.func55, Try.ntmps55
    go_wp2_with fail
    go_quiet (fail)
    go_wp2_with (at_builtin; refine wpList_append_own_at _ rfl _ _ 24 rfl base 5 i0 (.int .u8 0) 1 1 Try.underlying24 hi hz0 hz1 hz2 rfl (by decide) (.slice Ar ys.length cr) ys.length (ys.map (Value.int .u8)) rfl ?c9 ad xs.length c (xs.map (Value.int .u8)) rfl ?c0 (HC.out ad rfl) ?c2 ?c3 ?c4 ?c5 ?_)
    case c9 => have := HR.out.2; rw [HRes.out] at this; exact this
    case c0 => simp
    case c2 => exact Byt.oneCells xs
    case c3 => have := HL.out; unfold maxLen; omega
    case c4 => have := HL.out; omega
    case c5 => exact HBa.out
    · intro v' w1 hown hg _ hat
      obtain ⟨A', c', rfl, _, _, _⟩ := own_form hown
      have hk : Only (own v.res) w w1 := ((Only.refl _ _).drewN nq).trans (Only.grown hg (by
        rw [← HRes.out]
        intro k hk _
        simp [own, hk]))
      have hb1 := HB.out.only hk HNb.out
      have hrow : Row w1 base (.slice A' (ys.length + xs.length) c') (ys ++ xs) := ⟨HR.out.byt'.append HX.out, by simpa using hown⟩
      have hat' : (Value.slice A' (ys.length + xs.length) c').ownBlock = v.res.ownBlock ∨ ∀ k ∈ own (Value.slice A' (ys.length + xs.length) c'), w.heap.size ≤ k := by
        rw [HRes.out]
        rcases hat with e | e
        · exact .inl e
        · refine .inr fun k hk => ?_
          simp [own, e] at hk
          omega
      have hnb' : b ∉ own (Value.slice A' (ys.length + xs.length) c') := hrow.ne hb1 (by decide)
      have hf1 := hb1.free 1
      have hc1 := hb1.c1
      have HB1 := Lib.hid hb1
      have HRow := Lib.hid hrow
      have HK := Lib.hid hk
      have HAt := Lib.hid hat'
      have HNb' := Lib.hid hnb'
      clear hown hg hat hk hb1 hrow hat' hnb'
      go_wp2_with fail
      go_end0
      exact ⟨_, rfl, HB1.out.set1 _, Row.only (l := [b]) HRow.out ((Only.refl _ _).setCell (.inl (by simp)) _) (by simpa using HNb'.out), (HK.out.more (fun k hk _ => List.mem_cons_of_mem _ hk)).setCell (.inl (by simp)) _, HAt.out⟩
end Go.Proofs.Ytndnglpehghmeaa

/-! ### Rows of any element type that a slice owns; rows of ints. -/
namespace Go.Proofs.Ytndnglpehghmeaa
open Go.RowKit

section
variable {w w' : World} {base : Nat} {T : TypeId} {sz n : Nat} {v : Value} {cs : List Value}
theorem own_ne (h : w.ownsRow base T sz v n cs) {b : Nat} {xs : Array Value} {T' : TypeId} {fr : Nat × Nat} (hb : w.heap[b]? = some (.cells xs T' fr)) (hT : T' ≠ T) : b ∉ own v := by
  rcases h.2 with ⟨rfl, _⟩ | ⟨g, cap, cur, rfl, _, hg, _⟩
  · simp [own, Value.ownBlock]
  · simp only [own, Value.ownBlock, Option.toList_some, List.mem_singleton]
    rintro rfl
    rw [hb] at hg
    simp only [Option.some.injEq, Obj.cells.injEq] at hg
    exact hT hg.2.1
theorem own_only {l : List Nat} (h : w.ownsRow base T sz v n cs) (ho : Only l w w') (hl : ∀ k ∈ l, k ∉ own v) : w'.ownsRow base T sz v n cs := by
  refine ⟨h.1, ?_⟩
  rcases h.2 with h0 | ⟨g, cap, cur, rfl, hb, hg, hr⟩
  · exact .inl h0
  · exact .inr ⟨g, cap, cur, rfl, hb, (ho.block g (lt_of_block hg) (fun hm => hl g hm (by simp [own, Value.ownBlock]))).trans hg, hr⟩
theorem own_low (h : w.ownsRow base T sz v n cs) : ∀ k ∈ own v, base ≤ k := by
  rcases h.2 with ⟨rfl, _⟩ | ⟨g, cap, cur, rfl, hb, _⟩
  · simp [own, Value.ownBlock]
  · simpa [own, Value.ownBlock] using hb
theorem own_lt (h : w.ownsRow base T sz v n cs) : ∀ k ∈ own v, k < w.heap.size := by
  rcases h.2 with ⟨rfl, _⟩ | ⟨g, cap, cur, rfl, _, hg, _⟩
  · simp [own, Value.ownBlock]
  · simpa [own, Value.ownBlock] using lt_of_block hg
end

theorem int_info : (Try.prog.info? 3).map (fun i => (i.zero, i.size, i.bytes)) = some (some (.int .i64 0), 1, 8) := by kernel_rfl

/-- The ints of a row that a slice owns. -/
def RowI (w : World) (base : Nat) (v : Value) (xs : List Int) : Prop := Sml xs ∧ w.ownsRow base 3 1 v xs.length (xs.map (Value.int .i64))
section
variable {w w' : World} {base : Nat} {v : Value} {xs : List Int}
theorem RowI.nil (w : World) (base : Nat) : RowI w base (.slice none 0 0) [] := ⟨Sml.nil, World.ownsRow_nil _ _ _ _⟩
theorem RowI.form (h : RowI w base v xs) : ∃ A c, v = .slice A xs.length c ∧ xs.length ≤ c ∧ c ≤ maxLen ∧ (∀ b, A = some b → base ≤ b.block) := own_form h.2
theorem RowI.ne (h : RowI w base v xs) {b : Nat} {cs : Array Value} {T : TypeId} {fr : Nat × Nat} (hb : w.heap[b]? = some (.cells cs T fr)) (hT : T ≠ 3) : b ∉ own v := own_ne h.2 hb hT
theorem RowI.only {l : List Nat} (h : RowI w base v xs) (ho : Only l w w') (hl : ∀ k ∈ l, k ∉ own v) : RowI w' base v xs := ⟨h.1, own_only h.2 ho hl⟩
theorem RowI.low (h : RowI w base v xs) : ∀ k ∈ own v, base ≤ k := own_low h.2
theorem RowI.rd {A : Option Addr} {n c : Nat} (h : RowI w base (.slice A n c) xs) (hn : n = xs.length) : RdI w w.heap.size A xs := by
  subst hn
  refine ⟨h.1, fun hn => ?_⟩
  rcases h.2.2 with ⟨hv, h0⟩ | ⟨g, cap, cur, hv, _, hg, hnc, _, hcs, htake⟩
  · omega
  · injection hv with hA _ _
    subst hA
    refine ⟨g, 0, rfl, (Array.getElem?_eq_some_iff.1 hg).1, fun i hi => ?_⟩
    rw [Nat.zero_add, cell_of_row w g i cur 3 (0, 0) hg]
    have := congrArg (·[i]?) htake
    simp [show i < xs.length by omega] at this
    rw [this]
    simp [List.getD_eq_getElem?_getD, List.getElem?_eq_getElem hi]
end
theorem Sml.oneCells (xs : List Int) : ∀ u ∈ xs.map (Value.int .i64), u.oneCell' = true := by
  intro u hu
  simp only [List.mem_map] at hu
  obtain ⟨x, _, rfl⟩ := hu
  rfl
theorem rdI_cells {w : World} {B : Nat} {A : Option Addr} {xs : List Int} (h : RdI w B A xs) : ∀ ad, A = some ad → ∀ j u, (xs.map (Value.int .i64))[j]? = some u → w.cell? (ad.add j) = some u := by
  intro ad hA j u hu
  have hj : j < xs.length := by
    rcases Nat.lt_or_ge j xs.length with hj | hj
    · exact hj
    · simp [List.getElem?_eq_none hj] at hu
  obtain ⟨b, off, e, _, hc⟩ := h.2 (by omega)
  rw [hA] at e
  replace e := Option.some.inj e
  subst e
  have hp : (⟨b, off, none⟩ : Addr).add j = ⟨b, off + j, none⟩ := by unfold Addr.add; split <;> simp_all
  rw [hp, hc j hj]
  simp [List.getElem?_eq_getElem hj] at hu
  subst hu
  simp [List.getD_eq_getElem?_getD, List.getElem?_eq_getElem hj]
theorem appendI_none (w : World) (base : Nat) (v : Value) (xs : List Int) (c : Nat) (h : RowI w base v xs) :
    (Builtin.append_ #[40, 40] 40 #[v, .slice none 0 c]).run Try.prog w = .ok v w := by
  obtain ⟨i0, hi, _⟩ := info_parts int_info
  rcases h.2.2 with ⟨rfl, h0⟩ | ⟨g, cap, cur, rfl, _, _, hnc, _⟩
  · simp [Builtin.append_, run_underlying Try.underlying40, sizeOf, typeInfo, hi, Builtin.lenOf, Builtin.firstCells]
  · simp [Builtin.append_, run_underlying Try.underlying40, sizeOf, typeInfo, hi, Builtin.lenOf, Builtin.firstCells, hnc, storeCells]
/-- Appending ints that are read to a row of one's own, at the operation. -/
theorem wpList_rowI {ops : Array Oper} {rest : List Oper} {o : Oper} {a : Act} {w : World} {Q : Exit → Act → World → Prop} (hgd : o.guard = none) (s x : Operand)
    (ho : o.op = .call { callee := .builtin .append, args := #[s, x], argTypes := #[40, 40] }) (hty : o.type = 40) (base B : Nat) (v : Value) (ys xs : List Int) (A : Option Addr) (n c : Nat)
    (hs : a.eval s = v) (hx : a.eval x = .slice A n c) (hr : RowI w base v ys) (hrd : RdI w B A xs) (hn : n = xs.length) (hb : base ≤ w.heap.size) (hl : ys.length + xs.length ≤ 16777216)
    (h : ∀ v' w1, RowI w1 base v' (ys ++ xs) → Only (own v) w w1 → (v'.ownBlock = v.ownBlock ∨ ∀ k ∈ own v', w.heap.size ≤ k) → wpList Try.prog ops Q rest (a.put o.dst v') w1) :
    wpList Try.prog ops Q (o :: rest) a w := by
  subst hn
  obtain ⟨i0, hi, hz0, hz1, hz2⟩ := info_parts int_info
  have hcells := rdI_cells hrd
  rcases A with _ | ad
  · have h0 : xs = [] := by
      rcases xs with _ | ⟨x, xs⟩
      · rfl
      · obtain ⟨_, _, e', _⟩ := hrd.2 (by simp)
        cases e'
    subst h0
    have hq := h v w (by rw [List.append_nil]; exact hr) (Only.refl _ _) (.inl rfl)
    refine wpList_plain hgd fun _ hK => ?_
    unfold Oper.wp execOp
    simp only [ho, hty, resolve, invoke, builtin, Sem.run_bind, Sem.run_pure, Result.andThen_ok, List.map_toArray, List.map_cons, List.map_nil, hs, hx, appendI_none w base v ys c hr, List.length_nil]
    exact hK _ _ hq
  · refine wpList_append_own_at w hgd s x 40 ho base 3 i0 (.int .i64 0) 1 8 Try.underlying40 hi hz0 hz1 hz2 rfl (by decide) v ys.length (ys.map (Value.int .i64)) hs hr.2 ad xs.length c (xs.map (Value.int .i64)) hx (by simp) (hcells ad rfl) (Sml.oneCells xs) (by unfold maxLen; omega) (by omega) hb ?_
    intro v' w1 hown hg _ hat
    refine h v' w1 ⟨hr.1.append hrd.1, by simpa using hown⟩ (Only.grown hg (fun k hk _ => by simp [own, hk])) ?_
    rcases hat with e | e
    · exact .inl e
    · refine .inr fun k hk => ?_
      simp [own, e] at hk
      omega
end Go.Proofs.Ytndnglpehghmeaa

/-! ### The reference's Big, Header, Wrapped, and bytes with others behind them: contracts. -/
namespace Go.Proofs.Ytndnglpehghmeaa
open Go.RowKit

theorem Row.copied {w w' : World} {A : Option Addr} {c : Nat} {xs : List Int} (h : Row w' w.heap.size (.slice A xs.length c) xs) (hk : Only [] w w') : Copied w xs (.returned (.slice A xs.length c)) w' := by
  obtain ⟨A', c', e, h1, h2, _⟩ := h.form
  injection e with e1 e2 e3
  subst e1 e3
  exact ⟨_, _, rfl, h1, h2, h.2, hk⟩
theorem Row.copied' {w w' : World} {v : Value} {xs : List Int} (h : Row w' w.heap.size v xs) (hk : Only [] w w') : Copied w xs (.returned v) w' := by
  obtain ⟨A', c', rfl, _⟩ := h.form
  exact h.copied hk
theorem Row.alloc {w : World} {base : Nat} {v : Value} {xs : List Int} (h : Row w base v xs) (o : Obj) : Row (w.alloc o) base v xs := ⟨h.1, h.2.alloc o⟩
theorem Row.drew {w : World} {base : Nat} {v : Value} {xs : List Int} (h : Row w base v xs) : Row w.drew base v xs := ⟨h.1, h.2⟩
theorem Row.lit (w : World) (base : Nat) (xs : List Int) (hb : base ≤ w.heap.size) (hx : Byt xs) (hm : xs.length ≤ maxLen) :
    Row (w.alloc (.cells (xs.map (Value.int .u8)).toArray 5)) base (.slice (some ⟨w.heap.size, 0, none⟩) xs.length xs.length) xs := by
  refine ⟨hx, ?_⟩
  have := World.ownsRow_lit (base := base) (e := 5) (size := 1) w (xs.map (Value.int .u8)).toArray xs.length hb hm (by simp)
  simpa using this




end Go.Proofs.Ytndnglpehghmeaa

/-! ### The builder's numbers and bytes, and what it has: contracts. -/
namespace Go.Proofs.Ytndnglpehghmeaa
open Go.RowKit

theorem Added.of_alloc {w w' : World} {o : Obj} {base b : Nat} {v : Bv} {ys xs : List Int} {e : Ending} (h : Added (w.alloc o) base b v ys xs e w') : Added w base b v ys xs e w' := by
  obtain ⟨r, rfl, h1, h2, h3, h4⟩ := h
  refine ⟨r, rfl, h1, h2, ((Only.refl _ _).alloc o).trans h3, ?_⟩
  rcases h4 with h4 | h4
  · exact .inl h4
  · refine .inr fun k hk => ?_
    have := h4 k hk
    simp at this
    omega

theorem Badd_lit (b : Nat) (v : Bv) (ys L : List Int) (w : World) (base : Nat) (h : Bld w b v) (he : v.err = .nilIface) (hch : v.child = .pointer none) (hf : v.fixed = false)
    (hr : Row w base v.res ys) (hb : base ≤ w.heap.size) (hx : Byt L) (hl : ys.length + L.length ≤ 140737488355328) :
    Calls Try.prog 55 #[.pointer (some ⟨b, 0, none⟩), .slice (some ⟨w.heap.size, 0, none⟩) L.length L.length] (w.alloc (.cells (L.map (Value.int .u8)).toArray 5)) (Added w base b v ys L) :=
  (Badd_any b v _ _ _ L ys _ base _ (h.alloc _) he hch hf (hr.alloc _) ((Row.lit w w.heap.size L (Nat.le_refl _) hx (by unfold maxLen; omega)).rd rfl) rfl (by simp; omega) hl).mono fun _ _ hq => hq.of_alloc

theorem BAddUint8_any (b : Nat) (v : Bv) (x : Int) (ys : List Int) (w : World) (base : Nat) (h : Bld w b v) (he : v.err = .nilIface) (hch : v.child = .pointer none) (hf : v.fixed = false)
    (hr : Row w base v.res ys) (hb : base ≤ w.heap.size) (hl : ys.length + 8 ≤ 140737488355328) (_h0 : 0 ≤ x) (h1 : x ≤ 255) :
    Calls Try.prog 28 #[.pointer (some ⟨b, 0, none⟩), .int .u8 x] w (Added w base b v ys (bigB x 1)) := by
  have hx : Byt [x] := by
    intro y hy
    simp only [List.mem_cons, List.not_mem_nil, or_false] at hy
    omega
  have hbig : bigB x 1 = [x] := by (simp [bigB] <;> omega)
  have H2 : Hid (Calls Try.prog 55 #[.pointer (some ⟨b, 0, none⟩), .slice (some ⟨w.heap.size, 0, none⟩) 1 1] (w.alloc (.cells #[.int .u8 (x)] 5)) (Added w base b v ys (bigB x 1))) := Lib.hid (by
    rw [hbig]
    exact Badd_lit b v ys [x] w base h he hch hf hr hb hx (by simp; omega))
  clear h he hch hf hr hb hl hx hbig
  go_enter Try.func28, Try.ntmps28
  go_wp2_with fail
  refine H2.out.mono ?_
  rintro e w' ⟨r, rfl, h1⟩
  have HQ := Lib.hid h1
  clear h1 H2
  go_wp2_with fail
  go_end0
  exact ⟨r, rfl, HQ.out⟩

theorem BAddUint16_any (b : Nat) (v : Bv) (x : Int) (ys : List Int) (w : World) (base : Nat) (h : Bld w b v) (he : v.err = .nilIface) (hch : v.child = .pointer none) (hf : v.fixed = false)
    (hr : Row w base v.res ys) (hb : base ≤ w.heap.size) (hl : ys.length + 8 ≤ 140737488355328) (_h0 : 0 ≤ x) :
    Calls Try.prog 29 #[.pointer (some ⟨b, 0, none⟩), .int .u16 x] w (Added w base b v ys (bigB x 2)) := by
  have hx : Byt [x / 256 % 256, x % 256] := by
    intro y hy
    simp only [List.mem_cons, List.not_mem_nil, or_false] at hy
    omega
  have hbig : bigB x 2 = [x / 256 % 256, x % 256] := by (simp [bigB] <;> omega)
  have H2 : Hid (Calls Try.prog 55 #[.pointer (some ⟨b, 0, none⟩), .slice (some ⟨w.heap.size, 0, none⟩) 2 2] (w.alloc (.cells #[.int .u8 (x / 256 % 256), .int .u8 (x % 256)] 5)) (Added w base b v ys (bigB x 2))) := Lib.hid (by
    rw [hbig]
    exact Badd_lit b v ys [x / 256 % 256, x % 256] w base h he hch hf hr hb hx (by simp; omega))
  clear h he hch hf hr hb hl hx hbig
  go_enter Try.func29, Try.ntmps29
  go_wp2_with fail
  refine H2.out.mono ?_
  rintro e w' ⟨r, rfl, h1⟩
  have HQ := Lib.hid h1
  clear h1 H2
  go_wp2_with fail
  go_end0
  exact ⟨r, rfl, HQ.out⟩

theorem BAddUint24_any (b : Nat) (v : Bv) (x : Int) (ys : List Int) (w : World) (base : Nat) (h : Bld w b v) (he : v.err = .nilIface) (hch : v.child = .pointer none) (hf : v.fixed = false)
    (hr : Row w base v.res ys) (hb : base ≤ w.heap.size) (hl : ys.length + 8 ≤ 140737488355328) (_h0 : 0 ≤ x) :
    Calls Try.prog 30 #[.pointer (some ⟨b, 0, none⟩), .int .u32 x] w (Added w base b v ys (bigB x 3)) := by
  have hx : Byt [x / 65536 % 256, x / 256 % 256, x % 256] := by
    intro y hy
    simp only [List.mem_cons, List.not_mem_nil, or_false] at hy
    omega
  have hbig : bigB x 3 = [x / 65536 % 256, x / 256 % 256, x % 256] := by (simp [bigB] <;> omega)
  have H2 : Hid (Calls Try.prog 55 #[.pointer (some ⟨b, 0, none⟩), .slice (some ⟨w.heap.size, 0, none⟩) 3 3] (w.alloc (.cells #[.int .u8 (x / 65536 % 256), .int .u8 (x / 256 % 256), .int .u8 (x % 256)] 5)) (Added w base b v ys (bigB x 3))) := Lib.hid (by
    rw [hbig]
    exact Badd_lit b v ys [x / 65536 % 256, x / 256 % 256, x % 256] w base h he hch hf hr hb hx (by simp; omega))
  clear h he hch hf hr hb hl hx hbig
  go_enter Try.func30, Try.ntmps30
  go_wp2_with fail
  refine H2.out.mono ?_
  rintro e w' ⟨r, rfl, h1⟩
  have HQ := Lib.hid h1
  clear h1 H2
  go_wp2_with fail
  go_end0
  exact ⟨r, rfl, HQ.out⟩

theorem BAddUint32_any (b : Nat) (v : Bv) (x : Int) (ys : List Int) (w : World) (base : Nat) (h : Bld w b v) (he : v.err = .nilIface) (hch : v.child = .pointer none) (hf : v.fixed = false)
    (hr : Row w base v.res ys) (hb : base ≤ w.heap.size) (hl : ys.length + 8 ≤ 140737488355328) (_h0 : 0 ≤ x) :
    Calls Try.prog 31 #[.pointer (some ⟨b, 0, none⟩), .int .u32 x] w (Added w base b v ys (bigB x 4)) := by
  have hx : Byt [x / 16777216 % 256, x / 65536 % 256, x / 256 % 256, x % 256] := by
    intro y hy
    simp only [List.mem_cons, List.not_mem_nil, or_false] at hy
    omega
  have hbig : bigB x 4 = [x / 16777216 % 256, x / 65536 % 256, x / 256 % 256, x % 256] := by (simp [bigB] <;> omega)
  have H2 : Hid (Calls Try.prog 55 #[.pointer (some ⟨b, 0, none⟩), .slice (some ⟨w.heap.size, 0, none⟩) 4 4] (w.alloc (.cells #[.int .u8 (x / 16777216 % 256), .int .u8 (x / 65536 % 256), .int .u8 (x / 256 % 256), .int .u8 (x % 256)] 5)) (Added w base b v ys (bigB x 4))) := Lib.hid (by
    rw [hbig]
    exact Badd_lit b v ys [x / 16777216 % 256, x / 65536 % 256, x / 256 % 256, x % 256] w base h he hch hf hr hb hx (by simp; omega))
  clear h he hch hf hr hb hl hx hbig
  go_enter Try.func31, Try.ntmps31
  go_wp2_with fail
  refine H2.out.mono ?_
  rintro e w' ⟨r, rfl, h1⟩
  have HQ := Lib.hid h1
  clear h1 H2
  go_wp2_with fail
  go_end0
  exact ⟨r, rfl, HQ.out⟩

theorem BAddUint48_any (b : Nat) (v : Bv) (x : Int) (ys : List Int) (w : World) (base : Nat) (h : Bld w b v) (he : v.err = .nilIface) (hch : v.child = .pointer none) (hf : v.fixed = false)
    (hr : Row w base v.res ys) (hb : base ≤ w.heap.size) (hl : ys.length + 8 ≤ 140737488355328) (_h0 : 0 ≤ x) :
    Calls Try.prog 32 #[.pointer (some ⟨b, 0, none⟩), .int .u64 x] w (Added w base b v ys (bigB x 6)) := by
  have hx : Byt [x / 1099511627776 % 256, x / 4294967296 % 256, x / 16777216 % 256, x / 65536 % 256, x / 256 % 256, x % 256] := by
    intro y hy
    simp only [List.mem_cons, List.not_mem_nil, or_false] at hy
    omega
  have hbig : bigB x 6 = [x / 1099511627776 % 256, x / 4294967296 % 256, x / 16777216 % 256, x / 65536 % 256, x / 256 % 256, x % 256] := by (simp [bigB] <;> omega)
  have H2 : Hid (Calls Try.prog 55 #[.pointer (some ⟨b, 0, none⟩), .slice (some ⟨w.heap.size, 0, none⟩) 6 6] (w.alloc (.cells #[.int .u8 (x / 1099511627776 % 256), .int .u8 (x / 4294967296 % 256), .int .u8 (x / 16777216 % 256), .int .u8 (x / 65536 % 256), .int .u8 (x / 256 % 256), .int .u8 (x % 256)] 5)) (Added w base b v ys (bigB x 6))) := Lib.hid (by
    rw [hbig]
    exact Badd_lit b v ys [x / 1099511627776 % 256, x / 4294967296 % 256, x / 16777216 % 256, x / 65536 % 256, x / 256 % 256, x % 256] w base h he hch hf hr hb hx (by simp; omega))
  clear h he hch hf hr hb hl hx hbig
  go_enter Try.func32, Try.ntmps32
  go_wp2_with fail
  refine H2.out.mono ?_
  rintro e w' ⟨r, rfl, h1⟩
  have HQ := Lib.hid h1
  clear h1 H2
  go_wp2_with fail
  go_end0
  exact ⟨r, rfl, HQ.out⟩

theorem BAddUint64_any (b : Nat) (v : Bv) (x : Int) (ys : List Int) (w : World) (base : Nat) (h : Bld w b v) (he : v.err = .nilIface) (hch : v.child = .pointer none) (hf : v.fixed = false)
    (hr : Row w base v.res ys) (hb : base ≤ w.heap.size) (hl : ys.length + 8 ≤ 140737488355328) (_h0 : 0 ≤ x) :
    Calls Try.prog 33 #[.pointer (some ⟨b, 0, none⟩), .int .u64 x] w (Added w base b v ys (bigB x 8)) := by
  have hx : Byt [x / 72057594037927936 % 256, x / 281474976710656 % 256, x / 1099511627776 % 256, x / 4294967296 % 256, x / 16777216 % 256, x / 65536 % 256, x / 256 % 256, x % 256] := by
    intro y hy
    simp only [List.mem_cons, List.not_mem_nil, or_false] at hy
    omega
  have hbig : bigB x 8 = [x / 72057594037927936 % 256, x / 281474976710656 % 256, x / 1099511627776 % 256, x / 4294967296 % 256, x / 16777216 % 256, x / 65536 % 256, x / 256 % 256, x % 256] := by (simp [bigB] <;> omega)
  have H2 : Hid (Calls Try.prog 55 #[.pointer (some ⟨b, 0, none⟩), .slice (some ⟨w.heap.size, 0, none⟩) 8 8] (w.alloc (.cells #[.int .u8 (x / 72057594037927936 % 256), .int .u8 (x / 281474976710656 % 256), .int .u8 (x / 1099511627776 % 256), .int .u8 (x / 4294967296 % 256), .int .u8 (x / 16777216 % 256), .int .u8 (x / 65536 % 256), .int .u8 (x / 256 % 256), .int .u8 (x % 256)] 5)) (Added w base b v ys (bigB x 8))) := Lib.hid (by
    rw [hbig]
    exact Badd_lit b v ys [x / 72057594037927936 % 256, x / 281474976710656 % 256, x / 1099511627776 % 256, x / 4294967296 % 256, x / 16777216 % 256, x / 65536 % 256, x / 256 % 256, x % 256] w base h he hch hf hr hb hx (by simp; omega))
  clear h he hch hf hr hb hl hx hbig
  go_enter Try.func33, Try.ntmps33
  go_wp2_with fail
  refine H2.out.mono ?_
  rintro e w' ⟨r, rfl, h1⟩
  have HQ := Lib.hid h1
  clear h1 H2
  go_wp2_with fail
  go_end0
  exact ⟨r, rfl, HQ.out⟩

theorem BAddBytes_any (b : Nat) (v : Bv) (A : Option Addr) (n c : Nat) (xs ys : List Int) (w : World) (base B : Nat) (h : Bld w b v) (he : v.err = .nilIface) (hch : v.child = .pointer none) (hf : v.fixed = false)
    (hr : Row w base v.res ys) (hx : Rd w B A xs) (hn : n = xs.length) (hb : base ≤ w.heap.size) (hl : ys.length + xs.length ≤ 140737488355328) :
    Calls Try.prog 34 #[.pointer (some ⟨b, 0, none⟩), .slice A n c] w (Added w base b v ys xs) := by
  have H := Lib.hid (Badd_any b v A n c xs ys w base B h he hch hf hr hx hn hb hl)
  clear h he hch hf hr hx hn hb hl
  go_enter Try.func34, Try.ntmps34
  go_wp2_with fail
  refine H.out.mono ?_
  rintro e w' ⟨r, rfl, h1⟩
  have HQ := Lib.hid h1
  clear h1 H
  go_wp2_with fail
  go_end0
  exact ⟨r, rfl, HQ.out⟩


/-- What a builder hands out: bytes, and whether there is no error. -/
def Outs (w : World) (o : Option (List Int)) (e : Ending) (w' : World) : Prop :=
  ∃ A c ys ok, e = .returned (.tuple #[.slice A ys.length c, .bool ok]) ∧ Rd w' w'.heap.size A ys ∧ Only [] w w' ∧ ys.length ≤ c ∧ c ≤ maxLen ∧ (match o with | some xs => ok = true ∧ ys = xs | none => ok = false)
theorem BBytes_ok (b : Nat) (v : Bv) (ys : List Int) (w : World) (base : Nat) (h : Bld w b v) (he : v.err = .nilIface) (ho : v.off = 0) (hr : Row w base v.res ys) :
    Calls Try.prog 23 #[.pointer (some ⟨b, 0, none⟩)] w fun e w' => (∃ A c, e = .returned (.tuple #[.slice A ys.length c, .nilIface]) ∧ Rd w' w'.heap.size A ys ∧ ys.length ≤ c ∧ c ≤ maxLen) ∧ Only [] w w' := by
  obtain ⟨Ar, cr, hres, hrc, hrm, hrb⟩ := hr.form
  have h0 := h.c0
  have h1 := h.c1
  have h4 := h.c4
  rw [he] at h0
  rw [hres] at h1
  rw [ho] at h4
  rw [hres] at hr
  have HR := Lib.hid (hr.rd rfl)
  have HC := Lib.hid (And.intro hrc hrm)
  have hle : ¬ ((cr : Int) < 0) := by omega
  have h00 : (0 : Int) ≤ (ys.length : Int) := by omega
  clear h he ho hr hres hrb hrc hrm
  go_enter Try.func23, Try.ntmps23
  go_wp2_with fail
  go_quiet (fail)
  go_wp2_with fail
  go_ret2
  exact ⟨⟨Ar, cr, rfl, HR.out, HC.out.1, HC.out.2⟩, (Only.refl _ _).drewN _⟩
theorem BBytes_no (b : Nat) (v : Bv) (T : TypeId) (u : Value) (w : World) (h : Bld w b v) (he : v.err = .iface T u) :
    Calls Try.prog 23 #[.pointer (some ⟨b, 0, none⟩)] w fun e w' => e = .returned (.tuple #[.slice none 0 0, .iface T u]) ∧ Only [] w w' := by
  have h0 := h.c0
  rw [he] at h0
  clear h he
  go_enter Try.func23, Try.ntmps23
  go_wp2_with fail
  go_quiet (fail)
  go_wp2_with fail
  go_ret2
  exact ⟨rfl, (Only.refl _ _).drewN _⟩
theorem bytesOf_ok (b : Nat) (v : Bv) (ys : List Int) (w : World) (base : Nat) (h : Bld w b v) (he : v.err = .nilIface) (ho : v.off = 0) (hr : Row w base v.res ys) (hl : ys.length ≤ 140737488355328) :
    Calls Try.prog 11 #[.pointer (some ⟨b, 0, none⟩)] w (Outs w (some ys)) := by
  have H := Lib.hid (BBytes_ok b v ys w base h he ho hr)
  have HL := Lib.hid hl
  have HB := Lib.hid hr.1
  clear h he ho hr hl
  go_enter Try.func11, Try.ntmps11
  go_wp2_with fail
  refine H.out.mono ?_
  rintro e w1 ⟨⟨A, c, rfl, hrd, hc, hm⟩, hk⟩
  have C := Lib.hid (fun W hW => copied_any A ys.length c ys W w1.heap.size (hrd.keep hW) rfl HL.out)
  have K := Lib.hid hk
  clear hrd hc hm hk H
  go_wp2_with fail
  go_region_with (go_at_call 24; refine (C.out w1.drew (fun _ _ => rfl)).mono ?_; rintro e w2 ⟨A2, c2, rfl, hc2, hm2, hown2, hk2⟩)
  all_goals
    have R2 := Lib.hid (Rd.of_own HB.out hown2)
    have K2 : Hid (Only [] w w2) := Lib.hid (K.out.drew.trans hk2)
    have C2 := Lib.hid (And.intro hc2 hm2)
    clear hown2 hk2 hc2 hm2
    go_wp2_with fail
    go_ret2
    exact ⟨A2, c2, ys, true, rfl, R2.out, K2.out, C2.out.1, C2.out.2, rfl, rfl⟩
theorem bytesOf_no (b : Nat) (v : Bv) (T : TypeId) (u : Value) (w : World) (h : Bld w b v) (he : v.err = .iface T u) :
    Calls Try.prog 11 #[.pointer (some ⟨b, 0, none⟩)] w (Outs w none) := by
  have H := Lib.hid (BBytes_no b v T u w h he)
  clear h he
  go_enter Try.func11, Try.ntmps11
  go_wp2_with fail
  refine H.out.mono ?_
  rintro e w1 ⟨rfl, hk⟩
  have C := Lib.hid (fun W => copied_any none 0 0 [] W 0 (Rd.nil _ _ _) rfl (by simp))
  have K := Lib.hid hk
  clear hk H
  go_wp2_with fail
  go_region_with (go_at_call 24; refine (C.out w1.drew).mono ?_; rintro e w2 ⟨A2, c2, rfl, hc2, hm2, hown2, hk2⟩)
  all_goals
    have K2 : Hid (Only [] w w2) := Lib.hid (K.out.drew.trans hk2)
    have C2 := Lib.hid (And.intro hc2 hm2)
    clear hown2 hk2 hc2 hm2
    go_wp2_with fail
    go_ret2
    exact ⟨A2, c2, [], false, rfl, Rd.nil _ _ _, K2.out, C2.out.1, C2.out.2, rfl⟩







end Go.Proofs.Ytndnglpehghmeaa

/-! ### The call of a continuation: contracts. -/
namespace Go.Proofs.Ytndnglpehghmeaa
open Go.RowKit

/-- The deferred closure where nothing panics: the mark is taken back. -/
theorem cc_idle (pb b bi : Nat) (v : Bv) (y : Bool) (w : World) (hp : Var w pb 32 (.pointer (some ⟨b, 0, none⟩))) (h : Bld w b v) (hi : v.inc = .pointer (some ⟨bi, 0, none⟩)) (hv : Var w bi 4 (.bool y)) :
    CallsD Try.prog 73 #[.pointer (some ⟨pb, 0, none⟩)] .returning w fun e u' w' =>
      e = .returned (.tuple #[]) ∧ u' = .returning ∧ w' = w.setCell ⟨bi, 0, none⟩ (.bool false) := by
  have h7 := h.c7
  rw [hi] at h7
  have hc := hv.cell
  have hf := hv.free
  have hpc := hp.cell
  clear hp h hi hv
  refine callsD_of_wpS Try.func73 rfl fun c₀ cs hu => ?_
  apply wpS_seq
  apply wpS_region
  simp [wpOpsS, go_sem, recoverD, hu, Try.ntmps73, Exit.thenS, hpc, h7, hc, hf]
  apply wpS_seq
  apply wpS_region
  simp [wpOpsS, go_sem, recoverD, hu, Exit.thenS]
  apply wpS_seq
  apply wpS_seq
  apply wpS_region
  simp [wpOpsS, go_sem, Exit.thenS]
  refine wpS_cond (t := true) (by simp [Act.eval, Array.replicate]) ?_
  simp only [if_true]
  refine wpS_of_wp (wp_ret ?_)
  cases c₀
  simp_all [bodyPostS, results, Try.results73, Exit.thenS]

theorem BcallCont_top {Q : World → Prop} (b c bi : Nat) (F : FuncId) (cap : Array Value) (v : Bv) (w : World) (hF : ∀ args W, (callFunc F args).run Try.prog W = .ok (.enter F args) W) (h : Bld w b v) (hi : v.inc = .pointer (some ⟨bi, 0, none⟩)) (hv : Var w bi 4 (.bool false))
    (hf : Calls Try.prog F (#[.pointer (some ⟨c, 0, none⟩)] ++ cap) ((w.setCell ⟨bi, 0, none⟩ (.bool true)).alloc (.cells #[.pointer (some ⟨b, 0, none⟩)] 32)) fun e w' => e = .returned (.tuple #[]) ∧ Q w')
    (hq : ∀ w', Q w' → Var w' w.heap.size 32 (.pointer (some ⟨b, 0, none⟩)) ∧ (∃ v', Bld w' b v' ∧ v'.inc = .pointer (some ⟨bi, 0, none⟩)) ∧ ∃ y, Var w' bi 4 (.bool y)) :
    Calls Try.prog 69 #[.pointer (some ⟨b, 0, none⟩), .func (.func F) #[] cap, .pointer (some ⟨c, 0, none⟩)] w fun e w' => e = .returned (.tuple #[]) ∧ ∃ w1, Q w1 ∧ w' = w1.setCell ⟨bi, 0, none⟩ (.bool false) := by
  have hmf : ∀ (fn : Fn) (first cap : Array Value) (w : World), (Instr.makeFunc fn first cap).run Try.prog w = .ok (.func fn first cap) w := fun _ _ _ _ => rfl
  have h7 := h.c7
  rw [hi] at h7
  have hc := hv.cell
  have hfz := hv.free
  have HF := Lib.hid hf
  have HQ := Lib.hid hq
  have hb := h.lt
  have hbi := hv.lt
  clear hf hq h hi hv
  go_enter_defers Try.func69, Try.ntmps69
  go_wp2_with fail
  refine HF.out.mono ?_
  rintro e w1 ⟨rfl, q1⟩
  obtain ⟨p1, ⟨v', p2, p3⟩, y, p4⟩ := HQ.out _ q1
  have Q1 := Lib.hid q1
  have P := Lib.hid (cc_idle w.heap.size b bi v' y w1 p1 p2 p3 p4)
  clear q1 p1 p2 p3 p4 HF HQ
  go_wp2_with fail
  refine leaves_cons (f := 73) (args := #[.pointer (some ⟨w.heap.size, 0, none⟩)]) (by simp) (by simp [go_sem]) ?_
  refine P.out.mono ?_
  rintro e u' w'' ⟨rfl, rfl, rfl⟩
  exact ⟨_, results_none rfl _ _ _, rfl, w1, Q1.out, rfl⟩
end Go.Proofs.Ytndnglpehghmeaa

/-! ### flushChild: contract. -/
namespace Go.Proofs.Ytndnglpehghmeaa
open Go.RowKit

theorem Row.pos {w : World} {base : Nat} {v : Value} {xs : List Int} (h : Row w base v xs) (hn : 0 < xs.length) : ∃ g c, v = .slice (some ⟨g, 0, none⟩) xs.length c ∧ base ≤ g ∧ g < w.heap.size ∧ xs.length ≤ c ∧ c ≤ maxLen := by
  rcases h.2.2 with ⟨_, h0⟩ | ⟨g, cap, cur, rfl, hb, hg, hnc, hm, _⟩
  · omega
  · exact ⟨g, cap, rfl, hb, lt_of_block hg, hnc, hm⟩
theorem Row.cell {w : World} {base g c n : Nat} {xs : List Int} (h : Row w base (.slice (some ⟨g, 0, none⟩) n c) xs) (hn : n = xs.length) (i : Nat) (hi : i < xs.length) : w.cell? ⟨g, i, none⟩ = some (.int .u8 (xs.getD i 0)) := by
  subst hn
  rw [World.ownsRow.cellAt h.2 i (by omega)]
  simp [List.getElem?_eq_getElem hi, List.getD_eq_getElem?_getD]
theorem Row.free {w : World} {base g c n : Nat} {xs : List Int} (h : Row w base (.slice (some ⟨g, 0, none⟩) n c) xs) (hn : n = xs.length) (i : Nat) : w.frozen? ⟨g, i, none⟩ = false := by
  subst hn
  exact World.ownsRow.frozenAt h.2 i
theorem Row.set {w : World} {base g c n : Nat} {xs : List Int} (h : Row w base (.slice (some ⟨g, 0, none⟩) n c) xs) (hn : n = xs.length) (i : Nat) (x : Int) (hx : 0 ≤ x ∧ x ≤ 255) : Row (w.setCell ⟨g, i, none⟩ (.int .u8 x)) base (.slice (some ⟨g, 0, none⟩) n c) (xs.set i x) := by
  subst hn
  refine ⟨fun y hy => ?_, ?_⟩
  · rcases List.mem_or_eq_of_mem_set hy with h1 | h1
    · exact h.1 y h1
    · subst h1; exact hx
  · have := (World.ownsRow.stored h.2 i (.int .u8 x)).1
    rw [List.length_set, List.map_set]
    exact this
theorem set_mid (zs js cs : List Int) (i : Nat) (x : Int) (h : i < js.length) : (zs ++ js ++ cs).set (zs.length + i) x = zs ++ js.set i x ++ cs := by
  rw [List.append_assoc, List.set_append, if_neg (by omega), Nat.add_sub_cancel_left, List.set_append, if_pos h, List.append_assoc]

theorem take_three {α : Type} (P M D : List α) (L : Nat) (h : P.length + M.length ≤ L) : (P ++ (M ++ D)).take L = P ++ (M ++ D.take (L - (P.length + M.length))) := by
  rw [← List.append_assoc, List.take_append, List.take_of_length_le (by rw [List.length_append]; omega), List.append_assoc, List.length_append]
/-- Copying within a row. -/
theorem wpList_row_copy {ops : Array Oper} {rest : List Oper} {o : Oper} {a : Act} {w : World} {Q : Exit → Act → World → Prop} (hgd : o.guard = none) (d s : Operand)
    (ho : o.op = .call { callee := .builtin .copy, args := #[d, s], argTypes := #[24, 24] }) (base g c n off so dLen dCap sLen sCap : Nat) (xs cs : List Int)
    (hd : a.eval d = .slice (some ⟨g, off, none⟩) dLen dCap) (hs : a.eval s = .slice (some ⟨g, so, none⟩) sLen sCap)
    (hr : Row w base (.slice (some ⟨g, 0, none⟩) n c) xs) (hn : n = xs.length) (hk : cs.length = Nat.min sLen dLen) (hcs : (xs.drop so).take cs.length = cs) (hfit : off + cs.length ≤ n) (hso : so + cs.length ≤ n)
    (h : ∀ w', Row w' base (.slice (some ⟨g, 0, none⟩) n c) (splice xs off cs) → Only [g] w w' → wpList Try.prog ops Q rest (a.put o.dst (goInt cs.length)) w') :
    wpList Try.prog ops Q (o :: rest) a w := by
  obtain ⟨hb, hlen, hrow⟩ := hr
  subst hn
  rcases hrow with ⟨he, _⟩ | ⟨g', cap', cur, he, hbg, hg, hnc, hcm, hsz, htake⟩
  · simp at he
  · simp only [Value.slice.injEq, Option.some.injEq, Addr.mk.injEq, and_true, true_and] at he
    obtain ⟨rfl, rfl⟩ := he
    rw [Nat.mul_one] at hsz htake
    have hcur : xs.length ≤ cur.size := by omega
    refine wpList_copy_own hgd d s 24 24 ho 5 Try.underlying24 (by obtain ⟨i0, hi, _, hz1, _⟩ := info_parts u8_info; rw [hi]; simp [hz1]) g off dLen dCap ⟨g, so, none⟩ sLen sCap hd hs cur 5 hg (cs.map (Value.int .u8)) (by simpa using hk) ?_ (by simp; omega) (Byt.oneCells cs) ?_
    · intro j v hv
      have hj : j < cs.length := by
        rcases Nat.lt_or_ge j cs.length with hj | hj
        · exact hj
        · simp [List.getElem?_eq_none hj] at hv
      have hp : (⟨g, so, none⟩ : Addr).add j = ⟨g, so + j, none⟩ := by unfold Addr.add; split <;> simp_all
      rw [hp, cell_of_row w g (so + j) cur 5 (0, 0) hg]
      have h1 : cur.toList[so + j]? = (xs.map (Value.int .u8))[so + j]? := by
        rw [← htake, List.getElem?_take, if_pos (by omega)]
      rw [Array.getElem?_toList] at h1
      rw [h1]
      have h2 : cs[j]? = xs[so + j]? := by
        conv => lhs; rw [← hcs]
        rw [List.getElem?_take, if_pos hj, List.getElem?_drop]
      rw [List.getElem?_map] at hv ⊢
      rw [h2] at hv
      exact hv
    · have hlm : (cs.map (Value.int .u8)).length = cs.length := by simp
      have hls := length_splice xs off cs hfit
      rw [hlm]
      refine h _ ⟨?_, ?_, .inr ⟨g, c, _, by rw [hls], hbg, setRow_heap w g cur _ 5 (0, 0) hg, by rw [hls]; exact hnc, hcm, ?_, ?_⟩⟩ ⟨rfl, rfl, rfl, by simp, fun k _ hk => setRow_other w g k _ (by simpa using hk)⟩
      · intro x hx
        unfold splice at hx
        rcases List.mem_append.1 hx with h1 | h1
        · exact hb x (List.mem_of_mem_take h1)
        · rcases List.mem_append.1 h1 with h2 | h2
          · rw [← hcs] at h2
            exact hb x (List.mem_of_mem_drop (List.mem_of_mem_take h2))
          · exact hb x (List.mem_of_mem_drop h2)
      · rw [List.length_map, Nat.mul_one]
      · simp
        omega
      · rw [Nat.mul_one, hls, List.toList_toArray]
        unfold splice
        rw [List.map_append, List.map_append, List.map_take, List.map_drop, ← htake]
        have hA : (cur.toList.take off).length = off := by simp; omega
        rw [take_three _ _ _ _ (by rw [hA, List.length_map]; omega), List.take_take, Nat.min_eq_left (by omega), List.drop_take, hA, List.length_map]

/-- So many zero bytes. -/
def zeroC (m : Nat) : Array Value := ((List.replicate m (0 : Int)).map (Value.int .u8)).toArray
theorem mk_run (m : Nat) (h1 : 1 ≤ m) (h4 : m ≤ 4) (W : World) : (Instr.makeSlice 24 (.int .i64 (m : Int)) (.int .i64 (m : Int))).run Try.prog W = .ok (.slice (some ⟨W.heap.size, 0, none⟩) m m) (W.alloc (.cells (zeroC m) 5)) := by
  obtain rfl | rfl | rfl | rfl : m = 1 ∨ m = 2 ∨ m = 3 ∨ m = 4 := by omega
  all_goals kernel_rfl
theorem Badd_zeros (b : Nat) (v : Bv) (ys : List Int) (m : Nat) (w : World) (base : Nat) (h : Bld w b v) (he : v.err = .nilIface) (hch : v.child = .pointer none) (hf : v.fixed = false)
    (hr : Row w base v.res ys) (hb : base ≤ w.heap.size) (hl : ys.length + m ≤ 140737488355328) :
    Calls Try.prog 55 #[.pointer (some ⟨b, 0, none⟩), .slice (some ⟨w.heap.size, 0, none⟩) m m] (w.alloc (.cells (zeroC m) 5)) (Added w base b v ys (List.replicate m 0)) := by
  have := Badd_lit b v ys (List.replicate m 0) w base h he hch hf hr hb (fun x hx => by have := List.eq_of_mem_replicate hx; omega) (by simpa using hl)
  rw [List.length_replicate] at this
  exact this

/-- A length behind its tag. -/
def lenB (n : Nat) : List Int := if n < 128 then [(n : Int)] else (128 + nb n : Nat) :: bigB n (nb n)
theorem hdr_lenB (t : Int) (n : Nat) : hdr t n = t :: lenB n := by
  unfold hdr lenB
  split <;> rfl
/-- What a length prefix becomes, if it can tell how many bytes stand behind it. -/
def fl (asn : Bool) (m n : Nat) : Option (List Int) := if asn then some (lenB n) else if n < 256 ^ m then some (bigB n m) else none

/-- A child that is to be flushed. -/
def Kid (w : World) (base c : Nat) (asn : Bool) (m : Nat) (ys cs : List Int) (inc : Value) (r : Value) : Prop :=
  Bld w c ⟨.nilIface, r, false, .pointer none, ys.length, m, asn, inc⟩ ∧ Row w base r (ys ++ List.replicate m 0 ++ cs)

theorem errorsNew_any (s : ByteArray) (w : World) : Calls Try.prog 51 #[.string s] w fun e w' => e = .returned (.iface 92 (.pointer (some ⟨w.heap.size, 0, none⟩))) ∧ w' = w.alloc (.cells #[.string s] 94) := by
  go_enter Try.func51, Try.ntmps51
  go_wp2_with fail
  go_ret
  exact ⟨rfl, rfl⟩

set_option maxRecDepth 100000 in
/-- Nothing to flush. -/
theorem flush_none (b : Nat) (v : Bv) (w : World) (h : Bld w b v) (hch : v.child = .pointer none) : Calls Try.prog 70 #[.pointer (some ⟨b, 0, none⟩)] w fun e w' => e = .returned (.tuple #[]) ∧ w = w' := by
  have h3 := h.c3
  rw [hch] at h3
  clear h hch
  go_enter Try.func70, Try.ntmps70
  go_wp2_with fail
  refine bodyPost_ret (results_none rfl _ _ _) rfl ?_
  exact ⟨rfl, rfl⟩
end Go.Proofs.Ytndnglpehghmeaa

/-! ### Object identifiers that are right to add: isValidOID: contract. -/
namespace Go.Proofs.Ytndnglpehghmeaa
open Go.RowKit

def validOID (o : List Int) : Bool := decide (2 ≤ o.length ∧ o.getD 0 0 ≤ 2 ∧ ¬ (o.getD 0 0 ≤ 1 ∧ 40 ≤ o.getD 1 0) ∧ ∀ v ∈ o, 0 ≤ v)

theorem valid_any (A : Option Addr) (n c : Nat) (xs : List Int) (w : World) (B : Nat) (h : RdI w B A xs) (hn : n = xs.length) (hb : xs.length ≤ 4194304) :
    Calls Try.prog 64 #[.slice A n c] w fun e w' => e = .returned (.bool (validOID xs)) ∧ Only [] w w' := by
  by_cases hl : n < 2
  · have HV : Hid (validOID xs = false) := Lib.hid (by unfold validOID; simp; omega)
    have hl' : (n : Int) < 2 := by omega
    clear h hn hb hl
    go_enter Try.func64, Try.ntmps64
    go_wp2_with fail
    go_ret
    exact ⟨by rw [HV.out]; rfl, Only.refl _ _⟩
  · obtain ⟨ab, aoff, rfl, hab, hcells⟩ := h.2 (by omega)
    have hc0 := hcells 0 (by omega)
    have hc1 := hcells 1 (by omega)
    rw [Nat.add_zero] at hc0
    obtain ⟨m, rfl⟩ : ∃ m, n = m + 2 := ⟨n - 2, by omega⟩
    have hml : m ≤ 4194304 := by omega
    have HC := Lib.hid hcells
    have HN := Lib.hid hn
    obtain ⟨x0, x1⟩ := Sml.getD h.1 0
    have HG := Lib.hid h.1
    clear hcells hn hl hb h
    by_cases h2 : 2 < xs.getD 0 0
    · have HV : Hid (validOID xs = false) := Lib.hid (by unfold validOID; simp only [decide_eq_false_iff_not]; omega)
      generalize xs.getD 0 0 = a0 at *
      generalize xs.getD 1 0 = a1 at *
      go_enter Try.func64, Try.ntmps64
      go_wp2_with fail
      go_ret
      exact ⟨by rw [HV.out]; rfl, Only.refl _ _⟩
    · by_cases h40 : xs.getD 0 0 ≤ 1 ∧ 40 ≤ xs.getD 1 0
      · have HV : Hid (validOID xs = false) := Lib.hid (by unfold validOID; simp only [decide_eq_false_iff_not]; omega)
        generalize xs.getD 0 0 = a0 at *
        generalize xs.getD 1 0 = a1 at *
        obtain ⟨k1, k2⟩ := h40
        go_enter Try.func64, Try.ntmps64
        go_wp2_with fail
        go_ret
        exact ⟨by rw [HV.out]; rfl, Only.refl _ _⟩
      · have hv0 : xs.getD 0 0 ≤ 2 := by omega
        have HV0 : Hid ((∀ v ∈ xs, 0 ≤ v) → validOID xs = true) := Lib.hid (fun hall => by
          unfold validOID
          simp only [decide_eq_true_eq]
          exact ⟨by have := HN.out; omega, hv0, h40, hall⟩)
        by_cases h1 : xs.getD 0 0 ≤ 1
        · have h39 : xs.getD 1 0 < 40 := by omega
          clear h2 h40 hv0
          generalize xs.getD 0 0 = a0 at *
          generalize xs.getD 1 0 = a1 at *
          go_enter Try.func64, Try.ntmps64
          go_wp2_with fail
          go_loop [26] (fun i => ∃ j : Nat, i = .int .i64 (j : Int) ∧ j ≤ m + 2 ∧ ∀ k, k < j → 0 ≤ xs.getD k 0) (fun i => (m + 2) - (intOf i).toNat)
          case atStart => exact ⟨0, by simp, Nat.zero_le _, fun k hk => absurd hk (by omega)⟩
          case round =>
            obtain ⟨j, rfl, hj, hall⟩ := hrel
            by_cases hlt : j < m + 2
            · have hcj := HC.out j (by have := HN.out; omega)
              have hij : (j : Int) < (m : Int) + 2 := by omega
              have HALL := Lib.hid hall
              by_cases hneg : xs.getD j 0 < 0
              · have HV : Hid (validOID xs = false) := Lib.hid (by
                  unfold validOID
                  simp only [decide_eq_false_iff_not]
                  intro h
                  have h1 := h.2.2.2 (xs.getD j 0) (by
                    have := HN.out
                    rw [List.getD_eq_getElem?_getD, List.getElem?_eq_getElem (by omega)]
                    exact List.getElem_mem _)
                  omega)
                clear hall
                generalize xs.getD j 0 = x at *
                go_wp2_with fail
                go_ret
                exact ⟨by rw [HV.out]; rfl, Only.refl _ _⟩
              · have HX := Lib.hid hneg
                obtain ⟨x, hx⟩ : ∃ x, xs.getD j 0 = x := ⟨_, rfl⟩
                rw [hx] at hcj hneg
                clear hall hx
                go_wp2_with fail
                go_round
                case rel =>
                  refine ⟨j + 1, by go_num, by omega, ?_⟩
                  intro k hk
                  by_cases e : k = j
                  · subst e; have := HX.out; omega
                  · exact HALL.out k (by omega)
                case measure => simp [intOf]; omega
            · obtain rfl : j = m + 2 := by omega
              have HV : Hid (validOID xs = true) := Lib.hid (by
                refine HV0.out ?_
                intro v hv
                obtain ⟨k, hk, rfl⟩ := List.mem_iff_getElem.1 hv
                have h := hall k (by have := HN.out; omega)
                rwa [List.getD_eq_getElem?_getD, List.getElem?_eq_getElem hk] at h)
              clear hall hlt hj
              go_wp2_with fail
              go_ret
              exact ⟨by rw [HV.out]; rfl, Only.refl _ _⟩
        · clear h2 h40
          have h1b : (1 : Int) < xs.getD 0 0 := by omega
          generalize xs.getD 0 0 = a0 at *
          generalize xs.getD 1 0 = a1 at *
          go_enter Try.func64, Try.ntmps64
          go_wp2_with fail
          go_loop [26] (fun i => ∃ j : Nat, i = .int .i64 (j : Int) ∧ j ≤ m + 2 ∧ ∀ k, k < j → 0 ≤ xs.getD k 0) (fun i => (m + 2) - (intOf i).toNat)
          case atStart => exact ⟨0, by simp, Nat.zero_le _, fun k hk => absurd hk (by omega)⟩
          case round =>
            obtain ⟨j, rfl, hj, hall⟩ := hrel
            by_cases hlt : j < m + 2
            · have hcj := HC.out j (by have := HN.out; omega)
              have hij : (j : Int) < (m : Int) + 2 := by omega
              have HALL := Lib.hid hall
              by_cases hneg : xs.getD j 0 < 0
              · have HV : Hid (validOID xs = false) := Lib.hid (by
                  unfold validOID
                  simp only [decide_eq_false_iff_not]
                  intro h
                  have h1 := h.2.2.2 (xs.getD j 0) (by
                    have := HN.out
                    rw [List.getD_eq_getElem?_getD, List.getElem?_eq_getElem (by omega)]
                    exact List.getElem_mem _)
                  omega)
                clear hall
                generalize xs.getD j 0 = x at *
                go_wp2_with fail
                go_ret
                exact ⟨by rw [HV.out]; rfl, Only.refl _ _⟩
              · have HX := Lib.hid hneg
                obtain ⟨x, hx⟩ : ∃ x, xs.getD j 0 = x := ⟨_, rfl⟩
                rw [hx] at hcj hneg
                clear hall hx
                go_wp2_with fail
                go_round
                case rel =>
                  refine ⟨j + 1, by go_num, by omega, ?_⟩
                  intro k hk
                  by_cases e : k = j
                  · subst e; have := HX.out; omega
                  · exact HALL.out k (by omega)
                case measure => simp [intOf]; omega
            · obtain rfl : j = m + 2 := by omega
              have HV : Hid (validOID xs = true) := Lib.hid (by
                refine HV0.out ?_
                intro v hv
                obtain ⟨k, hk, rfl⟩ := List.mem_iff_getElem.1 hv
                have h := hall k (by have := HN.out; omega)
                rwa [List.getD_eq_getElem?_getD, List.getElem?_eq_getElem hk] at h)
              clear hall hlt hj
              go_wp2_with fail
              go_ret
              exact ⟨by rw [HV.out]; rfl, Only.refl _ _⟩
end Go.Proofs.Ytndnglpehghmeaa
