/- A builder in memory; add, the numbers, the bytes: contracts. Rows of any element type that a slice owns; rows of ints. The reference's Big, Header, Wrapped, and bytes with others behind them: contracts. The builder's numbers and bytes, and what it has: contracts. The call of a continuation: contracts. flushChild: contract. The reference's number in base 128: contract. The reference's contents of an object identifier: contract. Object identifiers that are right to add: isValidOID: contract. The reference's word on object identifiers that are right: contract. The reference's contents of integers: contracts. -/
import Derived.Test.YtlpmjahhdbcfiaaZ1
import Derived.Maps.AppendAt
import Derived.BigQuiet
import Derived.Deep.QuietTactic
import Derived.StillTailTactics
import Derived.Laws.OwnMore
import Derived.Deep.RegionWith
import Derived.Deep.RegionHeld3
import Derived.Defers
import Derived.Recover
import Derived.Laws.Pointers
import Derived.Deep.DeepCutAuto
import Derived.Laws.CopyOwn
/-! ### A builder in memory; add, the numbers, the bytes: contracts. -/
namespace Go.Proofs.Ytlpmjahhdbcfiaa
open Go.RowKit

/-- What a builder's block holds. -/
structure Bv where
  err : Value
  res : Value
  fixed : Bool
  child : Value
  off : Int
  pll : Int
  pasn : Bool
  inc : Value
def Bv.cells (v : Bv) : Array Value := #[v.err, v.res, .bool v.fixed, v.child, .int .i64 v.off, .int .i64 v.pll, .bool v.pasn, v.inc]
def Bv.zero : Bv := ⟨.nilIface, .slice none 0 0, false, .pointer none, 0, 0, false, .pointer none⟩
def Bld (w : World) (b : Nat) (v : Bv) : Prop := w.heap[b]? = some (.cells v.cells 52 (0, 0))
section
variable {w w' : World} {b : Nat} {v : Bv}
theorem Bld.lt (h : Bld w b v) : b < w.heap.size := lt_of_block h
theorem Bld.c0 (h : Bld w b v) : w.cell? ⟨b, 0, none⟩ = some v.err := cell_of_row w b 0 _ _ _ h
theorem Bld.c1 (h : Bld w b v) : w.cell? ⟨b, 1, none⟩ = some v.res := cell_of_row w b 1 _ _ _ h
theorem Bld.c2 (h : Bld w b v) : w.cell? ⟨b, 2, none⟩ = some (.bool v.fixed) := cell_of_row w b 2 _ _ _ h
theorem Bld.c3 (h : Bld w b v) : w.cell? ⟨b, 3, none⟩ = some v.child := cell_of_row w b 3 _ _ _ h
theorem Bld.c4 (h : Bld w b v) : w.cell? ⟨b, 4, none⟩ = some (.int .i64 v.off) := cell_of_row w b 4 _ _ _ h
theorem Bld.c5 (h : Bld w b v) : w.cell? ⟨b, 5, none⟩ = some (.int .i64 v.pll) := cell_of_row w b 5 _ _ _ h
theorem Bld.c6 (h : Bld w b v) : w.cell? ⟨b, 6, none⟩ = some (.bool v.pasn) := cell_of_row w b 6 _ _ _ h
theorem Bld.c7 (h : Bld w b v) : w.cell? ⟨b, 7, none⟩ = some v.inc := cell_of_row w b 7 _ _ _ h
theorem Bld.free (h : Bld w b v) (i : Nat) : w.frozen? ⟨b, i, none⟩ = false := frozen_of_row w b i _ _ h
theorem Bld.only {l : List Nat} (h : Bld w b v) (ho : Only l w w') (hb : b ∉ l) : Bld w' b v := (ho.block b h.lt hb).trans h
theorem Bld.alloc (h : Bld w b v) (o : Obj) : Bld (w.alloc o) b v := (Below.heap_alloc w o b h.lt).trans h
theorem Bld.drew (h : Bld w b v) : Bld w.drew b v := h
theorem Bld.drewN (h : Bld w b v) (n : Nat) : Bld (w.drewN n) b v := h
theorem Bld.far (h : Bld w b v) {p : Addr} (hp : b ≠ p.block) (u : Value) : Bld (w.setCell p u) b v := (Below.heap_setCell w p u b hp).trans h
theorem Bld.set0 (h : Bld w b v) (u : Value) : Bld (w.setCell ⟨b, 0, none⟩ u) b { v with err := u } := heap_setCell_same w b 0 _ _ u h
theorem Bld.set1 (h : Bld w b v) (u : Value) : Bld (w.setCell ⟨b, 1, none⟩ u) b { v with res := u } := heap_setCell_same w b 1 _ _ u h
theorem Bld.set3 (h : Bld w b v) (u : Value) : Bld (w.setCell ⟨b, 3, none⟩ u) b { v with child := u } := heap_setCell_same w b 3 _ _ u h
theorem Bld.set4 (h : Bld w b v) (u : Int) : Bld (w.setCell ⟨b, 4, none⟩ (.int .i64 u)) b { v with off := u } := heap_setCell_same w b 4 _ _ _ h
theorem Bld.set5 (h : Bld w b v) (u : Int) : Bld (w.setCell ⟨b, 5, none⟩ (.int .i64 u)) b { v with pll := u } := heap_setCell_same w b 5 _ _ _ h
theorem Bld.set7 (h : Bld w b v) (u : Value) : Bld (w.setCell ⟨b, 7, none⟩ u) b { v with inc := u } := heap_setCell_same w b 7 _ _ u h
theorem Bld.new (w : World) (v : Bv) : Bld (w.alloc (.cells v.cells 52)) w.heap.size v := heap_alloc_new w _
end

/-- The bytes of a row that a slice owns. -/
def Row (w : World) (base : Nat) (v : Value) (xs : List Int) : Prop := Byt xs ∧ w.ownsRow base 5 1 v xs.length (xs.map (Value.int .u8))
def own (v : Value) : List Nat := v.ownBlock.toList
section
variable {w w' : World} {base : Nat} {v : Value} {xs : List Int}
theorem Row.byt' (h : Row w base v xs) : Byt xs := h.1
theorem Row.nil (w : World) (base : Nat) : Row w base (.slice none 0 0) [] := ⟨Byt.nil, World.ownsRow_nil _ _ _ _⟩
theorem Row.form (h : Row w base v xs) : ∃ A c, v = .slice A xs.length c ∧ xs.length ≤ c ∧ c ≤ maxLen ∧ (∀ b, A = some b → base ≤ b.block) := own_form h.2
theorem Row.rd {A : Option Addr} {n c : Nat} (h : Row w base (.slice A n c) xs) (hn : n = xs.length) : Rd w w.heap.size A xs := by
  subst hn
  exact Rd.of_own h.1 h.2
theorem Row.ne (h : Row w base v xs) {b : Nat} {cs : Array Value} {T : TypeId} {fr : Nat × Nat} (hb : w.heap[b]? = some (.cells cs T fr)) (hT : T ≠ 5) : b ∉ own v := by
  rcases h.2.2 with ⟨rfl, _⟩ | ⟨g, cap, cur, rfl, _, hg, _⟩
  · simp [own, Value.ownBlock]
  · simp only [own, Value.ownBlock, Option.toList_some, List.mem_singleton]
    rintro rfl
    rw [hb] at hg
    simp only [Option.some.injEq, Obj.cells.injEq] at hg
    exact hT hg.2.1
theorem Row.only {l : List Nat} (h : Row w base v xs) (ho : Only l w w') (hl : ∀ k ∈ l, k ∉ own v) : Row w' base v xs := by
  refine ⟨h.1, h.2.1, ?_⟩
  rcases h.2.2 with h0 | ⟨g, cap, cur, rfl, hb, hg, hr⟩
  · exact .inl h0
  · exact .inr ⟨g, cap, cur, rfl, hb, (ho.block g (lt_of_block hg) (fun hm => hl g hm (by simp [own, Value.ownBlock]))).trans hg, hr⟩
theorem Row.low (h : Row w base v xs) : ∀ k ∈ own v, base ≤ k := by
  rcases h.2.2 with ⟨rfl, _⟩ | ⟨g, cap, cur, rfl, hb, _⟩
  · simp [own, Value.ownBlock]
  · simpa [own, Value.ownBlock] using hb
theorem Row.more (h : Row w base v xs) {base' : Nat} (hb : base' ≤ base) : Row w base' v xs := by
  refine ⟨h.1, h.2.1, ?_⟩
  rcases h.2.2 with h0 | ⟨g, cap, cur, rfl, hg, hr⟩
  · exact .inl h0
  · exact .inr ⟨g, cap, cur, rfl, Nat.le_trans hb hg, hr⟩
end

theorem append_none (w : World) (base : Nat) (v : Value) (xs : List Int) (c : Nat) (h : Row w base v xs) :
    (Builtin.append_ #[24, 24] 24 #[v, .slice none 0 c]).run Try.prog w = .ok v w := by
  obtain ⟨i0, hi, _⟩ := info_parts u8_info
  rcases h.2.2 with ⟨rfl, h0⟩ | ⟨g, cap, cur, rfl, _, _, hnc, _⟩
  · simp [Builtin.append_, run_underlying Try.underlying24, sizeOf, typeInfo, hi, Builtin.lenOf, Builtin.firstCells]
  · simp [Builtin.append_, run_underlying Try.underlying24, sizeOf, typeInfo, hi, Builtin.lenOf, Builtin.firstCells, hnc, storeCells]

/-- Appending no bytes, at the operation. -/
theorem wpList_append_none {ops : Array Oper} {rest : List Oper} {o : Oper} {a : Act} {w : World} {Q : Exit → Act → World → Prop} (hgd : o.guard = none) (s x : Operand)
    (ho : o.op = .call { callee := .builtin .append, args := #[s, x], argTypes := #[24, 24] }) (hty : o.type = 24) (base : Nat) (v : Value) (xs : List Int) (c : Nat) (hs : a.eval s = v) (hr : Row w base v xs) (hx : a.eval x = .slice none 0 c)
    (h : wpList Try.prog ops Q rest (a.put o.dst v) w) : wpList Try.prog ops Q (o :: rest) a w := by
  refine wpList_plain hgd fun _ hK => ?_
  unfold Oper.wp execOp
  simp only [ho, hty, resolve, invoke, builtin, Sem.run_bind, Sem.run_pure, Result.andThen_ok, List.map_toArray, List.map_cons, List.map_nil, hs, hx, append_none w base v xs c hr]
  exact hK _ _ h
theorem rd_cells {w : World} {B : Nat} {A : Option Addr} {xs : List Int} (h : Rd w B A xs) : ∀ ad, A = some ad → ∀ j u, (xs.map (Value.int .u8))[j]? = some u → w.cell? (ad.add j) = some u := by
  intro ad hA j u hu
  have hj : j < xs.length := by
    rcases Nat.lt_or_ge j xs.length with hj | hj
    · exact hj
    · simp [List.getElem?_eq_none hj] at hu
  obtain ⟨b, off, e, _, hc⟩ := h.2 (by omega)
  rw [hA] at e
  replace e := Option.some.inj e
  subst e
  have hp : (⟨b, off, none⟩ : Addr).add j = ⟨b, off + j, none⟩ := by unfold Addr.add; split <;> simp_all
  rw [hp, hc j hj]
  simp [List.getElem?_eq_getElem hj] at hu
  subst hu
  simp [List.getD_eq_getElem?_getD, List.getElem?_eq_getElem hj]
/-- Appending bytes that are read to a row of one's own, at the operation. -/
theorem wpList_row {ops : Array Oper} {rest : List Oper} {o : Oper} {a : Act} {w : World} {Q : Exit → Act → World → Prop} (hgd : o.guard = none) (s x : Operand)
    (ho : o.op = .call { callee := .builtin .append, args := #[s, x], argTypes := #[24, 24] }) (hty : o.type = 24) (base B : Nat) (v : Value) (ys xs : List Int) (A : Option Addr) (n c : Nat)
    (hs : a.eval s = v) (hx : a.eval x = .slice A n c) (hr : Row w base v ys) (hrd : Rd w B A xs) (hn : n = xs.length) (hb : base ≤ w.heap.size) (hl : ys.length + xs.length ≤ 140737488355328)
    (h : ∀ v' w1, Row w1 base v' (ys ++ xs) → Only (own v) w w1 → (v'.ownBlock = v.ownBlock ∨ ∀ k ∈ own v', w.heap.size ≤ k) → wpList Try.prog ops Q rest (a.put o.dst v') w1) :
    wpList Try.prog ops Q (o :: rest) a w := by
  subst hn
  obtain ⟨i0, hi, hz0, hz1, hz2⟩ := info_parts u8_info
  have hcells := rd_cells hrd
  rcases A with _ | ad
  · have h0 : xs = [] := by
      rcases xs with _ | ⟨x, xs⟩
      · rfl
      · obtain ⟨_, _, e', _⟩ := hrd.2 (by simp)
        cases e'
    subst h0
    have hq := h v w (by rw [List.append_nil]; exact hr) (Only.refl _ _) (.inl rfl)
    exact wpList_append_none hgd s x ho hty base v ys c hs hr hx hq
  · refine wpList_append_own_at w hgd s x 24 ho base 5 i0 (.int .u8 0) 1 1 Try.underlying24 hi hz0 hz1 hz2 rfl (by decide) v ys.length (ys.map (Value.int .u8)) hs hr.2 ad xs.length c (xs.map (Value.int .u8)) hx (by simp) (hcells ad rfl) (Byt.oneCells xs) (by unfold maxLen; omega) (by omega) hb ?_
    intro v' w1 hown hg _ hat
    refine h v' w1 ⟨hr.1.append hrd.byt, by simpa using hown⟩ (Only.grown hg (fun k hk _ => by simp [own, hk])) ?_
    rcases hat with e | e
    · exact .inl e
    · refine .inr fun k hk => ?_
      simp [own, e] at hk
      omega
/-- What adding bytes leaves. -/
def Added (w : World) (base b : Nat) (v : Bv) (ys xs : List Int) (e : Ending) (w' : World) : Prop :=
  ∃ r, e = .returned (.tuple #[]) ∧ Bld w' b { v with res := r } ∧ Row w' base r (ys ++ xs) ∧ Only (b :: own v.res) w w' ∧ (r.ownBlock = v.res.ownBlock ∨ ∀ k ∈ own r, w.heap.size ≤ k)
set_option maxRecDepth 100000 in
theorem Badd_any (b : Nat) (v : Bv) (A : Option Addr) (n c : Nat) (xs ys : List Int) (w : World) (base B : Nat) (h : Bld w b v) (he : v.err = .nilIface) (hch : v.child = .pointer none) (hf : v.fixed = false)
    (hr : Row w base v.res ys) (hx : Rd w B A xs) (hn : n = xs.length) (hb : base ≤ w.heap.size) (hl : ys.length + xs.length ≤ 140737488355328) :
    Calls Try.prog 74 #[.pointer (some ⟨b, 0, none⟩), .slice A n c] w (Added w base b v ys xs) := by
  subst hn
  obtain ⟨Ar, cr, hres, hrc, hrm, hrb⟩ := hr.form
  have h0 := h.c0
  have h1 := h.c1
  have h2 := h.c2
  have h3 := h.c3
  rw [he] at h0
  rw [hch] at h3
  rw [hf] at h2
  rw [hres] at h1
  have hfr := h.free 1
  have hd : decide ((ys.length : Int) + (xs.length : Int) < (xs.length : Int)) = false := decide_eq_false (by omega)
  obtain ⟨i0, hi, hz0, hz1, hz2⟩ := info_parts u8_info
  have hcells : ∀ ad, A = some ad → ∀ j u, (xs.map (Value.int .u8))[j]? = some u → w.cell? (ad.add j) = some u := rd_cells hx
  have hnon : A = none → xs = [] := by
    intro e
    rcases xs with _ | ⟨x, xs⟩
    · rfl
    · obtain ⟨_, _, e', _⟩ := hx.2 (by simp)
      rw [e] at e'
      cases e'
  have hnb : b ∉ own v.res := hr.ne h (by decide)
  have HB := Lib.hid h
  have HR := Lib.hid hr
  have HX := Lib.hid hx.byt
  have HC := Lib.hid hcells
  have HL := Lib.hid hl
  have HBa := Lib.hid hb
  have HRes := Lib.hid hres
  have HNb := Lib.hid hnb
  clear h hr hx hb he hch hf hrb hres hcells hnb
  rcases A with _ | ad
  · have h0' := hnon rfl
    subst h0'
    clear hnon
    go_enter Try.func74, Try.ntmps74
    go_wp2_with fail
    go_quiet (fail)
    go_wp2_with (at_builtin; refine wpList_append_none rfl _ _ rfl rfl base (.slice Ar ys.length cr) ys c rfl ?c9 rfl ?_)
    case c9 => have := HR.out; rw [HRes.out] at this; exact this
    go_end0
    refine ⟨v.res, rfl, ?_, ?_, ?_, .inl rfl⟩
    · have := (HB.out.drewN nq).set1 (.slice Ar ys.length cr)
      rw [← HRes.out] at this ⊢
      exact this
    · rw [List.append_nil]
      exact Row.only (l := [b]) (HR.out) (((Only.refl _ _).drewN _).setCell (.inl (by simp)) _) (by simpa using HNb.out)
    · exact ((Only.refl _ _).drewN _).setCell (.inl (by simp)) _
  · clear hnon
    go_enter Try.func74, Try.ntmps74
    go_wp2_with fail
    go_quiet (fail)
    go_wp2_with (at_builtin; refine wpList_append_own_at _ rfl _ _ 24 rfl base 5 i0 (.int .u8 0) 1 1 Try.underlying24 hi hz0 hz1 hz2 rfl (by decide) (.slice Ar ys.length cr) ys.length (ys.map (Value.int .u8)) rfl ?c9 ad xs.length c (xs.map (Value.int .u8)) rfl ?c0 (HC.out ad rfl) ?c2 ?c3 ?c4 ?c5 ?_)
    case c9 => have := HR.out.2; rw [HRes.out] at this; exact this
    case c0 => simp
    case c2 => exact Byt.oneCells xs
    case c3 => have := HL.out; unfold maxLen; omega
    case c4 => have := HL.out; omega
    case c5 => exact HBa.out
    · intro v' w1 hown hg _ hat
      obtain ⟨A', c', rfl, _, _, _⟩ := own_form hown
      have hk : Only (own v.res) w w1 := ((Only.refl _ _).drewN nq).trans (Only.grown hg (by
        rw [← HRes.out]
        intro k hk _
        simp [own, hk]))
      have hb1 := HB.out.only hk HNb.out
      have hrow : Row w1 base (.slice A' (ys.length + xs.length) c') (ys ++ xs) := ⟨HR.out.byt'.append HX.out, by simpa using hown⟩
      have hat' : (Value.slice A' (ys.length + xs.length) c').ownBlock = v.res.ownBlock ∨ ∀ k ∈ own (Value.slice A' (ys.length + xs.length) c'), w.heap.size ≤ k := by
        rw [HRes.out]
        rcases hat with e | e
        · exact .inl e
        · refine .inr fun k hk => ?_
          simp [own, e] at hk
          omega
      have hnb' : b ∉ own (Value.slice A' (ys.length + xs.length) c') := hrow.ne hb1 (by decide)
      have hf1 := hb1.free 1
      have hc1 := hb1.c1
      have HB1 := Lib.hid hb1
      have HRow := Lib.hid hrow
      have HK := Lib.hid hk
      have HAt := Lib.hid hat'
      have HNb' := Lib.hid hnb'
      clear hown hg hat hk hb1 hrow hat' hnb'
      go_wp2_with fail
      go_end0
      exact ⟨_, rfl, HB1.out.set1 _, Row.only (l := [b]) HRow.out ((Only.refl _ _).setCell (.inl (by simp)) _) (by simpa using HNb'.out), (HK.out.more (fun k hk _ => List.mem_cons_of_mem _ hk)).setCell (.inl (by simp)) _, HAt.out⟩
end Go.Proofs.Ytlpmjahhdbcfiaa

/-! ### Rows of any element type that a slice owns; rows of ints. -/
namespace Go.Proofs.Ytlpmjahhdbcfiaa
open Go.RowKit

section
variable {w w' : World} {base : Nat} {T : TypeId} {sz n : Nat} {v : Value} {cs : List Value}
theorem own_ne (h : w.ownsRow base T sz v n cs) {b : Nat} {xs : Array Value} {T' : TypeId} {fr : Nat × Nat} (hb : w.heap[b]? = some (.cells xs T' fr)) (hT : T' ≠ T) : b ∉ own v := by
  rcases h.2 with ⟨rfl, _⟩ | ⟨g, cap, cur, rfl, _, hg, _⟩
  · simp [own, Value.ownBlock]
  · simp only [own, Value.ownBlock, Option.toList_some, List.mem_singleton]
    rintro rfl
    rw [hb] at hg
    simp only [Option.some.injEq, Obj.cells.injEq] at hg
    exact hT hg.2.1
theorem own_only {l : List Nat} (h : w.ownsRow base T sz v n cs) (ho : Only l w w') (hl : ∀ k ∈ l, k ∉ own v) : w'.ownsRow base T sz v n cs := by
  refine ⟨h.1, ?_⟩
  rcases h.2 with h0 | ⟨g, cap, cur, rfl, hb, hg, hr⟩
  · exact .inl h0
  · exact .inr ⟨g, cap, cur, rfl, hb, (ho.block g (lt_of_block hg) (fun hm => hl g hm (by simp [own, Value.ownBlock]))).trans hg, hr⟩
theorem own_low (h : w.ownsRow base T sz v n cs) : ∀ k ∈ own v, base ≤ k := by
  rcases h.2 with ⟨rfl, _⟩ | ⟨g, cap, cur, rfl, hb, _⟩
  · simp [own, Value.ownBlock]
  · simpa [own, Value.ownBlock] using hb
theorem own_lt (h : w.ownsRow base T sz v n cs) : ∀ k ∈ own v, k < w.heap.size := by
  rcases h.2 with ⟨rfl, _⟩ | ⟨g, cap, cur, rfl, _, hg, _⟩
  · simp [own, Value.ownBlock]
  · simpa [own, Value.ownBlock] using lt_of_block hg
end

theorem int_info : (Try.prog.info? 3).map (fun i => (i.zero, i.size, i.bytes)) = some (some (.int .i64 0), 1, 8) := by kernel_rfl

/-- The ints of a row that a slice owns. -/
def RowI (w : World) (base : Nat) (v : Value) (xs : List Int) : Prop := Sml xs ∧ w.ownsRow base 3 1 v xs.length (xs.map (Value.int .i64))
section
variable {w w' : World} {base : Nat} {v : Value} {xs : List Int}
theorem RowI.nil (w : World) (base : Nat) : RowI w base (.slice none 0 0) [] := ⟨Sml.nil, World.ownsRow_nil _ _ _ _⟩
theorem RowI.form (h : RowI w base v xs) : ∃ A c, v = .slice A xs.length c ∧ xs.length ≤ c ∧ c ≤ maxLen ∧ (∀ b, A = some b → base ≤ b.block) := own_form h.2
theorem RowI.ne (h : RowI w base v xs) {b : Nat} {cs : Array Value} {T : TypeId} {fr : Nat × Nat} (hb : w.heap[b]? = some (.cells cs T fr)) (hT : T ≠ 3) : b ∉ own v := own_ne h.2 hb hT
theorem RowI.only {l : List Nat} (h : RowI w base v xs) (ho : Only l w w') (hl : ∀ k ∈ l, k ∉ own v) : RowI w' base v xs := ⟨h.1, own_only h.2 ho hl⟩
theorem RowI.low (h : RowI w base v xs) : ∀ k ∈ own v, base ≤ k := own_low h.2
theorem RowI.rd {A : Option Addr} {n c : Nat} (h : RowI w base (.slice A n c) xs) (hn : n = xs.length) : RdI w w.heap.size A xs := by
  subst hn
  refine ⟨h.1, fun hn => ?_⟩
  rcases h.2.2 with ⟨hv, h0⟩ | ⟨g, cap, cur, hv, _, hg, hnc, _, hcs, htake⟩
  · omega
  · injection hv with hA _ _
    subst hA
    refine ⟨g, 0, rfl, (Array.getElem?_eq_some_iff.1 hg).1, fun i hi => ?_⟩
    rw [Nat.zero_add, cell_of_row w g i cur 3 (0, 0) hg]
    have := congrArg (·[i]?) htake
    simp [show i < xs.length by omega] at this
    rw [this]
    simp [List.getD_eq_getElem?_getD, List.getElem?_eq_getElem hi]
end
theorem Sml.oneCells (xs : List Int) : ∀ u ∈ xs.map (Value.int .i64), u.oneCell' = true := by
  intro u hu
  simp only [List.mem_map] at hu
  obtain ⟨x, _, rfl⟩ := hu
  rfl
theorem rdI_cells {w : World} {B : Nat} {A : Option Addr} {xs : List Int} (h : RdI w B A xs) : ∀ ad, A = some ad → ∀ j u, (xs.map (Value.int .i64))[j]? = some u → w.cell? (ad.add j) = some u := by
  intro ad hA j u hu
  have hj : j < xs.length := by
    rcases Nat.lt_or_ge j xs.length with hj | hj
    · exact hj
    · simp [List.getElem?_eq_none hj] at hu
  obtain ⟨b, off, e, _, hc⟩ := h.2 (by omega)
  rw [hA] at e
  replace e := Option.some.inj e
  subst e
  have hp : (⟨b, off, none⟩ : Addr).add j = ⟨b, off + j, none⟩ := by unfold Addr.add; split <;> simp_all
  rw [hp, hc j hj]
  simp [List.getElem?_eq_getElem hj] at hu
  subst hu
  simp [List.getD_eq_getElem?_getD, List.getElem?_eq_getElem hj]
theorem appendI_none (w : World) (base : Nat) (v : Value) (xs : List Int) (c : Nat) (h : RowI w base v xs) :
    (Builtin.append_ #[35, 35] 35 #[v, .slice none 0 c]).run Try.prog w = .ok v w := by
  obtain ⟨i0, hi, _⟩ := info_parts int_info
  rcases h.2.2 with ⟨rfl, h0⟩ | ⟨g, cap, cur, rfl, _, _, hnc, _⟩
  · simp [Builtin.append_, run_underlying Try.underlying35, sizeOf, typeInfo, hi, Builtin.lenOf, Builtin.firstCells]
  · simp [Builtin.append_, run_underlying Try.underlying35, sizeOf, typeInfo, hi, Builtin.lenOf, Builtin.firstCells, hnc, storeCells]
/-- Appending ints that are read to a row of one's own, at the operation. -/
theorem wpList_rowI {ops : Array Oper} {rest : List Oper} {o : Oper} {a : Act} {w : World} {Q : Exit → Act → World → Prop} (hgd : o.guard = none) (s x : Operand)
    (ho : o.op = .call { callee := .builtin .append, args := #[s, x], argTypes := #[35, 35] }) (hty : o.type = 35) (base B : Nat) (v : Value) (ys xs : List Int) (A : Option Addr) (n c : Nat)
    (hs : a.eval s = v) (hx : a.eval x = .slice A n c) (hr : RowI w base v ys) (hrd : RdI w B A xs) (hn : n = xs.length) (hb : base ≤ w.heap.size) (hl : ys.length + xs.length ≤ 16777216)
    (h : ∀ v' w1, RowI w1 base v' (ys ++ xs) → Only (own v) w w1 → (v'.ownBlock = v.ownBlock ∨ ∀ k ∈ own v', w.heap.size ≤ k) → wpList Try.prog ops Q rest (a.put o.dst v') w1) :
    wpList Try.prog ops Q (o :: rest) a w := by
  subst hn
  obtain ⟨i0, hi, hz0, hz1, hz2⟩ := info_parts int_info
  have hcells := rdI_cells hrd
  rcases A with _ | ad
  · have h0 : xs = [] := by
      rcases xs with _ | ⟨x, xs⟩
      · rfl
      · obtain ⟨_, _, e', _⟩ := hrd.2 (by simp)
        cases e'
    subst h0
    have hq := h v w (by rw [List.append_nil]; exact hr) (Only.refl _ _) (.inl rfl)
    refine wpList_plain hgd fun _ hK => ?_
    unfold Oper.wp execOp
    simp only [ho, hty, resolve, invoke, builtin, Sem.run_bind, Sem.run_pure, Result.andThen_ok, List.map_toArray, List.map_cons, List.map_nil, hs, hx, appendI_none w base v ys c hr, List.length_nil]
    exact hK _ _ hq
  · refine wpList_append_own_at w hgd s x 35 ho base 3 i0 (.int .i64 0) 1 8 Try.underlying35 hi hz0 hz1 hz2 rfl (by decide) v ys.length (ys.map (Value.int .i64)) hs hr.2 ad xs.length c (xs.map (Value.int .i64)) hx (by simp) (hcells ad rfl) (Sml.oneCells xs) (by unfold maxLen; omega) (by omega) hb ?_
    intro v' w1 hown hg _ hat
    refine h v' w1 ⟨hr.1.append hrd.1, by simpa using hown⟩ (Only.grown hg (fun k hk _ => by simp [own, hk])) ?_
    rcases hat with e | e
    · exact .inl e
    · refine .inr fun k hk => ?_
      simp [own, e] at hk
      omega
end Go.Proofs.Ytlpmjahhdbcfiaa

/-! ### The reference's Big, Header, Wrapped, and bytes with others behind them: contracts. -/
namespace Go.Proofs.Ytlpmjahhdbcfiaa
open Go.RowKit

theorem Row.copied {w w' : World} {A : Option Addr} {c : Nat} {xs : List Int} (h : Row w' w.heap.size (.slice A xs.length c) xs) (hk : Only [] w w') : Copied w xs (.returned (.slice A xs.length c)) w' := by
  obtain ⟨A', c', e, h1, h2, _⟩ := h.form
  injection e with e1 e2 e3
  subst e1 e3
  exact ⟨_, _, rfl, h1, h2, h.2, hk⟩
theorem Row.copied' {w w' : World} {v : Value} {xs : List Int} (h : Row w' w.heap.size v xs) (hk : Only [] w w') : Copied w xs (.returned v) w' := by
  obtain ⟨A', c', rfl, _⟩ := h.form
  exact h.copied hk
theorem Row.alloc {w : World} {base : Nat} {v : Value} {xs : List Int} (h : Row w base v xs) (o : Obj) : Row (w.alloc o) base v xs := ⟨h.1, h.2.alloc o⟩
theorem Row.drew {w : World} {base : Nat} {v : Value} {xs : List Int} (h : Row w base v xs) : Row w.drew base v xs := ⟨h.1, h.2⟩
theorem Row.lit (w : World) (base : Nat) (xs : List Int) (hb : base ≤ w.heap.size) (hx : Byt xs) (hm : xs.length ≤ maxLen) :
    Row (w.alloc (.cells (xs.map (Value.int .u8)).toArray 5)) base (.slice (some ⟨w.heap.size, 0, none⟩) xs.length xs.length) xs := by
  refine ⟨hx, ?_⟩
  have := World.ownsRow_lit (base := base) (e := 5) (size := 1) w (xs.map (Value.int .u8)).toArray xs.length hb hm (by simp)
  simpa using this

theorem big_any (v : Int) (m : Nat) (w : World) (h0 : 0 ≤ v) (h1 : v ≤ 18446744073709551615) (hm : m ≤ 8) :
    Calls Try.prog 35 #[.int .u64 v, .int .i64 m] w (Copied w (bigB v m)) := by
  obtain ⟨i0, hi, hz0, hz1, hz2⟩ := info_parts u8_info
  have HV := Lib.hid (And.intro h0 h1)
  have HS : Hid (Row (w.alloc (.cells #[] 5)) w.heap.size (.slice (some ⟨w.heap.size, 0, none⟩) 0 0) []) := Lib.hid (Row.lit w w.heap.size [] (Nat.le_refl _) Byt.nil (by simp))
  clear h0 h1
  go_enter Try.func35, Try.ntmps35
  go_wp2_with fail
  go_loopw [5, 6] (fun o i W => ∃ j : Nat, j ≤ m ∧ i = .int .i64 ((m : Int) - 1 - j) ∧ Row W w.heap.size o (bigB (v / 256 ^ (m - j)) j) ∧ Only [] w W) (fun _ i _ => (intOf i + 1).toNat)
  case atStart => exact ⟨0, Nat.zero_le _, by simp, HS.out, (Only.refl _ _).alloc _⟩
  case round =>
    obtain ⟨j, hj, rfl, hrow, hk⟩ := hrel
    by_cases hlt : j < m
    · obtain ⟨k, hk1⟩ : ∃ k : Nat, m = j + 1 + k := ⟨m - (j + 1), by omega⟩
      have hq : (m : Int) - 1 - j = (k : Int) := by omega
      rw [hq]
      have hk7 : (k : Int) ≤ 7 := by omega
      have HQ := Lib.hid hq
      have HM := Lib.hid hk1
      have HRow := Lib.hid hrow
      have HK := Lib.hid hk
      clear hq hk1 hrow hk hj hlt
      have hx : Byt [v / 2 ^ (8 * k) % 256] := by
        intro x hx
        simp only [List.mem_singleton] at hx
        omega
      have HX := Lib.hid (Row.lit wr w.heap.size [v / 2 ^ (8 * k) % 256] HK.out.size hx (by unfold maxLen; simp))
      have HRA := Lib.hid (HRow.out.alloc (.cells (([v / 2 ^ (8 * k) % 256] : List Int).map (Value.int .u8)).toArray 5))
      clear hx
      go_wp2_with (at_builtin; refine wpList_row rfl _ _ rfl rfl w.heap.size _ _ _ [v / 2 ^ (8 * k) % 256] (some ⟨wr.heap.size, 0, none⟩) 1 1 rfl rfl HRA.out (HX.out.rd rfl) rfl ?c1 ?c2 ?_)
      case c1 => have := HK.out.size; simp; omega
      case c2 => simp [bigB_len]; have := HM.out; omega
      intro v' w1 hr1 hk1 _
      have HR1 := Lib.hid hr1
      have HK1 := Lib.hid hk1
      clear hr1 hk1
      go_wp2_with fail
      go_roundw
      case rel =>
        refine ⟨j + 1, by have := HM.out; omega, ?_, ?_, ?_⟩
        · have := HQ.out; exact congrArg _ (by omega)
        · have hb := HR1.out
          have e1 : m - (j + 1) = k := by have := HM.out; omega
          have e2 : m - j = k + 1 := by have := HM.out; omega
          rw [e1]
          rw [e2] at hb
          rw [bigB_succ, Int.ediv_ediv_of_nonneg (Int.le_of_lt (Int.pow_pos (by decide))), ← Int.pow_succ, ← two_pow_eight]
          rwa [two_pow_eight] at hb ⊢
        · refine ((HK.out.alloc _).then HK1.out ?_)
          intro i hi hlt
          have := HRow.out.low i hi
          omega
      case measure => simp [intOf]
    · have e : m = j := by omega
      subst e
      have hq : (m : Int) - 1 - m = -1 := by omega
      rw [hq]
      have hz : m - m = 0 := by omega
      rw [hz, Int.pow_zero, Int.ediv_one] at hrow
      have HRow := Lib.hid hrow
      have HK := Lib.hid hk
      clear hrow hk hq hz hlt hj
      go_wp2_with fail
      go_ret
      exact HRow.out.copied' HK.out

theorem behind_any (A A' : Option Addr) (n n' c c' : Nat) (xs ys : List Int) (w : World) (B B' : Nat) (h : Rd w B A xs) (h' : Rd w B' A' ys) (hB : B ≤ w.heap.size) (hB' : B' ≤ w.heap.size) (hn : n = xs.length) (hn' : n' = ys.length) (hl : xs.length + ys.length ≤ 140737488355328) :
    Calls Try.prog 14 #[.slice A n c, .slice A' n' c'] w (Copied w (xs ++ ys)) := by
  subst hn hn'
  have HS := Lib.hid (Row.lit w w.heap.size [] (Nat.le_refl _) Byt.nil (by simp))
  have HX := Lib.hid (h.alloc hB (.cells (([] : List Int).map (Value.int .u8)).toArray 5))
  have HY := Lib.hid (h'.alloc hB' (.cells (([] : List Int).map (Value.int .u8)).toArray 5))
  have HL := Lib.hid hl
  have HBB := Lib.hid (And.intro hB hB')
  clear h h' hB hB' hl
  go_enter Try.func14, Try.ntmps14
  go_wp2_with (at_builtin; refine wpList_row rfl (.tmp 5) (.tmp 6) rfl rfl w.heap.size B _ [] xs A xs.length c rfl rfl HS.out HX.out rfl ?c1 ?c2 ?_)
  case c1 => simp
  case c2 => have := HL.out; simp; omega
  intro v' w1 hr1 hk1 hat
  have hk1' : Only [] w w1 := ((Only.refl _ _).alloc _).then hk1 (by
    intro i hi hlt
    simp [own, Value.ownBlock] at hi
    omega)
  have HY1 : Hid (Rd w1 B' A' ys) := Lib.hid (HY.out.only hk1 (by
    intro i hi
    have := HBB.out
    simp [own, Value.ownBlock] at hi
    omega) (by have := HBB.out; simp; omega))
  have HR1 := Lib.hid hr1
  have HK1 := Lib.hid hk1'
  clear hr1 hk1 hk1' hat HY HX HS
  go_wp2_with (at_builtin; refine wpList_row rfl (.tmp 7) (.tmp 8) rfl rfl w.heap.size B' v' _ ys A' ys.length c' rfl rfl HR1.out HY1.out rfl ?d1 ?d2 ?_)
  case d1 => exact HK1.out.size
  case d2 => have := HL.out; simp; omega
  intro v2 w2 hr2 hk2 _
  have HR2 := Lib.hid hr2
  have HK2 : Hid (Only [] w w2) := Lib.hid (HK1.out.then hk2 (by
    intro i hi hlt
    have := HR1.out.low i hi
    omega))
  clear hr2 hk2
  go_wp2_with fail
  go_ret
  exact HR2.out.copied' HK2.out

theorem hdr_nb {n j : Nat} (h : 128 ≤ n) (hn : n < 4294967296) (h0 : (n : Int) / 256 ^ j = 0) (hj : j = 0 ∨ (n : Int) / 256 ^ (j - 1) ≠ 0) : j = nb n := by
  have hp : (0 : Int) < 256 ^ j := Int.pow_pos (by decide)
  have hlt : (n : Int) < 256 ^ j := by
    have := Int.emod_add_mul_ediv n (256 ^ j)
    rw [h0] at this
    have h2 := Int.emod_lt_of_pos n hp
    simp at this
    omega
  rcases hj with rfl | hj
  · simp at hlt
    omega
  · have hj0 : j ≠ 0 := by
      rintro rfl
      simp at hlt
      omega
    have hp1 : (0 : Int) < 256 ^ (j - 1) := Int.pow_pos (by decide)
    have hle : (256 : Int) ^ (j - 1) ≤ n := by
      rcases Int.lt_or_le (n : Int) (256 ^ (j - 1)) with h3 | h3
      · exact absurd (Int.ediv_eq_zero_of_lt (by omega) h3) hj
      · exact h3
    have hj4 : j ≤ 4 := by
      rcases Nat.lt_or_ge 4 j with h4 | h4
      · exfalso
        have := (pow_mono 4 (j - 1 - 4)).2
        rw [show 4 + (j - 1 - 4) = j - 1 by omega, show (256 : Int) ^ 4 = 4294967296 by decide] at this
        omega
      · exact h4
    exact (nb_unique (by omega) hj4 hle hlt).symm
theorem header_any (t : Int) (n : Nat) (w : World) (h0 : 0 ≤ t) (h1 : t ≤ 255) (hn : n < 4294967296) :
    Calls Try.prog 85 #[.int .i64 t, .int .i64 n] w (Copied w (hdr t n)) := by
  have hn' : (n : Int) < 4294967296 := by omega
  by_cases h : n < 128
  · have hlt : (n : Int) < 128 := by omega
    have hx : Byt [t, (n : Int)] := by
      intro x hx
      simp only [List.mem_cons, List.not_mem_nil, or_false] at hx
      rcases hx with rfl | rfl <;> omega
    have HX := Lib.hid (Row.lit w w.heap.size [t, (n : Int)] (Nat.le_refl _) hx (by unfold maxLen; simp))
    have HH := Lib.hid (hdr_short (t := t) h)
    clear hx h
    go_enter Try.func85, Try.ntmps85
    go_wp2_with fail
    go_ret
    rw [HH.out]
    exact HX.out.copied' ((Only.refl _ _).alloc _)
  · have hge : ¬ (n : Int) < 128 := by omega
    have HN := Lib.hid (And.intro (show 128 ≤ n by omega) hn)
    have HS := Lib.hid (Row.lit w w.heap.size [] (Nat.le_refl _) Byt.nil (by simp))
    have HT := Lib.hid (And.intro h0 h1)
    clear h hn
    go_enter Try.func85, Try.ntmps85
    go_wp2_with fail
    go_loopw [5, 6] (fun o i W => ∃ j : Nat, i = .int .i64 ((n : Int) / 256 ^ j) ∧ (j = 0 ∨ (n : Int) / 256 ^ (j - 1) ≠ 0) ∧ Row W w.heap.size o (bigB n j) ∧ Only [] w W) (fun _ i _ => (intOf i).toNat)
    case atStart => exact ⟨0, by simp, .inl rfl, HS.out, (Only.refl _ _).alloc _⟩
    case round =>
      obtain ⟨j, rfl, hj, hrow, hk⟩ := hrel
      have q0 : 0 ≤ (n : Int) / 256 ^ j := Int.ediv_nonneg (by omega) (Int.le_of_lt (Int.pow_pos (by decide)))
      have q1 : (n : Int) / 256 ^ j ≤ 4294967295 := by
        have := Int.ediv_le_self (a := (n : Int)) (256 ^ j) (by omega)
        omega
      by_cases hz : (n : Int) / 256 ^ j = 0
      · have ej := hdr_nb HN.out.1 HN.out.2 hz hj
        rw [hz]
        have HRow := Lib.hid hrow
        have HK := Lib.hid hk
        have HE := Lib.hid ej
        have hx : Byt [t, 128 + (j : Int)] := by
          intro x hx
          have := HT.out
          have := nb_bd n
          simp only [List.mem_cons, List.not_mem_nil, or_false] at hx
          rcases hx with rfl | rfl <;> omega
        have hj4 : (j : Int) ≤ 4 := by have := nb_bd n; omega
        obtain ⟨A5, c5, rfl, hc5, hm5, hA5⟩ := hrow.form
        have hlb := bigB_len j n
        rw [hlb] at hc5 HRow ⊢
        have HX := Lib.hid (Row.lit wr w.heap.size [t, 128 + (j : Int)] HK.out.size hx (by unfold maxLen; simp))
        have HRA := Lib.hid (HRow.out.alloc (.cells ([t, 128 + (j : Int)].map (Value.int .u8)).toArray 5))
        clear hj hrow hk hz ej hx hlb hc5 hm5 hA5 q0 q1
        go_wp2_with (at_builtin; refine wpList_row rfl (.tmp 32) (.tmp 33) rfl rfl w.heap.size _ _ [t, 128 + (j : Int)] (bigB n j) A5 j c5 rfl rfl HX.out (HRA.out.rd (bigB_len _ _).symm) (bigB_len _ _).symm ?e1 ?e2 ?_)
        case e1 => have := HK.out.size; simp; omega
        case e2 => rw [bigB_len]; simp; omega
        intro v' w1 hr1 hk1 _
        have HR1 := Lib.hid hr1
        have HK1 : Hid (Only [] w w1) := Lib.hid ((HK.out.alloc _).then hk1 (by
          intro i hi hlt
          have := HK.out.size
          simp [own, Value.ownBlock] at hi
          omega))
        clear hr1 hk1
        go_wp2_with fail
        go_ret
        have h2 := HR1.out
        rw [hdr_long HN.out.1, ← HE.out]
        exact h2.copied' HK1.out
      · have HJ := Lib.hid hj
        have HRow := Lib.hid hrow
        have HK := Lib.hid hk
        have hpos : 0 < (n : Int) / 256 ^ j := by omega
        obtain ⟨q, hq⟩ : ∃ q, (n : Int) / 256 ^ j = q := ⟨_, rfl⟩
        have HQ := Lib.hid hq
        rw [hq] at q0 q1 hpos ⊢
        have hx : Byt [q % 256] := by
          intro x hx
          simp only [List.mem_singleton] at hx
          omega
        have HX := Lib.hid (Row.lit wr w.heap.size [q % 256] HK.out.size hx (by unfold maxLen; simp))
        obtain ⟨A5, c5, rfl, hc5, hm5, hA5⟩ := hrow.form
        have hlb := bigB_len j n
        rw [hlb] at hc5 HRow ⊢
        have HRA := Lib.hid ((HRow.out.alloc (.cells ([q % 256].map (Value.int .u8)).toArray 5)).rd hlb.symm)
        clear hj hrow hk hz hq hx hlb hc5 hm5 hA5
        go_wp2_with (at_builtin; refine wpList_row rfl (.tmp 23) (.tmp 24) rfl rfl w.heap.size _ _ [q % 256] (bigB n j) A5 j c5 rfl rfl HX.out HRA.out (bigB_len _ _).symm ?c1 ?c2 ?_)
        case c1 => have := HK.out.size; simp; omega
        case c2 =>
          have hj4 : j ≤ 4 := by
            rcases Nat.lt_or_ge 4 j with h4 | h4
            · exfalso
              have h5 := (pow_mono 4 (j - 4)).2
              rw [show 4 + (j - 4) = j by omega, show (256 : Int) ^ 4 = 4294967296 by decide] at h5
              have h6 := HQ.out
              rw [Int.ediv_eq_zero_of_lt (by omega) (by omega)] at h6
              omega
            · exact h4
          rw [bigB_len]
          simp
          omega
        intro v' w1 hr1 hk1 _
        have HR1 := Lib.hid hr1
        have HK1 := Lib.hid hk1
        clear hr1 hk1
        go_wp2_with fail
        go_roundw
        case rel =>
          have hq := HQ.out
          refine ⟨j + 1, ?_, .inr ?_, ?_, ?_⟩
          · rw [← hq, Int.ediv_ediv_of_nonneg (Int.le_of_lt (Int.pow_pos (by decide))), ← Int.pow_succ]
          · rw [Nat.add_sub_cancel, hq]
            omega
          · rw [bigB_cons, hq]
            exact HR1.out
          · refine (HK.out.alloc _).then HK1.out ?_
            intro i hi hlt
            have := HK.out.size
            simp [own, Value.ownBlock] at hi
            omega
        case measure => simp [intOf]; omega

theorem wrapped_any (t : Int) (A : Option Addr) (n c : Nat) (xs : List Int) (w : World) (B : Nat) (h : Rd w B A xs) (hn : n = xs.length) (hB : B ≤ w.heap.size) (ht : 0 ≤ t ∧ t ≤ 255) (hl : xs.length ≤ 8388608) :
    Calls Try.prog 69 #[.int .i64 t, .slice A n c] w (Copied w (wrapped t xs)) := by
  subst hn
  have H := Lib.hid (header_any t xs.length w ht.1 ht.2 (by omega))
  have HH := Lib.hid h
  have HL := Lib.hid (And.intro hl (And.intro hB ht))
  clear h hB ht hl
  go_enter Try.func69, Try.ntmps69
  go_wp2_with fail
  refine H.out.mono ?_
  rintro e w1 ⟨A1, c1, rfl, hc1, hm1, hown1, hk1⟩
  have RW := Lib.hid (show Row w1 w.heap.size (.slice A1 (hdr t xs.length).length c1) (hdr t xs.length) from ⟨hdr_byt HL.out.2.2, hown1⟩)
  have K1 := Lib.hid hk1
  clear hc1 hm1 hown1 hk1 H
  go_wp2_with (at_builtin; refine wpList_row rfl (.tmp 8) (.tmp 9) rfl rfl w.heap.size B _ (hdr t xs.length) xs A xs.length c rfl rfl RW.out (HH.out.only K1.out (by simp) HL.out.2.1) rfl ?c1 ?c2 ?_)
  case c1 => exact K1.out.size
  case c2 => have := hdr_len_le t xs.length; have := HL.out; omega
  intro v' w2 hr2 hk2 _
  have HR2 := Lib.hid hr2
  have HK2 : Hid (Only [] w w2) := Lib.hid (K1.out.then hk2 (by
    intro i hi hlt
    have := RW.out.low i hi
    omega))
  clear hr2 hk2
  go_wp2_with fail
  go_ret
  exact Row.copied' HR2.out HK2.out
end Go.Proofs.Ytlpmjahhdbcfiaa

/-! ### The builder's numbers and bytes, and what it has: contracts. -/
namespace Go.Proofs.Ytlpmjahhdbcfiaa
open Go.RowKit

theorem Added.of_alloc {w w' : World} {o : Obj} {base b : Nat} {v : Bv} {ys xs : List Int} {e : Ending} (h : Added (w.alloc o) base b v ys xs e w') : Added w base b v ys xs e w' := by
  obtain ⟨r, rfl, h1, h2, h3, h4⟩ := h
  refine ⟨r, rfl, h1, h2, ((Only.refl _ _).alloc o).trans h3, ?_⟩
  rcases h4 with h4 | h4
  · exact .inl h4
  · refine .inr fun k hk => ?_
    have := h4 k hk
    simp at this
    omega

theorem Badd_lit (b : Nat) (v : Bv) (ys L : List Int) (w : World) (base : Nat) (h : Bld w b v) (he : v.err = .nilIface) (hch : v.child = .pointer none) (hf : v.fixed = false)
    (hr : Row w base v.res ys) (hb : base ≤ w.heap.size) (hx : Byt L) (hl : ys.length + L.length ≤ 140737488355328) :
    Calls Try.prog 74 #[.pointer (some ⟨b, 0, none⟩), .slice (some ⟨w.heap.size, 0, none⟩) L.length L.length] (w.alloc (.cells (L.map (Value.int .u8)).toArray 5)) (Added w base b v ys L) :=
  (Badd_any b v _ _ _ L ys _ base _ (h.alloc _) he hch hf (hr.alloc _) ((Row.lit w w.heap.size L (Nat.le_refl _) hx (by unfold maxLen; omega)).rd rfl) rfl (by simp; omega) hl).mono fun _ _ hq => hq.of_alloc

theorem BAddUint8_any (b : Nat) (v : Bv) (x : Int) (ys : List Int) (w : World) (base : Nat) (h : Bld w b v) (he : v.err = .nilIface) (hch : v.child = .pointer none) (hf : v.fixed = false)
    (hr : Row w base v.res ys) (hb : base ≤ w.heap.size) (hl : ys.length + 8 ≤ 140737488355328) (_h0 : 0 ≤ x) (h1 : x ≤ 255) :
    Calls Try.prog 42 #[.pointer (some ⟨b, 0, none⟩), .int .u8 x] w (Added w base b v ys (bigB x 1)) := by
  have hx : Byt [x] := by
    intro y hy
    simp only [List.mem_cons, List.not_mem_nil, or_false] at hy
    omega
  have hbig : bigB x 1 = [x] := by (simp [bigB] <;> omega)
  have H2 : Hid (Calls Try.prog 74 #[.pointer (some ⟨b, 0, none⟩), .slice (some ⟨w.heap.size, 0, none⟩) 1 1] (w.alloc (.cells #[.int .u8 (x)] 5)) (Added w base b v ys (bigB x 1))) := Lib.hid (by
    rw [hbig]
    exact Badd_lit b v ys [x] w base h he hch hf hr hb hx (by simp; omega))
  clear h he hch hf hr hb hl hx hbig
  go_enter Try.func42, Try.ntmps42
  go_wp2_with fail
  refine H2.out.mono ?_
  rintro e w' ⟨r, rfl, h1⟩
  have HQ := Lib.hid h1
  clear h1 H2
  go_wp2_with fail
  go_end0
  exact ⟨r, rfl, HQ.out⟩

theorem BAddUint16_any (b : Nat) (v : Bv) (x : Int) (ys : List Int) (w : World) (base : Nat) (h : Bld w b v) (he : v.err = .nilIface) (hch : v.child = .pointer none) (hf : v.fixed = false)
    (hr : Row w base v.res ys) (hb : base ≤ w.heap.size) (hl : ys.length + 8 ≤ 140737488355328) (_h0 : 0 ≤ x) :
    Calls Try.prog 43 #[.pointer (some ⟨b, 0, none⟩), .int .u16 x] w (Added w base b v ys (bigB x 2)) := by
  have hx : Byt [x / 256 % 256, x % 256] := by
    intro y hy
    simp only [List.mem_cons, List.not_mem_nil, or_false] at hy
    omega
  have hbig : bigB x 2 = [x / 256 % 256, x % 256] := by (simp [bigB] <;> omega)
  have H2 : Hid (Calls Try.prog 74 #[.pointer (some ⟨b, 0, none⟩), .slice (some ⟨w.heap.size, 0, none⟩) 2 2] (w.alloc (.cells #[.int .u8 (x / 256 % 256), .int .u8 (x % 256)] 5)) (Added w base b v ys (bigB x 2))) := Lib.hid (by
    rw [hbig]
    exact Badd_lit b v ys [x / 256 % 256, x % 256] w base h he hch hf hr hb hx (by simp; omega))
  clear h he hch hf hr hb hl hx hbig
  go_enter Try.func43, Try.ntmps43
  go_wp2_with fail
  refine H2.out.mono ?_
  rintro e w' ⟨r, rfl, h1⟩
  have HQ := Lib.hid h1
  clear h1 H2
  go_wp2_with fail
  go_end0
  exact ⟨r, rfl, HQ.out⟩

theorem BAddUint24_any (b : Nat) (v : Bv) (x : Int) (ys : List Int) (w : World) (base : Nat) (h : Bld w b v) (he : v.err = .nilIface) (hch : v.child = .pointer none) (hf : v.fixed = false)
    (hr : Row w base v.res ys) (hb : base ≤ w.heap.size) (hl : ys.length + 8 ≤ 140737488355328) (_h0 : 0 ≤ x) :
    Calls Try.prog 44 #[.pointer (some ⟨b, 0, none⟩), .int .u32 x] w (Added w base b v ys (bigB x 3)) := by
  have hx : Byt [x / 65536 % 256, x / 256 % 256, x % 256] := by
    intro y hy
    simp only [List.mem_cons, List.not_mem_nil, or_false] at hy
    omega
  have hbig : bigB x 3 = [x / 65536 % 256, x / 256 % 256, x % 256] := by (simp [bigB] <;> omega)
  have H2 : Hid (Calls Try.prog 74 #[.pointer (some ⟨b, 0, none⟩), .slice (some ⟨w.heap.size, 0, none⟩) 3 3] (w.alloc (.cells #[.int .u8 (x / 65536 % 256), .int .u8 (x / 256 % 256), .int .u8 (x % 256)] 5)) (Added w base b v ys (bigB x 3))) := Lib.hid (by
    rw [hbig]
    exact Badd_lit b v ys [x / 65536 % 256, x / 256 % 256, x % 256] w base h he hch hf hr hb hx (by simp; omega))
  clear h he hch hf hr hb hl hx hbig
  go_enter Try.func44, Try.ntmps44
  go_wp2_with fail
  refine H2.out.mono ?_
  rintro e w' ⟨r, rfl, h1⟩
  have HQ := Lib.hid h1
  clear h1 H2
  go_wp2_with fail
  go_end0
  exact ⟨r, rfl, HQ.out⟩

theorem BAddUint32_any (b : Nat) (v : Bv) (x : Int) (ys : List Int) (w : World) (base : Nat) (h : Bld w b v) (he : v.err = .nilIface) (hch : v.child = .pointer none) (hf : v.fixed = false)
    (hr : Row w base v.res ys) (hb : base ≤ w.heap.size) (hl : ys.length + 8 ≤ 140737488355328) (_h0 : 0 ≤ x) :
    Calls Try.prog 45 #[.pointer (some ⟨b, 0, none⟩), .int .u32 x] w (Added w base b v ys (bigB x 4)) := by
  have hx : Byt [x / 16777216 % 256, x / 65536 % 256, x / 256 % 256, x % 256] := by
    intro y hy
    simp only [List.mem_cons, List.not_mem_nil, or_false] at hy
    omega
  have hbig : bigB x 4 = [x / 16777216 % 256, x / 65536 % 256, x / 256 % 256, x % 256] := by (simp [bigB] <;> omega)
  have H2 : Hid (Calls Try.prog 74 #[.pointer (some ⟨b, 0, none⟩), .slice (some ⟨w.heap.size, 0, none⟩) 4 4] (w.alloc (.cells #[.int .u8 (x / 16777216 % 256), .int .u8 (x / 65536 % 256), .int .u8 (x / 256 % 256), .int .u8 (x % 256)] 5)) (Added w base b v ys (bigB x 4))) := Lib.hid (by
    rw [hbig]
    exact Badd_lit b v ys [x / 16777216 % 256, x / 65536 % 256, x / 256 % 256, x % 256] w base h he hch hf hr hb hx (by simp; omega))
  clear h he hch hf hr hb hl hx hbig
  go_enter Try.func45, Try.ntmps45
  go_wp2_with fail
  refine H2.out.mono ?_
  rintro e w' ⟨r, rfl, h1⟩
  have HQ := Lib.hid h1
  clear h1 H2
  go_wp2_with fail
  go_end0
  exact ⟨r, rfl, HQ.out⟩

theorem BAddUint48_any (b : Nat) (v : Bv) (x : Int) (ys : List Int) (w : World) (base : Nat) (h : Bld w b v) (he : v.err = .nilIface) (hch : v.child = .pointer none) (hf : v.fixed = false)
    (hr : Row w base v.res ys) (hb : base ≤ w.heap.size) (hl : ys.length + 8 ≤ 140737488355328) (_h0 : 0 ≤ x) :
    Calls Try.prog 46 #[.pointer (some ⟨b, 0, none⟩), .int .u64 x] w (Added w base b v ys (bigB x 6)) := by
  have hx : Byt [x / 1099511627776 % 256, x / 4294967296 % 256, x / 16777216 % 256, x / 65536 % 256, x / 256 % 256, x % 256] := by
    intro y hy
    simp only [List.mem_cons, List.not_mem_nil, or_false] at hy
    omega
  have hbig : bigB x 6 = [x / 1099511627776 % 256, x / 4294967296 % 256, x / 16777216 % 256, x / 65536 % 256, x / 256 % 256, x % 256] := by (simp [bigB] <;> omega)
  have H2 : Hid (Calls Try.prog 74 #[.pointer (some ⟨b, 0, none⟩), .slice (some ⟨w.heap.size, 0, none⟩) 6 6] (w.alloc (.cells #[.int .u8 (x / 1099511627776 % 256), .int .u8 (x / 4294967296 % 256), .int .u8 (x / 16777216 % 256), .int .u8 (x / 65536 % 256), .int .u8 (x / 256 % 256), .int .u8 (x % 256)] 5)) (Added w base b v ys (bigB x 6))) := Lib.hid (by
    rw [hbig]
    exact Badd_lit b v ys [x / 1099511627776 % 256, x / 4294967296 % 256, x / 16777216 % 256, x / 65536 % 256, x / 256 % 256, x % 256] w base h he hch hf hr hb hx (by simp; omega))
  clear h he hch hf hr hb hl hx hbig
  go_enter Try.func46, Try.ntmps46
  go_wp2_with fail
  refine H2.out.mono ?_
  rintro e w' ⟨r, rfl, h1⟩
  have HQ := Lib.hid h1
  clear h1 H2
  go_wp2_with fail
  go_end0
  exact ⟨r, rfl, HQ.out⟩

theorem BAddUint64_any (b : Nat) (v : Bv) (x : Int) (ys : List Int) (w : World) (base : Nat) (h : Bld w b v) (he : v.err = .nilIface) (hch : v.child = .pointer none) (hf : v.fixed = false)
    (hr : Row w base v.res ys) (hb : base ≤ w.heap.size) (hl : ys.length + 8 ≤ 140737488355328) (_h0 : 0 ≤ x) :
    Calls Try.prog 47 #[.pointer (some ⟨b, 0, none⟩), .int .u64 x] w (Added w base b v ys (bigB x 8)) := by
  have hx : Byt [x / 72057594037927936 % 256, x / 281474976710656 % 256, x / 1099511627776 % 256, x / 4294967296 % 256, x / 16777216 % 256, x / 65536 % 256, x / 256 % 256, x % 256] := by
    intro y hy
    simp only [List.mem_cons, List.not_mem_nil, or_false] at hy
    omega
  have hbig : bigB x 8 = [x / 72057594037927936 % 256, x / 281474976710656 % 256, x / 1099511627776 % 256, x / 4294967296 % 256, x / 16777216 % 256, x / 65536 % 256, x / 256 % 256, x % 256] := by (simp [bigB] <;> omega)
  have H2 : Hid (Calls Try.prog 74 #[.pointer (some ⟨b, 0, none⟩), .slice (some ⟨w.heap.size, 0, none⟩) 8 8] (w.alloc (.cells #[.int .u8 (x / 72057594037927936 % 256), .int .u8 (x / 281474976710656 % 256), .int .u8 (x / 1099511627776 % 256), .int .u8 (x / 4294967296 % 256), .int .u8 (x / 16777216 % 256), .int .u8 (x / 65536 % 256), .int .u8 (x / 256 % 256), .int .u8 (x % 256)] 5)) (Added w base b v ys (bigB x 8))) := Lib.hid (by
    rw [hbig]
    exact Badd_lit b v ys [x / 72057594037927936 % 256, x / 281474976710656 % 256, x / 1099511627776 % 256, x / 4294967296 % 256, x / 16777216 % 256, x / 65536 % 256, x / 256 % 256, x % 256] w base h he hch hf hr hb hx (by simp; omega))
  clear h he hch hf hr hb hl hx hbig
  go_enter Try.func47, Try.ntmps47
  go_wp2_with fail
  refine H2.out.mono ?_
  rintro e w' ⟨r, rfl, h1⟩
  have HQ := Lib.hid h1
  clear h1 H2
  go_wp2_with fail
  go_end0
  exact ⟨r, rfl, HQ.out⟩

theorem BAddBytes_any (b : Nat) (v : Bv) (A : Option Addr) (n c : Nat) (xs ys : List Int) (w : World) (base B : Nat) (h : Bld w b v) (he : v.err = .nilIface) (hch : v.child = .pointer none) (hf : v.fixed = false)
    (hr : Row w base v.res ys) (hx : Rd w B A xs) (hn : n = xs.length) (hb : base ≤ w.heap.size) (hl : ys.length + xs.length ≤ 140737488355328) :
    Calls Try.prog 48 #[.pointer (some ⟨b, 0, none⟩), .slice A n c] w (Added w base b v ys xs) := by
  have H := Lib.hid (Badd_any b v A n c xs ys w base B h he hch hf hr hx hn hb hl)
  clear h he hch hf hr hx hn hb hl
  go_enter Try.func48, Try.ntmps48
  go_wp2_with fail
  refine H.out.mono ?_
  rintro e w' ⟨r, rfl, h1⟩
  have HQ := Lib.hid h1
  clear h1 H
  go_wp2_with fail
  go_end0
  exact ⟨r, rfl, HQ.out⟩


/-- What a builder hands out: bytes, and whether there is no error. -/
def Outs (w : World) (o : Option (List Int)) (e : Ending) (w' : World) : Prop :=
  ∃ A c ys ok, e = .returned (.tuple #[.slice A ys.length c, .bool ok]) ∧ Rd w' w'.heap.size A ys ∧ Only [] w w' ∧ ys.length ≤ c ∧ c ≤ maxLen ∧ (match o with | some xs => ok = true ∧ ys = xs | none => ok = false)
theorem BBytes_ok (b : Nat) (v : Bv) (ys : List Int) (w : World) (base : Nat) (h : Bld w b v) (he : v.err = .nilIface) (ho : v.off = 0) (hr : Row w base v.res ys) :
    Calls Try.prog 33 #[.pointer (some ⟨b, 0, none⟩)] w fun e w' => (∃ A c, e = .returned (.tuple #[.slice A ys.length c, .nilIface]) ∧ Rd w' w'.heap.size A ys ∧ ys.length ≤ c ∧ c ≤ maxLen) ∧ Only [] w w' := by
  obtain ⟨Ar, cr, hres, hrc, hrm, hrb⟩ := hr.form
  have h0 := h.c0
  have h1 := h.c1
  have h4 := h.c4
  rw [he] at h0
  rw [hres] at h1
  rw [ho] at h4
  rw [hres] at hr
  have HR := Lib.hid (hr.rd rfl)
  have HC := Lib.hid (And.intro hrc hrm)
  have hle : ¬ ((cr : Int) < 0) := by omega
  have h00 : (0 : Int) ≤ (ys.length : Int) := by omega
  clear h he ho hr hres hrb hrc hrm
  go_enter Try.func33, Try.ntmps33
  go_wp2_with fail
  go_quiet (fail)
  go_wp2_with fail
  go_ret2
  exact ⟨⟨Ar, cr, rfl, HR.out, HC.out.1, HC.out.2⟩, (Only.refl _ _).drewN _⟩
theorem BBytes_no (b : Nat) (v : Bv) (T : TypeId) (u : Value) (w : World) (h : Bld w b v) (he : v.err = .iface T u) :
    Calls Try.prog 33 #[.pointer (some ⟨b, 0, none⟩)] w fun e w' => e = .returned (.tuple #[.slice none 0 0, .iface T u]) ∧ Only [] w w' := by
  have h0 := h.c0
  rw [he] at h0
  clear h he
  go_enter Try.func33, Try.ntmps33
  go_wp2_with fail
  go_quiet (fail)
  go_wp2_with fail
  go_ret2
  exact ⟨rfl, (Only.refl _ _).drewN _⟩
theorem bytesOf_ok (b : Nat) (v : Bv) (ys : List Int) (w : World) (base : Nat) (h : Bld w b v) (he : v.err = .nilIface) (ho : v.off = 0) (hr : Row w base v.res ys) (hl : ys.length ≤ 140737488355328) :
    Calls Try.prog 26 #[.pointer (some ⟨b, 0, none⟩)] w (Outs w (some ys)) := by
  have H := Lib.hid (BBytes_ok b v ys w base h he ho hr)
  have HL := Lib.hid hl
  have HB := Lib.hid hr.1
  clear h he ho hr hl
  go_enter Try.func26, Try.ntmps26
  go_wp2_with fail
  refine H.out.mono ?_
  rintro e w1 ⟨⟨A, c, rfl, hrd, hc, hm⟩, hk⟩
  have C := Lib.hid (fun W hW => copied_any A ys.length c ys W w1.heap.size (hrd.keep hW) rfl HL.out)
  have K := Lib.hid hk
  clear hrd hc hm hk H
  go_wp2_with fail
  go_region_with (go_at_call 23; refine (C.out w1.drew (fun _ _ => rfl)).mono ?_; rintro e w2 ⟨A2, c2, rfl, hc2, hm2, hown2, hk2⟩)
  all_goals
    have R2 := Lib.hid (Rd.of_own HB.out hown2)
    have K2 : Hid (Only [] w w2) := Lib.hid (K.out.drew.trans hk2)
    have C2 := Lib.hid (And.intro hc2 hm2)
    clear hown2 hk2 hc2 hm2
    go_wp2_with fail
    go_ret2
    exact ⟨A2, c2, ys, true, rfl, R2.out, K2.out, C2.out.1, C2.out.2, rfl, rfl⟩
theorem bytesOf_no (b : Nat) (v : Bv) (T : TypeId) (u : Value) (w : World) (h : Bld w b v) (he : v.err = .iface T u) :
    Calls Try.prog 26 #[.pointer (some ⟨b, 0, none⟩)] w (Outs w none) := by
  have H := Lib.hid (BBytes_no b v T u w h he)
  clear h he
  go_enter Try.func26, Try.ntmps26
  go_wp2_with fail
  refine H.out.mono ?_
  rintro e w1 ⟨rfl, hk⟩
  have C := Lib.hid (fun W => copied_any none 0 0 [] W 0 (Rd.nil _ _ _) rfl (by simp))
  have K := Lib.hid hk
  clear hk H
  go_wp2_with fail
  go_region_with (go_at_call 23; refine (C.out w1.drew).mono ?_; rintro e w2 ⟨A2, c2, rfl, hc2, hm2, hown2, hk2⟩)
  all_goals
    have K2 : Hid (Only [] w w2) := Lib.hid (K.out.drew.trans hk2)
    have C2 := Lib.hid (And.intro hc2 hm2)
    clear hown2 hk2 hc2 hm2
    go_wp2_with fail
    go_ret2
    exact ⟨A2, c2, [], false, rfl, Rd.nil _ _ _, K2.out, C2.out.1, C2.out.2, rfl⟩







end Go.Proofs.Ytlpmjahhdbcfiaa

/-! ### The call of a continuation: contracts. -/
namespace Go.Proofs.Ytlpmjahhdbcfiaa
open Go.RowKit

/-- The deferred closure where nothing panics: the mark is taken back. -/
theorem cc_idle (pb b bi : Nat) (v : Bv) (y : Bool) (w : World) (hp : Var w pb 49 (.pointer (some ⟨b, 0, none⟩))) (h : Bld w b v) (hi : v.inc = .pointer (some ⟨bi, 0, none⟩)) (hv : Var w bi 4 (.bool y)) :
    CallsD Try.prog 91 #[.pointer (some ⟨pb, 0, none⟩)] .returning w fun e u' w' =>
      e = .returned (.tuple #[]) ∧ u' = .returning ∧ w' = w.setCell ⟨bi, 0, none⟩ (.bool false) := by
  have h7 := h.c7
  rw [hi] at h7
  have hc := hv.cell
  have hf := hv.free
  have hpc := hp.cell
  clear hp h hi hv
  refine callsD_of_wpS Try.func91 rfl fun c₀ cs hu => ?_
  apply wpS_seq
  apply wpS_region
  simp [wpOpsS, go_sem, recoverD, hu, Try.ntmps91, Exit.thenS, hpc, h7, hc, hf]
  apply wpS_seq
  apply wpS_region
  simp [wpOpsS, go_sem, recoverD, hu, Exit.thenS]
  apply wpS_seq
  apply wpS_seq
  apply wpS_region
  simp [wpOpsS, go_sem, Exit.thenS]
  refine wpS_cond (t := true) (by simp [Act.eval, Array.replicate]) ?_
  simp only [if_true]
  refine wpS_of_wp (wp_ret ?_)
  cases c₀
  simp_all [bodyPostS, results, Try.results91, Exit.thenS]

theorem BcallCont_top {Q : World → Prop} (b c bi : Nat) (F : FuncId) (cap : Array Value) (v : Bv) (w : World) (hF : ∀ args W, (callFunc F args).run Try.prog W = .ok (.enter F args) W) (h : Bld w b v) (hi : v.inc = .pointer (some ⟨bi, 0, none⟩)) (hv : Var w bi 4 (.bool false))
    (hf : Calls Try.prog F (#[.pointer (some ⟨c, 0, none⟩)] ++ cap) ((w.setCell ⟨bi, 0, none⟩ (.bool true)).alloc (.cells #[.pointer (some ⟨b, 0, none⟩)] 49)) fun e w' => e = .returned (.tuple #[]) ∧ Q w')
    (hq : ∀ w', Q w' → Var w' w.heap.size 49 (.pointer (some ⟨b, 0, none⟩)) ∧ (∃ v', Bld w' b v' ∧ v'.inc = .pointer (some ⟨bi, 0, none⟩)) ∧ ∃ y, Var w' bi 4 (.bool y)) :
    Calls Try.prog 88 #[.pointer (some ⟨b, 0, none⟩), .func (.func F) #[] cap, .pointer (some ⟨c, 0, none⟩)] w fun e w' => e = .returned (.tuple #[]) ∧ ∃ w1, Q w1 ∧ w' = w1.setCell ⟨bi, 0, none⟩ (.bool false) := by
  have hmf : ∀ (fn : Fn) (first cap : Array Value) (w : World), (Instr.makeFunc fn first cap).run Try.prog w = .ok (.func fn first cap) w := fun _ _ _ _ => rfl
  have h7 := h.c7
  rw [hi] at h7
  have hc := hv.cell
  have hfz := hv.free
  have HF := Lib.hid hf
  have HQ := Lib.hid hq
  have hb := h.lt
  have hbi := hv.lt
  clear hf hq h hi hv
  go_enter_defers Try.func88, Try.ntmps88
  go_wp2_with fail
  refine HF.out.mono ?_
  rintro e w1 ⟨rfl, q1⟩
  obtain ⟨p1, ⟨v', p2, p3⟩, y, p4⟩ := HQ.out _ q1
  have Q1 := Lib.hid q1
  have P := Lib.hid (cc_idle w.heap.size b bi v' y w1 p1 p2 p3 p4)
  clear q1 p1 p2 p3 p4 HF HQ
  go_wp2_with fail
  refine leaves_cons (f := 91) (args := #[.pointer (some ⟨w.heap.size, 0, none⟩)]) (by simp) (by simp [go_sem]) ?_
  refine P.out.mono ?_
  rintro e u' w'' ⟨rfl, rfl, rfl⟩
  exact ⟨_, results_none rfl _ _ _, rfl, w1, Q1.out, rfl⟩
end Go.Proofs.Ytlpmjahhdbcfiaa

/-! ### flushChild: contract. -/
namespace Go.Proofs.Ytlpmjahhdbcfiaa
open Go.RowKit

theorem Row.pos {w : World} {base : Nat} {v : Value} {xs : List Int} (h : Row w base v xs) (hn : 0 < xs.length) : ∃ g c, v = .slice (some ⟨g, 0, none⟩) xs.length c ∧ base ≤ g ∧ g < w.heap.size ∧ xs.length ≤ c ∧ c ≤ maxLen := by
  rcases h.2.2 with ⟨_, h0⟩ | ⟨g, cap, cur, rfl, hb, hg, hnc, hm, _⟩
  · omega
  · exact ⟨g, cap, rfl, hb, lt_of_block hg, hnc, hm⟩
theorem Row.cell {w : World} {base g c n : Nat} {xs : List Int} (h : Row w base (.slice (some ⟨g, 0, none⟩) n c) xs) (hn : n = xs.length) (i : Nat) (hi : i < xs.length) : w.cell? ⟨g, i, none⟩ = some (.int .u8 (xs.getD i 0)) := by
  subst hn
  rw [World.ownsRow.cellAt h.2 i (by omega)]
  simp [List.getElem?_eq_getElem hi, List.getD_eq_getElem?_getD]
theorem Row.free {w : World} {base g c n : Nat} {xs : List Int} (h : Row w base (.slice (some ⟨g, 0, none⟩) n c) xs) (hn : n = xs.length) (i : Nat) : w.frozen? ⟨g, i, none⟩ = false := by
  subst hn
  exact World.ownsRow.frozenAt h.2 i
theorem Row.set {w : World} {base g c n : Nat} {xs : List Int} (h : Row w base (.slice (some ⟨g, 0, none⟩) n c) xs) (hn : n = xs.length) (i : Nat) (x : Int) (hx : 0 ≤ x ∧ x ≤ 255) : Row (w.setCell ⟨g, i, none⟩ (.int .u8 x)) base (.slice (some ⟨g, 0, none⟩) n c) (xs.set i x) := by
  subst hn
  refine ⟨fun y hy => ?_, ?_⟩
  · rcases List.mem_or_eq_of_mem_set hy with h1 | h1
    · exact h.1 y h1
    · subst h1; exact hx
  · have := (World.ownsRow.stored h.2 i (.int .u8 x)).1
    rw [List.length_set, List.map_set]
    exact this
theorem set_mid (zs js cs : List Int) (i : Nat) (x : Int) (h : i < js.length) : (zs ++ js ++ cs).set (zs.length + i) x = zs ++ js.set i x ++ cs := by
  rw [List.append_assoc, List.set_append, if_neg (by omega), Nat.add_sub_cancel_left, List.set_append, if_pos h, List.append_assoc]

theorem take_three {α : Type} (P M D : List α) (L : Nat) (h : P.length + M.length ≤ L) : (P ++ (M ++ D)).take L = P ++ (M ++ D.take (L - (P.length + M.length))) := by
  rw [← List.append_assoc, List.take_append, List.take_of_length_le (by rw [List.length_append]; omega), List.append_assoc, List.length_append]
/-- Copying within a row. -/
theorem wpList_row_copy {ops : Array Oper} {rest : List Oper} {o : Oper} {a : Act} {w : World} {Q : Exit → Act → World → Prop} (hgd : o.guard = none) (d s : Operand)
    (ho : o.op = .call { callee := .builtin .copy, args := #[d, s], argTypes := #[24, 24] }) (base g c n off so dLen dCap sLen sCap : Nat) (xs cs : List Int)
    (hd : a.eval d = .slice (some ⟨g, off, none⟩) dLen dCap) (hs : a.eval s = .slice (some ⟨g, so, none⟩) sLen sCap)
    (hr : Row w base (.slice (some ⟨g, 0, none⟩) n c) xs) (hn : n = xs.length) (hk : cs.length = Nat.min sLen dLen) (hcs : (xs.drop so).take cs.length = cs) (hfit : off + cs.length ≤ n) (hso : so + cs.length ≤ n)
    (h : ∀ w', Row w' base (.slice (some ⟨g, 0, none⟩) n c) (splice xs off cs) → Only [g] w w' → wpList Try.prog ops Q rest (a.put o.dst (goInt cs.length)) w') :
    wpList Try.prog ops Q (o :: rest) a w := by
  obtain ⟨hb, hlen, hrow⟩ := hr
  subst hn
  rcases hrow with ⟨he, _⟩ | ⟨g', cap', cur, he, hbg, hg, hnc, hcm, hsz, htake⟩
  · simp at he
  · simp only [Value.slice.injEq, Option.some.injEq, Addr.mk.injEq, and_true, true_and] at he
    obtain ⟨rfl, rfl⟩ := he
    rw [Nat.mul_one] at hsz htake
    have hcur : xs.length ≤ cur.size := by omega
    refine wpList_copy_own hgd d s 24 24 ho 5 Try.underlying24 (by obtain ⟨i0, hi, _, hz1, _⟩ := info_parts u8_info; rw [hi]; simp [hz1]) g off dLen dCap ⟨g, so, none⟩ sLen sCap hd hs cur 5 hg (cs.map (Value.int .u8)) (by simpa using hk) ?_ (by simp; omega) (Byt.oneCells cs) ?_
    · intro j v hv
      have hj : j < cs.length := by
        rcases Nat.lt_or_ge j cs.length with hj | hj
        · exact hj
        · simp [List.getElem?_eq_none hj] at hv
      have hp : (⟨g, so, none⟩ : Addr).add j = ⟨g, so + j, none⟩ := by unfold Addr.add; split <;> simp_all
      rw [hp, cell_of_row w g (so + j) cur 5 (0, 0) hg]
      have h1 : cur.toList[so + j]? = (xs.map (Value.int .u8))[so + j]? := by
        rw [← htake, List.getElem?_take, if_pos (by omega)]
      rw [Array.getElem?_toList] at h1
      rw [h1]
      have h2 : cs[j]? = xs[so + j]? := by
        conv => lhs; rw [← hcs]
        rw [List.getElem?_take, if_pos hj, List.getElem?_drop]
      rw [List.getElem?_map] at hv ⊢
      rw [h2] at hv
      exact hv
    · have hlm : (cs.map (Value.int .u8)).length = cs.length := by simp
      have hls := length_splice xs off cs hfit
      rw [hlm]
      refine h _ ⟨?_, ?_, .inr ⟨g, c, _, by rw [hls], hbg, setRow_heap w g cur _ 5 (0, 0) hg, by rw [hls]; exact hnc, hcm, ?_, ?_⟩⟩ ⟨rfl, rfl, rfl, by simp, fun k _ hk => setRow_other w g k _ (by simpa using hk)⟩
      · intro x hx
        unfold splice at hx
        rcases List.mem_append.1 hx with h1 | h1
        · exact hb x (List.mem_of_mem_take h1)
        · rcases List.mem_append.1 h1 with h2 | h2
          · rw [← hcs] at h2
            exact hb x (List.mem_of_mem_drop (List.mem_of_mem_take h2))
          · exact hb x (List.mem_of_mem_drop h2)
      · rw [List.length_map, Nat.mul_one]
      · simp
        omega
      · rw [Nat.mul_one, hls, List.toList_toArray]
        unfold splice
        rw [List.map_append, List.map_append, List.map_take, List.map_drop, ← htake]
        have hA : (cur.toList.take off).length = off := by simp; omega
        rw [take_three _ _ _ _ (by rw [hA, List.length_map]; omega), List.take_take, Nat.min_eq_left (by omega), List.drop_take, hA, List.length_map]

/-- So many zero bytes. -/
def zeroC (m : Nat) : Array Value := ((List.replicate m (0 : Int)).map (Value.int .u8)).toArray
theorem mk_run (m : Nat) (h1 : 1 ≤ m) (h4 : m ≤ 4) (W : World) : (Instr.makeSlice 24 (.int .i64 (m : Int)) (.int .i64 (m : Int))).run Try.prog W = .ok (.slice (some ⟨W.heap.size, 0, none⟩) m m) (W.alloc (.cells (zeroC m) 5)) := by
  obtain rfl | rfl | rfl | rfl : m = 1 ∨ m = 2 ∨ m = 3 ∨ m = 4 := by omega
  all_goals kernel_rfl
theorem Badd_zeros (b : Nat) (v : Bv) (ys : List Int) (m : Nat) (w : World) (base : Nat) (h : Bld w b v) (he : v.err = .nilIface) (hch : v.child = .pointer none) (hf : v.fixed = false)
    (hr : Row w base v.res ys) (hb : base ≤ w.heap.size) (hl : ys.length + m ≤ 140737488355328) :
    Calls Try.prog 74 #[.pointer (some ⟨b, 0, none⟩), .slice (some ⟨w.heap.size, 0, none⟩) m m] (w.alloc (.cells (zeroC m) 5)) (Added w base b v ys (List.replicate m 0)) := by
  have := Badd_lit b v ys (List.replicate m 0) w base h he hch hf hr hb (fun x hx => by have := List.eq_of_mem_replicate hx; omega) (by simpa using hl)
  rw [List.length_replicate] at this
  exact this

/-- A length behind its tag. -/
def lenB (n : Nat) : List Int := if n < 128 then [(n : Int)] else (128 + nb n : Nat) :: bigB n (nb n)
theorem hdr_lenB (t : Int) (n : Nat) : hdr t n = t :: lenB n := by
  unfold hdr lenB
  split <;> rfl
/-- What a length prefix becomes, if it can tell how many bytes stand behind it. -/
def fl (asn : Bool) (m n : Nat) : Option (List Int) := if asn then some (lenB n) else if n < 256 ^ m then some (bigB n m) else none

/-- A child that is to be flushed. -/
def Kid (w : World) (base c : Nat) (asn : Bool) (m : Nat) (ys cs : List Int) (inc : Value) (r : Value) : Prop :=
  Bld w c ⟨.nilIface, r, false, .pointer none, ys.length, m, asn, inc⟩ ∧ Row w base r (ys ++ List.replicate m 0 ++ cs)

theorem errorsNew_any (s : ByteArray) (w : World) : Calls Try.prog 65 #[.string s] w fun e w' => e = .returned (.iface 103 (.pointer (some ⟨w.heap.size, 0, none⟩))) ∧ w' = w.alloc (.cells #[.string s] 105) := by
  go_enter Try.func65, Try.ntmps65
  go_wp2_with fail
  go_ret
  exact ⟨rfl, rfl⟩

set_option maxRecDepth 100000 in
/-- Nothing to flush. -/
theorem flush_none (b : Nat) (v : Bv) (w : World) (h : Bld w b v) (hch : v.child = .pointer none) : Calls Try.prog 89 #[.pointer (some ⟨b, 0, none⟩)] w fun e w' => e = .returned (.tuple #[]) ∧ w = w' := by
  have h3 := h.c3
  rw [hch] at h3
  clear h hch
  go_enter Try.func89, Try.ntmps89
  go_wp2_with fail
  refine bodyPost_ret (results_none rfl _ _ _) rfl ?_
  exact ⟨rfl, rfl⟩
end Go.Proofs.Ytlpmjahhdbcfiaa

/-! ### The reference's number in base 128: contract. -/
namespace Go.Proofs.Ytlpmjahhdbcfiaa
open Go.RowKit

theorem base128_any (n : Int) (w : World) (h0 : 0 ≤ n) (h1 : n ≤ 4294967295) :
    Calls Try.prog 87 #[.int .i64 n] w (Copied w (b128 n)) := by
  have hL := l7_bd n
  have hLe := Lib.hid (fun j hj => l7_le n h0 (by omega) j hj)
  have HRG := Lib.hid (And.intro h0 h1)
  have hx0 : Byt [n % 128] := by
    intro x hx
    simp only [List.mem_singleton] at hx
    omega
  have HS := Lib.hid (Row.lit w w.heap.size [n % 128] (Nat.le_refl _) hx0 (by unfold maxLen; simp))
  clear hx0
  obtain ⟨L, hLL⟩ : ∃ L, l7 n = L := ⟨_, rfl⟩
  rw [hLL] at hL hLe
  have HLL := Lib.hid hLL
  clear hLL
  obtain ⟨hL1, hL5⟩ := hL
  go_enter Try.func87, Try.ntmps87
  go_wp2_with fail
  go_loopw [0, 3] (fun i o W => ∃ j : Nat, i = .int .i64 (n / 128 ^ (j + 1)) ∧ j + 1 ≤ L ∧ Row W w.heap.size o (big7 (n / 128) j ++ [n % 128]) ∧ Only [] w W) (fun i _ _ => (intOf i).toNat)
  case atStart => exact ⟨0, by simp, hL1, HS.out, (Only.refl _ _).alloc _⟩
  case round =>
    obtain ⟨j, rfl, hj, hrow, hk⟩ := hrel
    have hle := hLe.out j (by omega)
    have g0 : 0 ≤ n / 128 ^ (j + 1) := Int.ediv_nonneg h0 (Int.le_of_lt (Int.pow_pos (by decide)))
    have g1 : n / 128 ^ (j + 1) ≤ 4294967295 := Int.le_trans (Int.ediv_le_self _ h0) h1
    have HRow := Lib.hid hrow
    have HK := Lib.hid hk
    by_cases hlt : j + 1 < L
    · have hpos : 0 < n / 128 ^ (j + 1) := by
        rcases Int.lt_or_eq_of_le g0 with h | h
        · exact h
        · have := hle.1 h.symm
          omega
      obtain ⟨q, hq⟩ : ∃ q, n / 128 ^ (j + 1) = q := ⟨_, rfl⟩
      rw [hq] at g0 g1 hpos ⊢
      have HQ := Lib.hid hq
      have hx : Byt [128 + q % 128] := by
        intro x hx
        simp only [List.mem_singleton] at hx
        omega
      have hmod : (128 + q % 128) % 256 = 128 + q % 128 := by omega
      have HX := Lib.hid (Row.lit wr w.heap.size [128 + q % 128] HK.out.size hx (by unfold maxLen; simp))
      obtain ⟨A5, c5, rfl, hc5, hm5, hA5⟩ := hrow.form
      have hlb : (big7 (n / 128) j ++ [n % 128]).length = j + 1 := by rw [List.length_append, big7_len]; rfl
      have HLB := Lib.hid hlb
      rw [hlb] at hc5 HRow ⊢
      have HRA := Lib.hid ((HRow.out.alloc (.cells ([128 + q % 128].map (Value.int .u8)).toArray 5)).rd hlb.symm)
      have hj5 : j + 1 ≤ 5 := by omega
      have HJ := Lib.hid hlt
      clear hle hj hrow hk hq hx hlb hc5 hm5 hA5 hlt
      go_wp2_with (at_builtin; refine wpList_row rfl (.tmp 18) (.tmp 19) rfl rfl w.heap.size _ _ [128 + q % 128] (big7 (n / 128) j ++ [n % 128]) A5 (j + 1) c5 rfl rfl HX.out HRA.out HLB.out.symm ?c1 ?c2 ?_)
      case c1 => have := HK.out.size; simp; omega
      case c2 => rw [HLB.out]; show 1 + (j + 1) ≤ 140737488355328; omega
      intro v' w1 hr1 hk1 _
      have HR1 := Lib.hid hr1
      have HK1 := Lib.hid hk1
      clear hr1 hk1
      go_wp2_with fail
      go_roundw
      case rel =>
        have e1 : n / 128 ^ (j + 1 + 1) = q / 128 := by rw [← HQ.out, Int.ediv_ediv_of_nonneg (Int.le_of_lt (Int.pow_pos (by decide))), ← Int.pow_succ]
        have e2 : n / 128 / 128 ^ j = q := by rw [← HQ.out, Int.ediv_ediv_of_nonneg (by decide), Int.pow_succ, Int.mul_comm]
        refine ⟨j + 1, by rw [e1], by have := HJ.out; omega, ?_, ?_⟩
        · rw [big7_cons, e2]
          exact HR1.out
        · refine ((HK.out.alloc _).then HK1.out ?_)
          intro i hi hlt
          have := HK.out.size
          simp [own, Value.ownBlock] at hi
          omega
      case measure => first | (simp [intOf]; omega) | omega | (show (q / 128).toNat < q.toNat; omega)
    · obtain rfl : L = j + 1 := by omega
      rw [hle.2 (Nat.le_refl _)]
      clear hle hlt hrow hk hj g0 g1
      go_wp2_with fail
      go_ret
      have h := HRow.out
      have e : b128 n = big7 (n / 128) j ++ [n % 128] := by unfold b128; rw [HLL.out]; rfl
      rw [← e] at h
      exact h.copied' HK.out
end Go.Proofs.Ytlpmjahhdbcfiaa

/-! ### The reference's contents of an object identifier: contract. -/
namespace Go.Proofs.Ytlpmjahhdbcfiaa
open Go.RowKit

theorem oidContents_any (A : Option Addr) (n c : Nat) (xs : List Int) (w : World) (B : Nat) (h : RdI w B A xs) (hn : n = xs.length) (hB : B ≤ w.heap.size) (hb : xs.length ≤ 4194304) (hl : 2 ≤ xs.length) (hv : ∀ v ∈ xs, 0 ≤ v ∧ v ≤ 2147483647) (h2 : xs.getD 0 0 ≤ 2) :
    Calls Try.prog 73 #[.slice A n c] w (Copied w (oidC xs)) := by
  have hvd : ∀ i, i < xs.length → 0 ≤ xs.getD i 0 ∧ xs.getD i 0 ≤ 2147483647 := fun i hi => by
    rw [List.getD_eq_getElem?_getD, List.getElem?_eq_getElem hi]
    exact hv _ (List.getElem_mem hi)
  obtain ⟨x0, x1⟩ := hvd 0 (by omega)
  obtain ⟨y0, y1⟩ := hvd 1 (by omega)
  obtain ⟨ab, aoff, rfl, hab, hcells⟩ := h.2 (by omega)
  have hc0 := hcells 0 (by omega)
  have hc1 := hcells 1 (by omega)
  rw [Nat.add_zero] at hc0
  obtain ⟨m, rfl⟩ : ∃ m, n = m + 2 := ⟨n - 2, by omega⟩
  have hml : m ≤ 4194304 := by omega
  have HH := Lib.hid h
  have HN := Lib.hid hn
  have HVD := Lib.hid hvd
  have HBB := Lib.hid hB
  have HO : Hid (oidC xs = b128 (xs.getD 0 0 * 40 + xs.getD 1 0) ++ b128s (xs.drop 2)) := Lib.hid rfl
  have B1 := Lib.hid (fun w => base128_any (xs.getD 0 0 * 40 + xs.getD 1 0) w (by omega) (by omega))
  clear hcells hn hl hb h hv hvd hB
  generalize xs.getD 0 0 = a0 at *
  generalize xs.getD 1 0 = a1 at *
  have w1f : IntKind.i64.wrap (a0 * 40) = a0 * 40 := IntWalk.i64_in _ (by omega)
  have w2f : IntKind.i64.wrap (a0 * 40 + a1) = a0 * 40 + a1 := IntWalk.i64_in _ (by omega)
  have b0f : (0 : Int) < (m : Int) + 2 := by omega
  have b1f : (1 : Int) < (m : Int) + 2 := by omega
  go_enter Try.func73, Try.ntmps73
  go_wp2_with fail
  go_region_held3 (fun w' => w'.cell? ⟨ab, aoff, none⟩ = some (.int .i64 a0) ∧ w'.cell? ⟨ab, aoff + 1, none⟩ = some (.int .i64 a1)) (first | exact ⟨hc0, hc1⟩ | exact ⟨hc0w1, hc1w1⟩) (first | (go_at_call 87; refine (B1.out _).mono ?_; rintro e w1 ⟨A1, c1, rfl, hc1', hm1, hown1, hk1⟩; have hc0w1 := (hk1.cell (p := ⟨ab, aoff, none⟩) (by have := HBB.out; simp; omega) (by simp)).trans hc0; have hc1w1 := (hk1.cell (p := ⟨ab, aoff + 1, none⟩) (by have := HBB.out; simp; omega) (by simp)).trans hc1; have HR1 : Hid (Row w1 w.heap.size (.slice A1 (b128 (a0 * 40 + a1)).length c1) (b128 (a0 * 40 + a1))) := Lib.hid ⟨b128_byt _, by simpa using hown1⟩; have HK1 : Hid (Only [] w w1) := Lib.hid ((Only.refl _ _).drew.trans hk1); clear hown1 hk1 hc1' hm1))
  all_goals
    go_wp2_with fail
    go_loopw [3, 4] (fun o i W => ∃ j : Nat, i = .int .i64 ((j : Int) + 2) ∧ j ≤ m ∧ Row W w.heap.size o (b128 (a0 * 40 + a1) ++ b128s ((xs.drop 2).take j)) ∧ Only [] w W) (fun _ i _ => (m + 2) - (intOf i).toNat)
    case atStart => exact ⟨0, by simp, Nat.zero_le _, by simpa [b128s] using HR1.out, HK1.out⟩
    case round =>
      obtain ⟨j, rfl, hj, hrow, hk⟩ := hrel
      have HRow := Lib.hid hrow
      have HK := Lib.hid hk
      by_cases hlt : j < m
      · have hij : (j : Int) + 2 < (m : Int) + 2 := by omega
        have hrd := HH.out.only hk (by simp) HBB.out
        obtain ⟨ab', aoff', e', _, hcells⟩ := hrd.2 (by have := HN.out; omega)
        have e2 := Option.some.inj e'
        obtain ⟨rfl, rfl⟩ : ab = ab' ∧ aoff = aoff' := by injection e2 with h1 h2; exact ⟨h1, h2⟩
        have hcj := hcells (j + 2) (by have := HN.out; omega)
        have hxb := HVD.out (j + 2) (by have := HN.out; omega)
        have hstep : b128s ((xs.drop 2).take (j + 1)) = b128s ((xs.drop 2).take j) ++ b128 (xs.getD (j + 2) 0) := by
          rw [← b128s_snoc]
          congr 1
          rw [List.take_add_one, List.getElem?_drop, List.getD_eq_getElem?_getD, show 2 + j = j + 2 by omega, List.getElem?_eq_getElem (by have := HN.out; omega)]
          rfl
        have HST := Lib.hid hstep
        generalize xs.getD (j + 2) 0 = x at *
        have B2 := Lib.hid (base128_any x wr hxb.1 (by omega))
        have HLT := Lib.hid hlt
        have hjm : j ≤ 4194304 := by omega
        clear hcells hrd e' e2 hstep hxb hrow hk hlt hj
        go_wp2_with fail
        refine B2.out.mono ?_
        rintro e w2 ⟨A2, c2, rfl, hc2, hm2, hown2, hk2⟩
        have HK2 := Lib.hid (HK.out.trans hk2)
        have HX2 := Lib.hid (Rd.of_own (w := w2) (b128_byt x) hown2)
        have HR2 := Lib.hid (Row.only (l := []) HRow.out hk2 (by simp))
        clear hc2 hm2 hown2 hk2
        go_wp2_with (at_builtin; refine wpList_row rfl (.tmp 20) (.tmp 25) rfl rfl w.heap.size _ _ (b128 (a0 * 40 + a1) ++ b128s ((xs.drop 2).take j)) (b128 x) A2 _ c2 rfl rfl HR2.out HX2.out rfl ?c1 ?c2 ?_)
        case c1 => exact HK2.out.size
        case c2 =>
          have h1 := b128s_len ((xs.drop 2).take j)
          have h2 := b128_len x
          have h3 := l7_bd x
          have h4 := b128_len (a0 * 40 + a1)
          have h5 := l7_bd (a0 * 40 + a1)
          have h6 : ((xs.drop 2).take j).length ≤ j := by rw [List.length_take]; omega
          rw [List.length_append]
          omega
        intro v' w3 hr3 hk3 _
        have HR3 := Lib.hid hr3
        have HK3 : Hid (Only [] w w3) := Lib.hid (HK2.out.then hk3 (by
          intro i hi hlt
          have := HR2.out.low i hi
          omega))
        clear hr3 hk3
        go_wp2_with fail
        go_roundw
        case rel =>
          refine ⟨j + 1, by go_num, by have := HLT.out; omega, ?_, HK3.out⟩
          rw [HST.out]
          exact HR3.out
        case measure => simp [intOf]; have := HLT.out; omega
      · obtain rfl : j = m := by omega
        clear hlt hrow hk hj
        go_wp2_with fail
        go_ret
        have h := HRow.out
        rw [List.take_of_length_le (by rw [List.length_drop]; have := HN.out; omega), ← HO.out] at h
        exact h.copied' HK.out
end Go.Proofs.Ytlpmjahhdbcfiaa

/-! ### Object identifiers that are right to add: isValidOID: contract. -/
namespace Go.Proofs.Ytlpmjahhdbcfiaa
open Go.RowKit

def validOID (o : List Int) : Bool := decide (2 ≤ o.length ∧ o.getD 0 0 ≤ 2 ∧ ¬ (o.getD 0 0 ≤ 1 ∧ 40 ≤ o.getD 1 0) ∧ ∀ v ∈ o, 0 ≤ v)

theorem valid_any (A : Option Addr) (n c : Nat) (xs : List Int) (w : World) (B : Nat) (h : RdI w B A xs) (hn : n = xs.length) (hb : xs.length ≤ 4194304) :
    Calls Try.prog 83 #[.slice A n c] w fun e w' => e = .returned (.bool (validOID xs)) ∧ Only [] w w' := by
  by_cases hl : n < 2
  · have HV : Hid (validOID xs = false) := Lib.hid (by unfold validOID; simp; omega)
    have hl' : (n : Int) < 2 := by omega
    clear h hn hb hl
    go_enter Try.func83, Try.ntmps83
    go_wp2_with fail
    go_ret
    exact ⟨by rw [HV.out]; rfl, Only.refl _ _⟩
  · obtain ⟨ab, aoff, rfl, hab, hcells⟩ := h.2 (by omega)
    have hc0 := hcells 0 (by omega)
    have hc1 := hcells 1 (by omega)
    rw [Nat.add_zero] at hc0
    obtain ⟨m, rfl⟩ : ∃ m, n = m + 2 := ⟨n - 2, by omega⟩
    have hml : m ≤ 4194304 := by omega
    have HC := Lib.hid hcells
    have HN := Lib.hid hn
    obtain ⟨x0, x1⟩ := Sml.getD h.1 0
    have HG := Lib.hid h.1
    clear hcells hn hl hb h
    by_cases h2 : 2 < xs.getD 0 0
    · have HV : Hid (validOID xs = false) := Lib.hid (by unfold validOID; simp only [decide_eq_false_iff_not]; omega)
      generalize xs.getD 0 0 = a0 at *
      generalize xs.getD 1 0 = a1 at *
      go_enter Try.func83, Try.ntmps83
      go_wp2_with fail
      go_ret
      exact ⟨by rw [HV.out]; rfl, Only.refl _ _⟩
    · by_cases h40 : xs.getD 0 0 ≤ 1 ∧ 40 ≤ xs.getD 1 0
      · have HV : Hid (validOID xs = false) := Lib.hid (by unfold validOID; simp only [decide_eq_false_iff_not]; omega)
        generalize xs.getD 0 0 = a0 at *
        generalize xs.getD 1 0 = a1 at *
        obtain ⟨k1, k2⟩ := h40
        go_enter Try.func83, Try.ntmps83
        go_wp2_with fail
        go_ret
        exact ⟨by rw [HV.out]; rfl, Only.refl _ _⟩
      · have hv0 : xs.getD 0 0 ≤ 2 := by omega
        have HV0 : Hid ((∀ v ∈ xs, 0 ≤ v) → validOID xs = true) := Lib.hid (fun hall => by
          unfold validOID
          simp only [decide_eq_true_eq]
          exact ⟨by have := HN.out; omega, hv0, h40, hall⟩)
        by_cases h1 : xs.getD 0 0 ≤ 1
        · have h39 : xs.getD 1 0 < 40 := by omega
          clear h2 h40 hv0
          generalize xs.getD 0 0 = a0 at *
          generalize xs.getD 1 0 = a1 at *
          go_enter Try.func83, Try.ntmps83
          go_wp2_with fail
          go_loop [26] (fun i => ∃ j : Nat, i = .int .i64 (j : Int) ∧ j ≤ m + 2 ∧ ∀ k, k < j → 0 ≤ xs.getD k 0) (fun i => (m + 2) - (intOf i).toNat)
          case atStart => exact ⟨0, by simp, Nat.zero_le _, fun k hk => absurd hk (by omega)⟩
          case round =>
            obtain ⟨j, rfl, hj, hall⟩ := hrel
            by_cases hlt : j < m + 2
            · have hcj := HC.out j (by have := HN.out; omega)
              have hij : (j : Int) < (m : Int) + 2 := by omega
              have HALL := Lib.hid hall
              by_cases hneg : xs.getD j 0 < 0
              · have HV : Hid (validOID xs = false) := Lib.hid (by
                  unfold validOID
                  simp only [decide_eq_false_iff_not]
                  intro h
                  have h1 := h.2.2.2 (xs.getD j 0) (by
                    have := HN.out
                    rw [List.getD_eq_getElem?_getD, List.getElem?_eq_getElem (by omega)]
                    exact List.getElem_mem _)
                  omega)
                clear hall
                generalize xs.getD j 0 = x at *
                go_wp2_with fail
                go_ret
                exact ⟨by rw [HV.out]; rfl, Only.refl _ _⟩
              · have HX := Lib.hid hneg
                obtain ⟨x, hx⟩ : ∃ x, xs.getD j 0 = x := ⟨_, rfl⟩
                rw [hx] at hcj hneg
                clear hall hx
                go_wp2_with fail
                go_round
                case rel =>
                  refine ⟨j + 1, by go_num, by omega, ?_⟩
                  intro k hk
                  by_cases e : k = j
                  · subst e; have := HX.out; omega
                  · exact HALL.out k (by omega)
                case measure => simp [intOf]; omega
            · obtain rfl : j = m + 2 := by omega
              have HV : Hid (validOID xs = true) := Lib.hid (by
                refine HV0.out ?_
                intro v hv
                obtain ⟨k, hk, rfl⟩ := List.mem_iff_getElem.1 hv
                have h := hall k (by have := HN.out; omega)
                rwa [List.getD_eq_getElem?_getD, List.getElem?_eq_getElem hk] at h)
              clear hall hlt hj
              go_wp2_with fail
              go_ret
              exact ⟨by rw [HV.out]; rfl, Only.refl _ _⟩
        · clear h2 h40
          have h1b : (1 : Int) < xs.getD 0 0 := by omega
          generalize xs.getD 0 0 = a0 at *
          generalize xs.getD 1 0 = a1 at *
          go_enter Try.func83, Try.ntmps83
          go_wp2_with fail
          go_loop [26] (fun i => ∃ j : Nat, i = .int .i64 (j : Int) ∧ j ≤ m + 2 ∧ ∀ k, k < j → 0 ≤ xs.getD k 0) (fun i => (m + 2) - (intOf i).toNat)
          case atStart => exact ⟨0, by simp, Nat.zero_le _, fun k hk => absurd hk (by omega)⟩
          case round =>
            obtain ⟨j, rfl, hj, hall⟩ := hrel
            by_cases hlt : j < m + 2
            · have hcj := HC.out j (by have := HN.out; omega)
              have hij : (j : Int) < (m : Int) + 2 := by omega
              have HALL := Lib.hid hall
              by_cases hneg : xs.getD j 0 < 0
              · have HV : Hid (validOID xs = false) := Lib.hid (by
                  unfold validOID
                  simp only [decide_eq_false_iff_not]
                  intro h
                  have h1 := h.2.2.2 (xs.getD j 0) (by
                    have := HN.out
                    rw [List.getD_eq_getElem?_getD, List.getElem?_eq_getElem (by omega)]
                    exact List.getElem_mem _)
                  omega)
                clear hall
                generalize xs.getD j 0 = x at *
                go_wp2_with fail
                go_ret
                exact ⟨by rw [HV.out]; rfl, Only.refl _ _⟩
              · have HX := Lib.hid hneg
                obtain ⟨x, hx⟩ : ∃ x, xs.getD j 0 = x := ⟨_, rfl⟩
                rw [hx] at hcj hneg
                clear hall hx
                go_wp2_with fail
                go_round
                case rel =>
                  refine ⟨j + 1, by go_num, by omega, ?_⟩
                  intro k hk
                  by_cases e : k = j
                  · subst e; have := HX.out; omega
                  · exact HALL.out k (by omega)
                case measure => simp [intOf]; omega
            · obtain rfl : j = m + 2 := by omega
              have HV : Hid (validOID xs = true) := Lib.hid (by
                refine HV0.out ?_
                intro v hv
                obtain ⟨k, hk, rfl⟩ := List.mem_iff_getElem.1 hv
                have h := hall k (by have := HN.out; omega)
                rwa [List.getD_eq_getElem?_getD, List.getElem?_eq_getElem hk] at h)
              clear hall hlt hj
              go_wp2_with fail
              go_ret
              exact ⟨by rw [HV.out]; rfl, Only.refl _ _⟩
end Go.Proofs.Ytlpmjahhdbcfiaa

/-! ### The reference's word on object identifiers that are right: contract. -/
namespace Go.Proofs.Ytlpmjahhdbcfiaa
open Go.RowKit

set_option maxHeartbeats 1600000 in
theorem right_any (A : Option Addr) (n c : Nat) (xs : List Int) (w : World) (B : Nat) (h : RdI w B A xs) (hn : n = xs.length) (hb : xs.length ≤ 4194304) :
    Calls Try.prog 72 #[.slice A n c] w fun e w' => e = .returned (.bool (oidRight xs)) ∧ w = w' := by
  by_cases hl : n < 2
  · have HV : Hid (oidRight xs = false) := Lib.hid (by unfold oidRight; simp only [decide_eq_false_iff_not]; omega)
    have hl' : (n : Int) < 2 := by omega
    clear h hn hb hl
    go_enter Try.func72, Try.ntmps72
    go_wp2_with fail
    go_ret
    exact ⟨by rw [HV.out]; rfl, rfl⟩
  · obtain ⟨ab, aoff, rfl, hab, hcells⟩ := h.2 (by omega)
    have hc0 := hcells 0 (by omega)
    have hc1 := hcells 1 (by omega)
    rw [Nat.add_zero] at hc0
    obtain ⟨m, rfl⟩ : ∃ m, n = m + 2 := ⟨n - 2, by omega⟩
    have hml : m ≤ 4194304 := by omega
    have HC := Lib.hid hcells
    have HN := Lib.hid hn
    have HB0 : Hid ((xs.getD 0 0 < 0 ∨ 2 < xs.getD 0 0 ∨ (xs.getD 0 0 < 2 ∧ 40 ≤ xs.getD 1 0) ∨ (xs.getD 0 0 = 2 ∧ 2147483567 < xs.getD 1 0)) → oidRight xs = false) := Lib.hid (fun hh => by
      unfold oidRight
      simp only [decide_eq_false_iff_not]
      intro h
      have h4 := h.2.2.2.1
      have h5 := h.2.2.2.2.1
      omega)
    have HG0 : Hid (¬ (xs.getD 0 0 < 0 ∨ 2 < xs.getD 0 0 ∨ (xs.getD 0 0 < 2 ∧ 40 ≤ xs.getD 1 0) ∨ (xs.getD 0 0 = 2 ∧ 2147483567 < xs.getD 1 0)) → (∀ v ∈ xs.drop 1, 0 ≤ v ∧ v ≤ 2147483647) → oidRight xs = true) := Lib.hid (fun hh hall => by
      unfold oidRight
      simp only [decide_eq_true_eq]
      exact ⟨by omega, by omega, by omega, fun _ => by omega, fun _ => by omega, hall⟩)
    clear hcells hn hl hb h
    generalize xs.getD 0 0 = a0 at *
    generalize xs.getD 1 0 = a1 at *
    by_cases k1 : a0 < 0
    · have HV := Lib.hid (HB0.out (.inl k1))
      go_enter Try.func72, Try.ntmps72
      go_wp2_with fail
      go_ret
      exact ⟨by rw [HV.out]; rfl, rfl⟩
    by_cases k2 : 2 < a0
    · have HV := Lib.hid (HB0.out (.inr (.inl k2)))
      go_enter Try.func72, Try.ntmps72
      go_wp2_with fail
      go_ret
      exact ⟨by rw [HV.out]; rfl, rfl⟩
    by_cases k3 : a0 = 2
    · have q1 : (a0 == 2) = true := beq_iff_eq.2 k3
      have q2 : ¬ a0 < 2 := by omega
      by_cases k4 : 2147483567 < a1
      · have HV := Lib.hid (HB0.out (.inr (.inr (.inr ⟨k3, k4⟩))))
        clear k3
        go_enter Try.func72, Try.ntmps72
        go_wp2_with fail
        go_ret
        exact ⟨by rw [HV.out]; rfl, rfl⟩
      · have HG := Lib.hid (HG0.out (by omega))
        clear k3
        go_enter Try.func72, Try.ntmps72
        go_wp2_with fail
        go_loop [3] (fun i => ∃ j : Nat, i = .int .i64 (j : Int) ∧ 1 ≤ j ∧ j ≤ m + 2 ∧ ∀ k, 1 ≤ k → k < j → 0 ≤ xs.getD k 0 ∧ xs.getD k 0 ≤ 2147483647) (fun i => (m + 2) - (intOf i).toNat)
        case atStart => exact ⟨1, by simp, Nat.le_refl _, by omega, fun k hk hk2 => absurd hk (by omega)⟩
        case round =>
          obtain ⟨j, rfl, hj1, hj, hall⟩ := hrel
          by_cases hlt : j < m + 2
          · have hcj := HC.out j (by have := HN.out; omega)
            have hij : (j : Int) < (m : Int) + 2 := by omega
            have HALL := Lib.hid hall
            have hbad : (xs.getD j 0 < 0 ∨ 2147483647 < xs.getD j 0) → oidRight xs = false := fun hneg => by
              unfold oidRight
              simp only [decide_eq_false_iff_not]
              intro h
              have h1 := h.2.2.2.2.2 (xs.getD j 0) (by
                have := HN.out
                rw [List.getD_eq_getElem?_getD, List.getElem?_eq_getElem (by omega)]
                rw [List.mem_iff_getElem]
                exact ⟨j - 1, by rw [List.length_drop]; omega, by rw [List.getElem_drop]; simp [show 1 + (j - 1) = j by omega]⟩)
              omega
            by_cases hneg : xs.getD j 0 < 0
            · have HV := Lib.hid (hbad (.inl hneg))
              clear hall hbad
              generalize xs.getD j 0 = x at *
              go_wp2_with fail
              go_ret
              exact ⟨by rw [HV.out]; rfl, rfl⟩
            · by_cases hbig : 2147483647 < xs.getD j 0
              · have HV := Lib.hid (hbad (.inr hbig))
                clear hall hbad
                generalize xs.getD j 0 = x at *
                go_wp2_with fail
                go_ret
                exact ⟨by rw [HV.out]; rfl, rfl⟩
              · have HX := Lib.hid (And.intro hneg hbig)
                obtain ⟨x, hx⟩ : ∃ x, xs.getD j 0 = x := ⟨_, rfl⟩
                rw [hx] at hcj hneg hbig
                clear hall hx hbad
                go_wp2_with fail
                go_round
                case rel =>
                  refine ⟨j + 1, by go_num, by omega, by omega, ?_⟩
                  intro k hk1 hk
                  by_cases e : k = j
                  · subst e; have := HX.out; omega
                  · exact HALL.out k hk1 (by omega)
                case measure => simp [intOf]; omega
          · obtain rfl : j = m + 2 := by omega
            have HV : Hid (oidRight xs = true) := Lib.hid (by
              refine HG.out ?_
              intro v hv
              obtain ⟨k, hk, rfl⟩ := List.mem_iff_getElem.1 hv
              rw [List.length_drop] at hk
              have h := hall (1 + k) (by omega) (by have := HN.out; omega)
              rw [List.getD_eq_getElem?_getD, List.getElem?_eq_getElem (by omega)] at h
              rw [List.getElem_drop]
              exact h)
            clear hall hlt hj hj1
            go_wp2_with fail
            go_ret
            exact ⟨by rw [HV.out]; rfl, rfl⟩
    · have q1 : (a0 == 2) = false := beq_eq_false_iff_ne.2 k3
      have q2 : a0 < 2 := by omega
      by_cases k4 : 40 ≤ a1
      · have HV := Lib.hid (HB0.out (.inr (.inr (.inl ⟨q2, k4⟩))))
        clear k3
        go_enter Try.func72, Try.ntmps72
        go_wp2_with fail
        go_ret
        exact ⟨by rw [HV.out]; rfl, rfl⟩
      · have HG := Lib.hid (HG0.out (by omega))
        clear k3
        go_enter Try.func72, Try.ntmps72
        go_wp2_with fail
        go_loop [3] (fun i => ∃ j : Nat, i = .int .i64 (j : Int) ∧ 1 ≤ j ∧ j ≤ m + 2 ∧ ∀ k, 1 ≤ k → k < j → 0 ≤ xs.getD k 0 ∧ xs.getD k 0 ≤ 2147483647) (fun i => (m + 2) - (intOf i).toNat)
        case atStart => exact ⟨1, by simp, Nat.le_refl _, by omega, fun k hk hk2 => absurd hk (by omega)⟩
        case round =>
          obtain ⟨j, rfl, hj1, hj, hall⟩ := hrel
          by_cases hlt : j < m + 2
          · have hcj := HC.out j (by have := HN.out; omega)
            have hij : (j : Int) < (m : Int) + 2 := by omega
            have HALL := Lib.hid hall
            have hbad : (xs.getD j 0 < 0 ∨ 2147483647 < xs.getD j 0) → oidRight xs = false := fun hneg => by
              unfold oidRight
              simp only [decide_eq_false_iff_not]
              intro h
              have h1 := h.2.2.2.2.2 (xs.getD j 0) (by
                have := HN.out
                rw [List.getD_eq_getElem?_getD, List.getElem?_eq_getElem (by omega)]
                rw [List.mem_iff_getElem]
                exact ⟨j - 1, by rw [List.length_drop]; omega, by rw [List.getElem_drop]; simp [show 1 + (j - 1) = j by omega]⟩)
              omega
            by_cases hneg : xs.getD j 0 < 0
            · have HV := Lib.hid (hbad (.inl hneg))
              clear hall hbad
              generalize xs.getD j 0 = x at *
              go_wp2_with fail
              go_ret
              exact ⟨by rw [HV.out]; rfl, rfl⟩
            · by_cases hbig : 2147483647 < xs.getD j 0
              · have HV := Lib.hid (hbad (.inr hbig))
                clear hall hbad
                generalize xs.getD j 0 = x at *
                go_wp2_with fail
                go_ret
                exact ⟨by rw [HV.out]; rfl, rfl⟩
              · have HX := Lib.hid (And.intro hneg hbig)
                obtain ⟨x, hx⟩ : ∃ x, xs.getD j 0 = x := ⟨_, rfl⟩
                rw [hx] at hcj hneg hbig
                clear hall hx hbad
                go_wp2_with fail
                go_round
                case rel =>
                  refine ⟨j + 1, by go_num, by omega, by omega, ?_⟩
                  intro k hk1 hk
                  by_cases e : k = j
                  · subst e; have := HX.out; omega
                  · exact HALL.out k hk1 (by omega)
                case measure => simp [intOf]; omega
          · obtain rfl : j = m + 2 := by omega
            have HV : Hid (oidRight xs = true) := Lib.hid (by
              refine HG.out ?_
              intro v hv
              obtain ⟨k, hk, rfl⟩ := List.mem_iff_getElem.1 hv
              rw [List.length_drop] at hk
              have h := hall (1 + k) (by omega) (by have := HN.out; omega)
              rw [List.getD_eq_getElem?_getD, List.getElem?_eq_getElem (by omega)] at h
              rw [List.getElem_drop]
              exact h)
            clear hall hlt hj hj1
            go_wp2_with fail
            go_ret
            exact ⟨by rw [HV.out]; rfl, rfl⟩
end Go.Proofs.Ytlpmjahhdbcfiaa

/-! ### The reference's contents of integers: contracts. -/
namespace Go.Proofs.Ytlpmjahhdbcfiaa
open Go.RowKit

theorem octets_any (v : Int) (w : World) (h0 : -9223372036854775808 ≤ v) (h1 : v ≤ 9223372036854775807) :
    Calls Try.prog 86 #[.int .i64 v] w (Copied w (octs v)) := by
  have hL := (iL_is v h0 h1).1
  have hLe := Lib.hid (fun j => iL_le v h0 h1 j)
  have HRG := Lib.hid (And.intro h0 h1)
  have hx0 : Byt [v % 256] := by
    intro x hx
    simp only [List.mem_singleton] at hx
    omega
  have HS := Lib.hid (Row.lit w w.heap.size [v % 256] (Nat.le_refl _) hx0 (by unfold maxLen; simp))
  clear hx0 h0 h1
  obtain ⟨L, hLL⟩ : ∃ L, iL v = L := ⟨_, rfl⟩
  rw [hLL] at hL hLe
  have HLL := Lib.hid hLL
  clear hLL
  obtain ⟨hL1, hL8⟩ := hL
  go_enter Try.func86, Try.ntmps86
  go_wp2_with fail
  go_loopw [3, 4] (fun o i W => ∃ j : Nat, i = .int .i64 (v / 256 ^ j) ∧ j + 1 ≤ L ∧ Row W w.heap.size o (bigB v (j + 1)) ∧ Only [] w W) (fun _ i _ => (intOf i).natAbs)
  case atStart => exact ⟨0, by simp, hL1, HS.out, (Only.refl _ _).alloc _⟩
  case round =>
    obtain ⟨j, rfl, hj, hrow, hk⟩ := hrel
    have hle := hLe.out j
    have hrg : -9223372036854775808 ≤ v / 256 ^ j ∧ v / 256 ^ j ≤ 9223372036854775807 := by
      have hp : (0 : Int) < 256 ^ j := Int.pow_pos (by decide)
      have h := HRG.out
      constructor
      · rw [Int.le_ediv_iff_mul_le hp]
        have : (1 : Int) ≤ 256 ^ j := by omega
        have h2 : (9223372036854775808 : Int) * 1 ≤ 9223372036854775808 * 256 ^ j := Int.mul_le_mul_of_nonneg_left this (by decide)
        omega
      · have : v / 256 ^ j < 9223372036854775808 := by
          rw [Int.ediv_lt_iff_lt_mul hp]
          have : (1 : Int) ≤ 256 ^ j := by omega
          have h2 : (9223372036854775808 : Int) * 1 ≤ 9223372036854775808 * 256 ^ j := Int.mul_le_mul_of_nonneg_left this (by decide)
          omega
        omega
    obtain ⟨g0, g1⟩ := hrg
    have HRow := Lib.hid hrow
    have HK := Lib.hid hk
    by_cases hlt : j + 1 < L
    · have hout : ¬ (-128 ≤ v / 256 ^ j ∧ v / 256 ^ j ≤ 127) := fun h => by have := hle.1 h; omega
      obtain ⟨q, hq⟩ : ∃ q, v / 256 ^ j = q := ⟨_, rfl⟩
      rw [hq] at g0 g1 hout ⊢
      have HQ := Lib.hid hq
      by_cases hp : 127 < q
      · skip
        have hx : Byt [q / 256 % 256] := by
          intro x hx
          simp only [List.mem_singleton] at hx
          omega
        have HX := Lib.hid (Row.lit wr w.heap.size [q / 256 % 256] HK.out.size hx (by unfold maxLen; simp))
        obtain ⟨A5, c5, rfl, hc5, hm5, hA5⟩ := hrow.form
        have hlb := bigB_len (j + 1) v
        rw [hlb] at hc5 HRow ⊢
        have HRA := Lib.hid ((HRow.out.alloc (.cells ([q / 256 % 256].map (Value.int .u8)).toArray 5)).rd hlb.symm)
        have hj8 : j + 1 ≤ 8 := by omega
        have HJ := Lib.hid hlt
        clear hle hout hj hrow hk hq hx hlb hc5 hm5 hA5 hlt
        go_wp2_with (at_builtin; refine wpList_row rfl (.tmp 19) (.tmp 20) rfl rfl w.heap.size _ _ [q / 256 % 256] (bigB v (j + 1)) A5 (j + 1) c5 rfl rfl HX.out HRA.out (bigB_len _ _).symm ?c1 ?c2 ?_)
        case c1 => have := HK.out.size; simp; omega
        case c2 => rw [bigB_len]; show 1 + (j + 1) ≤ 140737488355328; omega
        intro v' w1 hr1 hk1 _
        have HR1 := Lib.hid hr1
        have HK1 := Lib.hid hk1
        clear hr1 hk1
        go_wp2_with fail
        go_roundw
        case rel =>
          have e1 : v / 256 ^ (j + 1) = q / 256 := by rw [← HQ.out, Int.ediv_ediv_of_nonneg (Int.le_of_lt (Int.pow_pos (by decide))), ← Int.pow_succ]
          refine ⟨j + 1, by rw [e1], by have := HJ.out; omega, ?_, ?_⟩
          · rw [bigB_cons, e1]
            exact HR1.out
          · refine ((HK.out.alloc _).then HK1.out ?_)
            intro i hi hlt
            have := HK.out.size
            simp [own, Value.ownBlock] at hi
            omega
        case measure => first | (simp [intOf]; omega) | omega | (show (q / 256).natAbs < q.natAbs; omega)
      · have hm : q < -128 := by omega
        have hx : Byt [q / 256 % 256] := by
          intro x hx
          simp only [List.mem_singleton] at hx
          omega
        have HX := Lib.hid (Row.lit wr w.heap.size [q / 256 % 256] HK.out.size hx (by unfold maxLen; simp))
        obtain ⟨A5, c5, rfl, hc5, hm5, hA5⟩ := hrow.form
        have hlb := bigB_len (j + 1) v
        rw [hlb] at hc5 HRow ⊢
        have HRA := Lib.hid ((HRow.out.alloc (.cells ([q / 256 % 256].map (Value.int .u8)).toArray 5)).rd hlb.symm)
        have hj8 : j + 1 ≤ 8 := by omega
        have HJ := Lib.hid hlt
        clear hle hout hj hrow hk hq hx hlb hc5 hm5 hA5 hlt
        go_wp2_with (at_builtin; refine wpList_row rfl (.tmp 19) (.tmp 20) rfl rfl w.heap.size _ _ [q / 256 % 256] (bigB v (j + 1)) A5 (j + 1) c5 rfl rfl HX.out HRA.out (bigB_len _ _).symm ?c1 ?c2 ?_)
        case c1 => have := HK.out.size; simp; omega
        case c2 => rw [bigB_len]; show 1 + (j + 1) ≤ 140737488355328; omega
        intro v' w1 hr1 hk1 _
        have HR1 := Lib.hid hr1
        have HK1 := Lib.hid hk1
        clear hr1 hk1
        go_wp2_with fail
        go_roundw
        case rel =>
          have e1 : v / 256 ^ (j + 1) = q / 256 := by rw [← HQ.out, Int.ediv_ediv_of_nonneg (Int.le_of_lt (Int.pow_pos (by decide))), ← Int.pow_succ]
          refine ⟨j + 1, by rw [e1], by have := HJ.out; omega, ?_, ?_⟩
          · rw [bigB_cons, e1]
            exact HR1.out
          · refine ((HK.out.alloc _).then HK1.out ?_)
            intro i hi hlt
            have := HK.out.size
            simp [own, Value.ownBlock] at hi
            omega
        case measure => first | (simp [intOf]; omega) | omega | (show (q / 256).natAbs < q.natAbs; omega)
    · obtain rfl : L = j + 1 := by omega
      obtain ⟨i0, i1⟩ := hle.2 (Nat.le_refl _)
      obtain ⟨q, hq⟩ : ∃ q, v / 256 ^ j = q := ⟨_, rfl⟩
      rw [hq] at g0 g1 i0 i1 ⊢
      have t1 : ¬ (127 : Int) < q := by omega
      have t2 : ¬ q < -128 := by omega
      clear hq hle hlt hrow hk hj
      go_wp2_with fail
      go_ret
      have h := HRow.out
      rw [← HLL.out] at h
      exact h.copied' HK.out

theorem intContents_any (v : Int) (w : World) (h0 : -9223372036854775808 ≤ v) (h1 : v ≤ 9223372036854775807) :
    Calls Try.prog 70 #[.int .i64 v] w (Copied w (octs v)) := by
  have H := Lib.hid (octets_any v w h0 h1)
  clear h0 h1
  go_enter Try.func70, Try.ntmps70
  go_wp2_with fail
  refine H.out.mono ?_
  rintro e w1 ⟨A, c, rfl, h1, h2, h3, h4⟩
  have HQ := Lib.hid (And.intro h1 (And.intro h2 (And.intro h3 h4)))
  clear h1 h2 h3 h4 H
  go_wp2_with fail
  go_ret
  exact ⟨A, c, rfl, HQ.out⟩

end Go.Proofs.Ytlpmjahhdbcfiaa
