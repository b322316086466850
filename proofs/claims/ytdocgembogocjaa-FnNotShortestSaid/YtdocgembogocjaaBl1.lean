/- A builder in memory; add, the numbers, the bytes: contracts. -/
import Derived.Test.YtdocgembogocjaaStr
import Derived.Test.YtdocgembogocjaaNum
import Derived.Maps.AppendAt
import Derived.BigQuiet
import Derived.Deep.QuietTactic
import Derived.StillTailTactics
namespace Go.Proofs.Ytdocgembogocjaa
open Go.RowKit


/-- The bytes of a row that a slice owns. -/
def Row (w : World) (base : Nat) (v : Value) (xs : List Int) : Prop := Byt xs ∧ w.ownsRow base 5 1 v xs.length (xs.map (Value.int .u8))
def own (v : Value) : List Nat := v.ownBlock.toList
section
variable {w w' : World} {base : Nat} {v : Value} {xs : List Int}
theorem Row.byt' (h : Row w base v xs) : Byt xs := h.1
theorem Row.nil (w : World) (base : Nat) : Row w base (.slice none 0 0) [] := ⟨Byt.nil, World.ownsRow_nil _ _ _ _⟩
theorem Row.form (h : Row w base v xs) : ∃ A c, v = .slice A xs.length c ∧ xs.length ≤ c ∧ c ≤ maxLen ∧ (∀ b, A = some b → base ≤ b.block) := own_form h.2
theorem Row.rd {A : Option Addr} {n c : Nat} (h : Row w base (.slice A n c) xs) (hn : n = xs.length) : Rd w w.heap.size A xs := by
  subst hn
  exact Rd.of_own h.1 h.2
theorem Row.ne (h : Row w base v xs) {b : Nat} {cs : Array Value} {T : TypeId} {fr : Nat × Nat} (hb : w.heap[b]? = some (.cells cs T fr)) (hT : T ≠ 5) : b ∉ own v := by
  rcases h.2.2 with ⟨rfl, _⟩ | ⟨g, cap, cur, rfl, _, hg, _⟩
  · simp [own, Value.ownBlock]
  · simp only [own, Value.ownBlock, Option.toList_some, List.mem_singleton]
    rintro rfl
    rw [hb] at hg
    simp only [Option.some.injEq, Obj.cells.injEq] at hg
    exact hT hg.2.1
theorem Row.only {l : List Nat} (h : Row w base v xs) (ho : Only l w w') (hl : ∀ k ∈ l, k ∉ own v) : Row w' base v xs := by
  refine ⟨h.1, h.2.1, ?_⟩
  rcases h.2.2 with h0 | ⟨g, cap, cur, rfl, hb, hg, hr⟩
  · exact .inl h0
  · exact .inr ⟨g, cap, cur, rfl, hb, (ho.block g (lt_of_block hg) (fun hm => hl g hm (by simp [own, Value.ownBlock]))).trans hg, hr⟩
theorem Row.low (h : Row w base v xs) : ∀ k ∈ own v, base ≤ k := by
  rcases h.2.2 with ⟨rfl, _⟩ | ⟨g, cap, cur, rfl, hb, _⟩
  · simp [own, Value.ownBlock]
  · simpa [own, Value.ownBlock] using hb
theorem Row.more (h : Row w base v xs) {base' : Nat} (hb : base' ≤ base) : Row w base' v xs := by
  refine ⟨h.1, h.2.1, ?_⟩
  rcases h.2.2 with h0 | ⟨g, cap, cur, rfl, hg, hr⟩
  · exact .inl h0
  · exact .inr ⟨g, cap, cur, rfl, Nat.le_trans hb hg, hr⟩
end

theorem append_none (w : World) (base : Nat) (v : Value) (xs : List Int) (c : Nat) (h : Row w base v xs) :
    (Builtin.append_ #[22, 22] 22 #[v, .slice none 0 c]).run Try.prog w = .ok v w := by
  obtain ⟨i0, hi, _⟩ := info_parts u8_info
  rcases h.2.2 with ⟨rfl, h0⟩ | ⟨g, cap, cur, rfl, _, _, hnc, _⟩
  · simp [Builtin.append_, run_underlying Try.underlying22, sizeOf, typeInfo, hi, Builtin.lenOf, Builtin.firstCells]
  · simp [Builtin.append_, run_underlying Try.underlying22, sizeOf, typeInfo, hi, Builtin.lenOf, Builtin.firstCells, hnc, storeCells]

/-- Appending no bytes, at the operation. -/
theorem wpList_append_none {ops : Array Oper} {rest : List Oper} {o : Oper} {a : Act} {w : World} {Q : Exit → Act → World → Prop} (hgd : o.guard = none) (s x : Operand)
    (ho : o.op = .call { callee := .builtin .append, args := #[s, x], argTypes := #[22, 22] }) (hty : o.type = 22) (base : Nat) (v : Value) (xs : List Int) (c : Nat) (hs : a.eval s = v) (hr : Row w base v xs) (hx : a.eval x = .slice none 0 c)
    (h : wpList Try.prog ops Q rest (a.put o.dst v) w) : wpList Try.prog ops Q (o :: rest) a w := by
  refine wpList_plain hgd fun _ hK => ?_
  unfold Oper.wp execOp
  simp only [ho, hty, resolve, invoke, builtin, Sem.run_bind, Sem.run_pure, Result.andThen_ok, List.map_toArray, List.map_cons, List.map_nil, hs, hx, append_none w base v xs c hr]
  exact hK _ _ h
theorem rd_cells {w : World} {B : Nat} {A : Option Addr} {xs : List Int} (h : Rd w B A xs) : ∀ ad, A = some ad → ∀ j u, (xs.map (Value.int .u8))[j]? = some u → w.cell? (ad.add j) = some u := by
  intro ad hA j u hu
  have hj : j < xs.length := by
    rcases Nat.lt_or_ge j xs.length with hj | hj
    · exact hj
    · simp [List.getElem?_eq_none hj] at hu
  obtain ⟨b, off, e, _, hc⟩ := h.2 (by omega)
  rw [hA] at e
  replace e := Option.some.inj e
  subst e
  have hp : (⟨b, off, none⟩ : Addr).add j = ⟨b, off + j, none⟩ := by unfold Addr.add; split <;> simp_all
  rw [hp, hc j hj]
  simp [List.getElem?_eq_getElem hj] at hu
  subst hu
  simp [List.getD_eq_getElem?_getD, List.getElem?_eq_getElem hj]
/-- Appending bytes that are read to a row of one's own, at the operation. -/
theorem wpList_row {ops : Array Oper} {rest : List Oper} {o : Oper} {a : Act} {w : World} {Q : Exit → Act → World → Prop} (hgd : o.guard = none) (s x : Operand)
    (ho : o.op = .call { callee := .builtin .append, args := #[s, x], argTypes := #[22, 22] }) (hty : o.type = 22) (base B : Nat) (v : Value) (ys xs : List Int) (A : Option Addr) (n c : Nat)
    (hs : a.eval s = v) (hx : a.eval x = .slice A n c) (hr : Row w base v ys) (hrd : Rd w B A xs) (hn : n = xs.length) (hb : base ≤ w.heap.size) (hl : ys.length + xs.length ≤ 140737488355328)
    (h : ∀ v' w1, Row w1 base v' (ys ++ xs) → Only (own v) w w1 → (v'.ownBlock = v.ownBlock ∨ ∀ k ∈ own v', w.heap.size ≤ k) → wpList Try.prog ops Q rest (a.put o.dst v') w1) :
    wpList Try.prog ops Q (o :: rest) a w := by
  subst hn
  obtain ⟨i0, hi, hz0, hz1, hz2⟩ := info_parts u8_info
  have hcells := rd_cells hrd
  rcases A with _ | ad
  · have h0 : xs = [] := by
      rcases xs with _ | ⟨x, xs⟩
      · rfl
      · obtain ⟨_, _, e', _⟩ := hrd.2 (by simp)
        cases e'
    subst h0
    have hq := h v w (by rw [List.append_nil]; exact hr) (Only.refl _ _) (.inl rfl)
    exact wpList_append_none hgd s x ho hty base v ys c hs hr hx hq
  · refine wpList_append_own_at w hgd s x 22 ho base 5 i0 (.int .u8 0) 1 1 Try.underlying22 hi hz0 hz1 hz2 rfl (by decide) v ys.length (ys.map (Value.int .u8)) hs hr.2 ad xs.length c (xs.map (Value.int .u8)) hx (by simp) (hcells ad rfl) (Byt.oneCells xs) (by unfold maxLen; omega) (by omega) hb ?_
    intro v' w1 hown hg _ hat
    refine h v' w1 ⟨hr.1.append hrd.byt, by simpa using hown⟩ (Only.grown hg (fun k hk _ => by simp [own, hk])) ?_
    rcases hat with e | e
    · exact .inl e
    · refine .inr fun k hk => ?_
      simp [own, e] at hk
      omega
end Go.Proofs.Ytdocgembogocjaa
