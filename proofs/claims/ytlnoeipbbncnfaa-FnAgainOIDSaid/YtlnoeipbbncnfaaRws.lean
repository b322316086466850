/- Rows of any element type that a slice owns; rows of ints. -/
import Derived.Test.YtlnoeipbbncnfaaIds
import Derived.Test.YtlnoeipbbncnfaaBl1
namespace Go.Proofs.Ytlnoeipbbncnfaa
open Go.RowKit

section
variable {w w' : World} {base : Nat} {T : TypeId} {sz n : Nat} {v : Value} {cs : List Value}
theorem own_ne (h : w.ownsRow base T sz v n cs) {b : Nat} {xs : Array Value} {T' : TypeId} {fr : Nat × Nat} (hb : w.heap[b]? = some (.cells xs T' fr)) (hT : T' ≠ T) : b ∉ own v := by
  rcases h.2 with ⟨rfl, _⟩ | ⟨g, cap, cur, rfl, _, hg, _⟩
  · simp [own, Value.ownBlock]
  · simp only [own, Value.ownBlock, Option.toList_some, List.mem_singleton]
    rintro rfl
    rw [hb] at hg
    simp only [Option.some.injEq, Obj.cells.injEq] at hg
    exact hT hg.2.1
theorem own_only {l : List Nat} (h : w.ownsRow base T sz v n cs) (ho : Only l w w') (hl : ∀ k ∈ l, k ∉ own v) : w'.ownsRow base T sz v n cs := by
  refine ⟨h.1, ?_⟩
  rcases h.2 with h0 | ⟨g, cap, cur, rfl, hb, hg, hr⟩
  · exact .inl h0
  · exact .inr ⟨g, cap, cur, rfl, hb, (ho.block g (lt_of_block hg) (fun hm => hl g hm (by simp [own, Value.ownBlock]))).trans hg, hr⟩
theorem own_low (h : w.ownsRow base T sz v n cs) : ∀ k ∈ own v, base ≤ k := by
  rcases h.2 with ⟨rfl, _⟩ | ⟨g, cap, cur, rfl, hb, _⟩
  · simp [own, Value.ownBlock]
  · simpa [own, Value.ownBlock] using hb
theorem own_lt (h : w.ownsRow base T sz v n cs) : ∀ k ∈ own v, k < w.heap.size := by
  rcases h.2 with ⟨rfl, _⟩ | ⟨g, cap, cur, rfl, _, hg, _⟩
  · simp [own, Value.ownBlock]
  · simpa [own, Value.ownBlock] using lt_of_block hg
end

theorem int_info : (Try.prog.info? 3).map (fun i => (i.zero, i.size, i.bytes)) = some (some (.int .i64 0), 1, 8) := by kernel_rfl

/-- The ints of a row that a slice owns. -/
def RowI (w : World) (base : Nat) (v : Value) (xs : List Int) : Prop := Sml xs ∧ w.ownsRow base 3 1 v xs.length (xs.map (Value.int .i64))
section
variable {w w' : World} {base : Nat} {v : Value} {xs : List Int}
theorem RowI.nil (w : World) (base : Nat) : RowI w base (.slice none 0 0) [] := ⟨Sml.nil, World.ownsRow_nil _ _ _ _⟩
theorem RowI.form (h : RowI w base v xs) : ∃ A c, v = .slice A xs.length c ∧ xs.length ≤ c ∧ c ≤ maxLen ∧ (∀ b, A = some b → base ≤ b.block) := own_form h.2
theorem RowI.ne (h : RowI w base v xs) {b : Nat} {cs : Array Value} {T : TypeId} {fr : Nat × Nat} (hb : w.heap[b]? = some (.cells cs T fr)) (hT : T ≠ 3) : b ∉ own v := own_ne h.2 hb hT
theorem RowI.only {l : List Nat} (h : RowI w base v xs) (ho : Only l w w') (hl : ∀ k ∈ l, k ∉ own v) : RowI w' base v xs := ⟨h.1, own_only h.2 ho hl⟩
theorem RowI.low (h : RowI w base v xs) : ∀ k ∈ own v, base ≤ k := own_low h.2
theorem RowI.rd {A : Option Addr} {n c : Nat} (h : RowI w base (.slice A n c) xs) (hn : n = xs.length) : RdI w w.heap.size A xs := by
  subst hn
  refine ⟨h.1, fun hn => ?_⟩
  rcases h.2.2 with ⟨hv, h0⟩ | ⟨g, cap, cur, hv, _, hg, hnc, _, hcs, htake⟩
  · omega
  · injection hv with hA _ _
    subst hA
    refine ⟨g, 0, rfl, (Array.getElem?_eq_some_iff.1 hg).1, fun i hi => ?_⟩
    rw [Nat.zero_add, cell_of_row w g i cur 3 (0, 0) hg]
    have := congrArg (·[i]?) htake
    simp [show i < xs.length by omega] at this
    rw [this]
    simp [List.getD_eq_getElem?_getD, List.getElem?_eq_getElem hi]
end
theorem Sml.oneCells (xs : List Int) : ∀ u ∈ xs.map (Value.int .i64), u.oneCell' = true := by
  intro u hu
  simp only [List.mem_map] at hu
  obtain ⟨x, _, rfl⟩ := hu
  rfl
theorem rdI_cells {w : World} {B : Nat} {A : Option Addr} {xs : List Int} (h : RdI w B A xs) : ∀ ad, A = some ad → ∀ j u, (xs.map (Value.int .i64))[j]? = some u → w.cell? (ad.add j) = some u := by
  intro ad hA j u hu
  have hj : j < xs.length := by
    rcases Nat.lt_or_ge j xs.length with hj | hj
    · exact hj
    · simp [List.getElem?_eq_none hj] at hu
  obtain ⟨b, off, e, _, hc⟩ := h.2 (by omega)
  rw [hA] at e
  replace e := Option.some.inj e
  subst e
  have hp : (⟨b, off, none⟩ : Addr).add j = ⟨b, off + j, none⟩ := by unfold Addr.add; split <;> simp_all
  rw [hp, hc j hj]
  simp [List.getElem?_eq_getElem hj] at hu
  subst hu
  simp [List.getD_eq_getElem?_getD, List.getElem?_eq_getElem hj]
theorem appendI_none (w : World) (base : Nat) (v : Value) (xs : List Int) (c : Nat) (h : RowI w base v xs) :
    (Builtin.append_ #[24, 24] 24 #[v, .slice none 0 c]).run Try.prog w = .ok v w := by
  obtain ⟨i0, hi, _⟩ := info_parts int_info
  rcases h.2.2 with ⟨rfl, h0⟩ | ⟨g, cap, cur, rfl, _, _, hnc, _⟩
  · simp [Builtin.append_, run_underlying Try.underlying24, sizeOf, typeInfo, hi, Builtin.lenOf, Builtin.firstCells]
  · simp [Builtin.append_, run_underlying Try.underlying24, sizeOf, typeInfo, hi, Builtin.lenOf, Builtin.firstCells, hnc, storeCells]
/-- Appending ints that are read to a row of one's own, at the operation. -/
theorem wpList_rowI {ops : Array Oper} {rest : List Oper} {o : Oper} {a : Act} {w : World} {Q : Exit → Act → World → Prop} (hgd : o.guard = none) (s x : Operand)
    (ho : o.op = .call { callee := .builtin .append, args := #[s, x], argTypes := #[24, 24] }) (hty : o.type = 24) (base B : Nat) (v : Value) (ys xs : List Int) (A : Option Addr) (n c : Nat)
    (hs : a.eval s = v) (hx : a.eval x = .slice A n c) (hr : RowI w base v ys) (hrd : RdI w B A xs) (hn : n = xs.length) (hb : base ≤ w.heap.size) (hl : ys.length + xs.length ≤ 16777216)
    (h : ∀ v' w1, RowI w1 base v' (ys ++ xs) → Only (own v) w w1 → (v'.ownBlock = v.ownBlock ∨ ∀ k ∈ own v', w.heap.size ≤ k) → wpList Try.prog ops Q rest (a.put o.dst v') w1) :
    wpList Try.prog ops Q (o :: rest) a w := by
  subst hn
  obtain ⟨i0, hi, hz0, hz1, hz2⟩ := info_parts int_info
  have hcells := rdI_cells hrd
  rcases A with _ | ad
  · have h0 : xs = [] := by
      rcases xs with _ | ⟨x, xs⟩
      · rfl
      · obtain ⟨_, _, e', _⟩ := hrd.2 (by simp)
        cases e'
    subst h0
    have hq := h v w (by rw [List.append_nil]; exact hr) (Only.refl _ _) (.inl rfl)
    refine wpList_plain hgd fun _ hK => ?_
    unfold Oper.wp execOp
    simp only [ho, hty, resolve, invoke, builtin, Sem.run_bind, Sem.run_pure, Result.andThen_ok, List.map_toArray, List.map_cons, List.map_nil, hs, hx, appendI_none w base v ys c hr, List.length_nil]
    exact hK _ _ hq
  · refine wpList_append_own_at w hgd s x 24 ho base 3 i0 (.int .i64 0) 1 8 Try.underlying24 hi hz0 hz1 hz2 rfl (by decide) v ys.length (ys.map (Value.int .i64)) hs hr.2 ad xs.length c (xs.map (Value.int .i64)) hx (by simp) (hcells ad rfl) (Sml.oneCells xs) (by unfold maxLen; omega) (by omega) hb ?_
    intro v' w1 hown hg _ hat
    refine h v' w1 ⟨hr.1.append hrd.1, by simpa using hown⟩ (Only.grown hg (fun k hk _ => by simp [own, hk])) ?_
    rcases hat with e | e
    · exact .inl e
    · refine .inr fun k hk => ?_
      simp [own, e] at hk
      omega
end Go.Proofs.Ytlnoeipbbncnfaa
