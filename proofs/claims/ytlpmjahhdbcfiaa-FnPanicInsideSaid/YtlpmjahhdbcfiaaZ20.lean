/- Rows of steps that a slice owns; steps behind steps. The law on steps in two parts: walk. -/
import Derived.Test.YtlpmjahhdbcfiaaZ17
import Derived.Test.YtlpmjahhdbcfiaaZ9
import Derived.Test.YtlpmjahhdbcfiaaZ2
import Derived.Test.YtlpmjahhdbcfiaaZ19
/-! ### Rows of steps that a slice owns; steps behind steps. -/
namespace Go.Proofs.Ytlpmjahhdbcfiaa
open Go.RowKit
set_option linter.unusedVariables false

theorem item_info : (Try.prog.info? 37).map (fun i => (i.zero, i.size, i.bytes)) = some (some (.agg #[.int .i64 0, .int .i64 0, .int .i64 0, .slice none 0 0, .slice none 0 0, .slice none 0 0]), 6, 96) := by kernel_rfl

/-- The cells of steps. -/
def ItsCells (w : World) (B : Nat) : Its → List Value → Prop
  | .nil, cs => cs = []
  | .cons k n t d o kids rest, cs => ∃ (Ad : Option Addr) (cd : Nat) (Ao : Option Addr) (co : Nat) (Ak : Option Addr) (ck : Nat) (cs' : List Value),
      cs = itemCells k n t d o Ad cd Ao co Ak kids.len ck ++ cs' ∧
      (-9223372036854775808 ≤ k ∧ k ≤ 9223372036854775807) ∧ (-9223372036854775808 ≤ n ∧ n ≤ 9223372036854775807) ∧ (-9223372036854775808 ≤ t ∧ t ≤ 9223372036854775807) ∧
      Rd w B Ad d ∧ d.length ≤ cd ∧ cd ≤ maxLen ∧ RdI w B Ao o ∧ o.length ≤ co ∧ co ≤ maxLen ∧ kids.len ≤ ck ∧ ck ≤ maxLen ∧ ItsRd w B Ak kids ∧ ItsCells w B rest cs'
theorem ItsCells.len {w : World} {B : Nat} : ∀ {its : Its} {cs : List Value}, ItsCells w B its cs → cs.length = its.len * 6 := by
  intro its
  induction its with
  | nil => intro cs h; have : cs = [] := h; subst this; simp [Its.len]
  | cons k n t d o kids rest _ ih =>
    rintro cs ⟨Ad, cd, Ao, co, Ak, ck, cs', rfl, h⟩
    have := ih h.2.2.2.2.2.2.2.2.2.2.2.2
    simp only [List.length_append, this, itemCells, List.length_cons, List.length_nil, Its.len]
    omega
theorem ItsCells.one {w : World} {B : Nat} : ∀ {its : Its} {cs : List Value}, ItsCells w B its cs → ∀ u ∈ cs, u.oneCell' = true := by
  intro its
  induction its with
  | nil => intro cs h u hu; have : cs = [] := h; subst this; cases hu
  | cons k n t d o kids rest _ ih =>
    rintro cs ⟨Ad, cd, Ao, co, Ak, ck, cs', rfl, h⟩ u hu
    rcases List.mem_append.1 hu with hu | hu
    · simp only [itemCells, List.mem_cons, List.not_mem_nil, or_false] at hu
      rcases hu with rfl | rfl | rfl | rfl | rfl | rfl <;> rfl
    · exact ih h.2.2.2.2.2.2.2.2.2.2.2.2 u hu
theorem RdI.keep' {w w' : World} {B : Nat} {A : Option Addr} {xs : List Int} (h : RdI w B A xs) (hk : ∀ p : Addr, p.block < B → w'.cell? p = w.cell? p) : RdI w' B A xs := h.keep hk
theorem ItsCells.keep {w w' : World} {B : Nat} (hk : ∀ p : Addr, p.block < B → w'.cell? p = w.cell? p) : ∀ {its : Its} {cs : List Value}, ItsCells w B its cs → ItsCells w' B its cs := by
  intro its
  induction its with
  | nil => intro cs h; exact h
  | cons k n t d o kids rest _ ih =>
    rintro cs ⟨Ad, cd, Ao, co, Ak, ck, cs', rfl, r1, r2, r3, r4, r5, r6, r7, r8, r9, r10, r11, r12, r13⟩
    exact ⟨Ad, cd, Ao, co, Ak, ck, cs', rfl, r1, r2, r3, r4.keep hk, r5, r6, r7.keep hk, r8, r9, r10, r11, r12.keep hk, ih r13⟩
theorem ItsAt.mono {w : World} {B B' : Nat} (hB : B ≤ B') : ∀ {its : Its} {b off : Nat}, ItsAt w B its b off → ItsAt w B' its b off := by
  intro its
  induction its with
  | nil => intro _ _ _; trivial
  | cons k n t d o kids rest ihk ihr =>
    rintro b off ⟨Ad, cd, Ao, co, Ak, ck, h1, h2, h3, h4, h5, h6, h7, h8, h9, h10, h11, h12, h13, h14⟩
    refine ⟨Ad, cd, Ao, co, Ak, ck, h1, h2, h3, h4, h5.more hB, h6, h7, h8.more hB, h9, h10, h11, h12, ?_, ihr h14⟩
    intro hp
    obtain ⟨b', off', e, hb', h⟩ := h13 hp
    exact ⟨b', off', e, Nat.lt_of_lt_of_le hb' hB, ihk h⟩
theorem ItsRd.mono {w : World} {B B' : Nat} {A : Option Addr} {its : Its} (h : ItsRd w B A its) (hB : B ≤ B') : ItsRd w B' A its := by
  intro hp
  obtain ⟨b, off, e, hb, h⟩ := h hp
  exact ⟨b, off, e, Nat.lt_of_lt_of_le hb hB, h.mono hB⟩
theorem ItsCells.mono {w : World} {B B' : Nat} (hB : B ≤ B') : ∀ {its : Its} {cs : List Value}, ItsCells w B its cs → ItsCells w B' its cs := by
  intro its
  induction its with
  | nil => intro cs h; exact h
  | cons k n t d o kids rest _ ih =>
    rintro cs ⟨Ad, cd, Ao, co, Ak, ck, cs', rfl, r1, r2, r3, r4, r5, r6, r7, r8, r9, r10, r11, r12, r13⟩
    exact ⟨Ad, cd, Ao, co, Ak, ck, cs', rfl, r1, r2, r3, r4.more hB, r5, r6, r7.more hB, r8, r9, r10, r11, r12.mono hB, ih r13⟩
theorem ItsAt.cells {w : World} {B : Nat} : ∀ {its : Its} {b off : Nat}, ItsAt w B its b off → ∃ cs, ItsCells w B its cs ∧ ∀ j u, cs[j]? = some u → w.cell? ⟨b, off + j, none⟩ = some u := by
  intro its
  induction its with
  | nil => intro b off _; exact ⟨[], rfl, fun j u h => by simp at h⟩
  | cons k n t d o kids rest ihk ihr =>
    rintro b off ⟨Ad, cd, Ao, co, Ak, ck, h1, h2, h3, h4, h5, h6, h7, h8, h9, h10, h11, h12, h13, h14⟩
    obtain ⟨cs', c1, c2⟩ := ihr h14
    refine ⟨itemCells k n t d o Ad cd Ao co Ak kids.len ck ++ cs', ⟨Ad, cd, Ao, co, Ak, ck, cs', rfl, h2, h3, h4, h5, h6, h7, h8, h9, h10, h11, h12, h13, c1⟩, ?_⟩
    intro j u hj
    have hl : (itemCells k n t d o Ad cd Ao co Ak kids.len ck).length = 6 := rfl
    by_cases hlt : j < 6
    · rw [List.getElem?_append_left (by omega)] at hj
      exact h1 j u hj
    · rw [List.getElem?_append_right (by omega), hl] at hj
      have := c2 _ u hj
      rwa [show off + 6 + (j - 6) = off + j by omega] at this
theorem ItsCells.at_ {w : World} {B : Nat} : ∀ {its : Its} {cs : List Value} {b off : Nat}, ItsCells w B its cs → (∀ j u, cs[j]? = some u → w.cell? ⟨b, off + j, none⟩ = some u) → ItsAt w B its b off := by
  intro its
  induction its with
  | nil => intro _ _ _ _ _; trivial
  | cons k n t d o kids rest ihk ihr =>
    rintro cs b off ⟨Ad, cd, Ao, co, Ak, ck, cs', rfl, h2, h3, h4, h5, h6, h7, h8, h9, h10, h11, h12, h13, h14⟩ hc
    have hl : (itemCells k n t d o Ad cd Ao co Ak kids.len ck).length = 6 := rfl
    refine ⟨Ad, cd, Ao, co, Ak, ck, fun i u hu => hc i u ?_, h2, h3, h4, h5, h6, h7, h8, h9, h10, h11, h12, h13, ihr h14 fun j u hu => ?_⟩
    · rw [List.getElem?_append_left (List.getElem?_eq_some_iff.1 hu).1]; exact hu
    · have := hc (6 + j) u (by rw [List.getElem?_append_right (by omega), hl, show 6 + j - 6 = j by omega]; exact hu)
      rwa [show off + (6 + j) = off + 6 + j by omega] at this
theorem ItsCells.append {w : World} {B : Nat} {b : Its} {cb : List Value} (hb : ItsCells w B b cb) : ∀ {a : Its} {ca : List Value}, ItsCells w B a ca → ItsCells w B (a.app b) (ca ++ cb) := by
  intro a
  induction a with
  | nil => intro ca h; have : ca = [] := h; subst this; exact hb
  | cons k n t d o kids rest _ ih =>
    rintro cs ⟨Ad, cd, Ao, co, Ak, ck, cs', rfl, r1, r2, r3, r4, r5, r6, r7, r8, r9, r10, r11, r12, r13⟩
    exact ⟨Ad, cd, Ao, co, Ak, ck, cs' ++ cb, by rw [List.append_assoc], r1, r2, r3, r4, r5, r6, r7, r8, r9, r10, r11, r12, ih r13⟩
/-- A row of steps that a slice owns; what they hold lies below B. -/
def RowT (w : World) (base B : Nat) (v : Value) (its : Its) : Prop := ∃ cs, ItsCells w B its cs ∧ w.ownsRow base 37 6 v its.len cs
theorem RowT.form {w : World} {base B : Nat} {v : Value} {its : Its} (h : RowT w base B v its) : ∃ A c, v = .slice A its.len c ∧ its.len ≤ c ∧ c ≤ maxLen ∧ (∀ b, A = some b → base ≤ b.block) := by
  obtain ⟨cs, _, h⟩ := h
  rcases h.2 with ⟨rfl, h0⟩ | ⟨g, cap, cur, rfl, hg, _, hn, hm, _⟩
  · exact ⟨none, 0, by rw [h0], by omega, Nat.zero_le _, fun b e => by cases e⟩
  · exact ⟨_, cap, rfl, hn, hm, fun b e => by cases e; exact hg⟩
theorem RowT.low {w : World} {base B : Nat} {v : Value} {its : Its} (h : RowT w base B v its) : ∀ k ∈ own v, base ≤ k := by
  obtain ⟨cs, _, h⟩ := h
  exact own_low h
theorem RowT.only {w w' : World} {base B : Nat} {v : Value} {its : Its} {l : List Nat} (h : RowT w base B v its) (ho : Only l w w') (hl : ∀ k ∈ l, k ∉ own v ∧ B ≤ k) (hB : B ≤ w.heap.size) : RowT w' base B v its := by
  obtain ⟨cs, h1, h2⟩ := h
  exact ⟨cs, h1.keep fun _ hp => (ho.below (fun k hk => (hl k hk).2) hB).cell hp, own_only h2 ho fun k hk => (hl k hk).1⟩
theorem RowT.rd {w : World} {base B : Nat} {A : Option Addr} {n c : Nat} {its : Its} (h : RowT w base B (.slice A n c) its) (hB : B ≤ w.heap.size) : ItsRd w w.heap.size A its := by
  obtain ⟨cs, h1, h2⟩ := h
  intro hp
  rcases h2.2 with ⟨hv, h0⟩ | ⟨g, cap, cur, hv, _, hg, hnc, _, hcs, htake⟩
  · omega
  · injection hv with hA _ _
    subst hA
    refine ⟨g, 0, rfl, (Array.getElem?_eq_some_iff.1 hg).1, (h1.mono hB).at_ fun j u hj => ?_⟩
    rw [Nat.zero_add, cell_of_row w g j cur 37 (0, 0) hg]
    rw [← htake] at hj
    have hlt := (List.getElem?_eq_some_iff.1 hj).1
    rw [List.getElem?_take] at hj
    split at hj
    · simpa using hj
    · cases hj
theorem appendT_none (w : World) (base B : Nat) (v : Value) (its : Its) (c : Nat) (h : RowT w base B v its) :
    (Builtin.append_ #[22, 22] 22 #[v, .slice none 0 c]).run Try.prog w = .ok v w := by
  obtain ⟨i0, hi, _⟩ := info_parts item_info
  obtain ⟨cs, _, h⟩ := h
  rcases h.2 with ⟨rfl, h0⟩ | ⟨g, cap, cur, rfl, _, _, hnc, _⟩
  · simp [Builtin.append_, run_underlying Try.underlying22, sizeOf, typeInfo, hi, Builtin.lenOf, Builtin.firstCells]
  · simp [Builtin.append_, run_underlying Try.underlying22, sizeOf, typeInfo, hi, Builtin.lenOf, Builtin.firstCells, hnc, storeCells]
/-- Appending steps that are read to a row of one's own, at the operation. -/
theorem wpList_rowT {ops : Array Oper} {rest : List Oper} {o : Oper} {a : Act} {w : World} {Q : Exit → Act → World → Prop} (hgd : o.guard = none) (s x : Operand)
    (ho : o.op = .call { callee := .builtin .append, args := #[s, x], argTypes := #[22, 22] }) (hty : o.type = 22) (base B : Nat) (v : Value) (i1 i2 : Its) (A : Option Addr) (n c : Nat)
    (hs : a.eval s = v) (hx : a.eval x = .slice A n c) (hr : RowT w base B v i1) (hrd : 0 < i2.len → ∃ b off cs, A = some ⟨b, off, none⟩ ∧ ItsCells w B i2 cs ∧ ∀ j u, cs[j]? = some u → w.cell? ⟨b, off + j, none⟩ = some u) (hn : n = i2.len) (hb : base ≤ w.heap.size) (hBb : B ≤ base) (hl : i1.len + i2.len ≤ 1000000000000)
    (h : ∀ v' w1, RowT w1 base B v' (i1.app i2) → Only (own v) w w1 → (v'.ownBlock = v.ownBlock ∨ ∀ k ∈ own v', w.heap.size ≤ k) → wpList Try.prog ops Q rest (a.put o.dst v') w1) :
    wpList Try.prog ops Q (o :: rest) a w := by
  subst hn
  obtain ⟨i0, hi, hz0, hz1, hz2⟩ := info_parts item_info
  have hnil : ∀ its : Its, its.len = 0 → its = .nil := fun its h => by cases its with | nil => rfl | cons => simp [Its.len] at h
  have happ : i1.app .nil = i1 := by
    clear hr hl h hs
    induction i1 with
    | nil => rfl
    | cons k n t d o kids rest _ ih => simp only [Its.app, ih]
  have hlow := hr.low
  rcases A with _ | ad
  · have h0 : i2 = .nil := by
      refine hnil _ ?_
      rcases Nat.eq_zero_or_pos i2.len with h | h
      · exact h
      · obtain ⟨_, _, _, e', _⟩ := hrd h
        cases e'
    subst h0
    have hq := h v w (by rw [happ]; exact hr) (Only.refl _ _) (.inl rfl)
    refine wpList_plain hgd fun _ hK => ?_
    unfold Oper.wp execOp
    simp only [ho, hty, resolve, invoke, builtin, Sem.run_bind, Sem.run_pure, Result.andThen_ok, List.map_toArray, List.map_cons, List.map_nil, hs, hx, appendT_none w base B v i1 c hr, Its.len]
    exact hK _ _ hq
  · obtain ⟨c1, g1, hown⟩ := hr
    obtain ⟨cs, g2, hcs⟩ : ∃ cs, ItsCells w B i2 cs ∧ ∀ j u, cs[j]? = some u → w.cell? (ad.add j) = some u := by
      rcases Nat.eq_zero_or_pos i2.len with h0 | h0
      · rw [hnil _ h0]
        exact ⟨[], rfl, fun j u h => by simp at h⟩
      · obtain ⟨b, off, cs, e, h1, h2⟩ := hrd h0
        replace e := Option.some.inj e
        subst e
        refine ⟨cs, h1, fun j u hj => ?_⟩
        have hp : (⟨b, off, none⟩ : Addr).add j = ⟨b, off + j, none⟩ := by unfold Addr.add; split <;> simp_all
        rw [hp]
        exact h2 j u hj
    refine wpList_append_own_at w hgd s x 22 ho base 37 i0 _ 6 96 Try.underlying22 hi hz0 hz1 hz2 rfl (by decide) v i1.len c1 hs hown ad i2.len c cs hx g2.len hcs g2.one (by unfold maxLen; omega) (by omega) hb ?_
    intro v' w1 hown' hg _ hat
    have hon : Only (own v) w w1 := Only.grown hg (fun k hk _ => by simp [own, hk])
    have hkeep : ∀ p : Addr, p.block < B → w1.cell? p = w.cell? p := fun _ hp => (hon.below (B := B) (fun k hk => Nat.le_trans hBb (hlow k hk)) (Nat.le_trans hBb hb)).cell hp
    refine h v' w1 ⟨c1 ++ cs, (g2.keep hkeep).append (g1.keep hkeep), by rw [app_len]; exact hown'⟩ hon ?_
    rcases hat with e | e
    · exact .inl e
    · refine .inr fun k hk => ?_
      simp [own, e] at hk
      omega
/-- A literal of no steps. -/
theorem RowT.lit (w : World) (base B : Nat) (hb : base ≤ w.heap.size) : RowT (w.alloc (.cells #[] 37)) base B (.slice (some ⟨w.heap.size, 0, none⟩) 0 0) .nil :=
  ⟨[], rfl, World.ownsRow_lit w #[] 0 hb (by unfold maxLen; omega) rfl⟩
theorem ItsRd.cells {w : World} {B : Nat} {A : Option Addr} {its : Its} (h : ItsRd w B A its) : 0 < its.len → ∃ b off cs, A = some ⟨b, off, none⟩ ∧ ItsCells w B its cs ∧ ∀ j u, cs[j]? = some u → w.cell? ⟨b, off + j, none⟩ = some u := by
  intro hp
  obtain ⟨b, off, e, _, h⟩ := h hp
  obtain ⟨cs, h1, h2⟩ := h.cells
  exact ⟨b, off, cs, e, h1, h2⟩

end Go.Proofs.Ytlpmjahhdbcfiaa

/-! ### The law on steps in two parts: walk. -/
namespace Go.Proofs.Ytlpmjahhdbcfiaa
open Go.RowKit
set_option linter.unusedVariables false

theorem runE_err {its : Its} (h : Ok its false) : runE its = .err := by
  rcases runE_two its with q | q
  · exact q
  · cases runE_ins its false h q
/-- What steps in two parts come to. -/
theorem fine_app {a b : Its} (ha : Fine a) (hb : Fine b) (h1 : (sRun a St.nil).wr = false) (h2 : (sRun b St.nil).wr = false) :
    ∃ res, run (a.app b) false [] = some res ∧ (((sRun a St.nil).fl = false ∧ (sRun b St.nil).fl = false ∧ res = .good ((sRun a St.nil).out ++ (sRun b St.nil).out)) ∨ (((sRun a St.nil).fl = true ∨ (sRun b St.nil).fl = true) ∧ res = .err)) := by
  obtain ⟨ra, e1, h⟩ := fine_res ha [] h1
  rw [app_run, e1]
  rcases h with ⟨q, rfl⟩ | ⟨q, rfl⟩
  · obtain ⟨rb, e2, h⟩ := fine_res hb ([] ++ (sRun a St.nil).out) h2
    refine ⟨rb, e2, ?_⟩
    rcases h with ⟨q2, rfl⟩ | ⟨q2, rfl⟩
    · exact .inl ⟨q, q2, rfl⟩
    · exact .inr ⟨.inr q2, rfl⟩
  · exact ⟨.err, by show some (runE b) = _; rw [runE_err hb.2.2.1], .inr ⟨.inl q, rfl⟩⟩

set_option maxRecDepth 100000 in
theorem law_FnBuildSplit (ia : Its) (A0 : Option Addr) (n0 c0 : Nat) (ib : Its) (A1 : Option Addr) (n1 c1 : Nat) (w : World) (hia : ItsRd w w.heap.size A0 ia) (hn0 : n0 = ia.len) (hm0 : n0 ≤ 140737488355328) (hsa : Sz ia) (hra : Rng ia) (hib : ItsRd w w.heap.size A1 ib) (hn1 : n1 = ib.len) (hm1 : n1 ≤ 140737488355328) (hsb : Sz ib) (hrb : Rng ib) :
    Calls Try.prog 5 #[.slice A0 n0 c0, .slice A1 n1 c1] w fun e w' => e = .returned (.bool true) ∧ Below w.heap.size w w' := by
  by_cases hz0 : 2147483647 < n0
  · clear hia hn0 hsa hib hn1 hsb
    go_enter Try.func5, Try.ntmps5
    go_wp2_with fail
    go_ret
    exact ⟨rfl, Below.refl _ _⟩
  by_cases hz1 : 2147483647 < n1
  · clear hia hn0 hsa hib hn1 hsb
    go_enter Try.func5, Try.ntmps5
    go_wp2_with fail
    go_ret
    exact ⟨rfl, Below.refl _ _⟩
  have R0 := Lib.hid (specRight_any ia A0 n0 c0 w w.heap.size hia hn0 hm0 (Nat.le_refl _) hsa)
  have R1 := Lib.hid (fun (W : World) (ho : Only [] w W) => specRight_any ib A1 n1 c1 W w.heap.size (hib.only ho (by simp) (Nat.le_refl _)) hn1 hm1 ho.size hsb)
  have T1 := Lib.hid (fun (W : World) (ho : Only [] w W) => tb_all ib A1 n1 c1 W w.heap.size (hib.only ho (by simp) (Nat.le_refl _)) hn1 hm1 ho.size hsb)
  have B0 := Lib.hid (fun (W : World) (ho : Only [] w W) (hf : Fine ia) => sbuild_any ia false A0 n0 c0 W w.heap.size (hia.only ho (by simp) (Nat.le_refl _)) hn0 ho.size hf.2.2.1 hra (by have := hf.wt; omega))
  have B1 := Lib.hid (fun (W : World) (ho : Only [] w W) (hf : Fine ib) => sbuild_any ib false A1 n1 c1 W w.heap.size (hib.only ho (by simp) (Nat.le_refl _)) hn1 ho.size hf.2.2.1 hrb (by have := hf.wt; omega))
  have I0 := Lib.hid (fun (W : World) (ho : Only [] w W) (hf : Fine ia) (res : Res) (hr : run ia false [] = some res) => build_any ia A0 n0 c0 W w.heap.size res (hia.only ho (by simp) (Nat.le_refl _)) hn0 ho.size hf.2.2.1 hra hr (by have := hf.wt; omega))
  have I1 := Lib.hid (fun (W : World) (ho : Only [] w W) (hf : Fine ib) (res : Res) (hr : run ib false [] = some res) => build_any ib A1 n1 c1 W w.heap.size res (hib.only ho (by simp) (Nat.le_refl _)) hn1 ho.size hf.2.2.1 hrb hr (by have := hf.wt; omega))
  have I2 := Lib.hid (fun (W : World) (A : Option Addr) (n c : Nat) (hi : ItsRd W W.heap.size A (ia.app ib)) (hn : n = ia.len + ib.len) (hfa : Fine ia) (hfb : Fine ib) (res : Res) (hr : run (ia.app ib) false [] = some res) => build_any (ia.app ib) A n c W W.heap.size res hi (by rw [app_len]; exact hn) (Nat.le_refl _) (app_ok hfa.2.2.1 hfb.2.2.1) (app_rng hra hrb) hr (by have := hfa.wt; have := hfb.wt; rw [app_wt]; omega))
  have FA := Lib.hid (fun (h1 : Fine ia) (h2 : Fine ib) => fine_app h1 h2)
  have F0 := Lib.hid (fun (h1 : Fine ia) => fine_res h1 [])
  have F1 := Lib.hid (fun (h1 : Fine ib) => fine_res h1 [])
  have HLEN : Hid (Fine ia → Fine ib → ∀ oa ob, run ia false [] = some (.good ([] ++ oa)) → run ib false [] = some (.good ([] ++ ob)) → oa.length + ob.length ≤ 140737488355328) := Lib.hid (fun fa fb oa ob ea eb => by
    have h1 := run_le ia false false [] _ hra fa.2.2.1 ea
    have h2 := run_le ib false false [] _ hrb fb.2.2.1 eb
    have h3 := fa.wt
    have h4 := fb.wt
    simp only [List.nil_append, List.length_nil] at h1 h2
    omega)
  have HA := Lib.hid (And.intro hia (And.intro hn0 (And.intro hib hn1)))
  have HSZ : Hid (n0 ≤ 2147483647 ∧ n1 ≤ 2147483647) := Lib.hid ⟨by omega, by omega⟩
  obtain ⟨sa, hsra⟩ : ∃ s, sRun ia St.nil = s := ⟨_, rfl⟩
  obtain ⟨sb, hsrb⟩ : ∃ s, sRun ib St.nil = s := ⟨_, rfl⟩
  rw [hsra] at B0 F0 FA
  rw [hsrb] at B1 F1 FA
  clear hia hn0 hm0 hsa hra hib hn1 hm1 hsb hrb hsra hsrb
  go_enter Try.func5, Try.ntmps5
  go_wp2_with fail
  refine R0.out.mono ?_
  rintro e w1 ⟨r, rfl, hr, hk1⟩
  have HK1 := Lib.hid hk1
  have HR := Lib.hid hr
  clear hk1 hr R0
  cases r with
  | false =>
    go_wp2_with fail
    go_ret
    exact ⟨rfl, HK1.out.bel⟩
  | true =>
  have HFA := Lib.hid (HR.out rfl)
  have HC := Lib.hid (R1.out w1 HK1.out)
  clear HR R1
  go_wp2_with fail
  refine HC.out.mono ?_
  rintro e w2 ⟨r, rfl, hr, hk2⟩
  have HK2 := Lib.hid (HK1.out.trans hk2)
  have HR := Lib.hid hr
  clear hk2 hr HC HK1
  cases r with
  | false =>
    go_wp2_with fail
    go_ret
    exact ⟨rfl, HK2.out.bel⟩
  | true =>
  have HFB := Lib.hid (HR.out rfl)
  have HC := Lib.hid (B0.out w2 HK2.out HFA.out)
  clear HR B0
  go_wp2_with fail
  refine HC.out.mono ?_
  rintro e w3 ⟨A2, c2, ys, rfl, _, hk3, _, _, _⟩
  have HK3 := Lib.hid (HK2.out.trans hk3)
  have HC := Lib.hid (B1.out w3 HK3.out HFB.out)
  clear hk3 B1 HK2
  go_wp2_with fail
  refine HC.out.mono ?_
  rintro e w4 ⟨A3, c3, zs, rfl, _, hk4, _, _, _⟩
  have HK4 := Lib.hid (HK3.out.trans hk4)
  clear hk4 HC HK3
  cases sa with
  | mk outa dira fla wra =>
  cases sb with
  | mk outb dirb flb wrb =>
  cases wra with
  | true =>
    simp only [Bool.not_true]
    go_wp2_with fail
    go_ret
    exact ⟨rfl, HK4.out.bel⟩
  | false =>
  cases wrb with
  | true =>
    simp only [Bool.or_true, Bool.not_true]
    go_wp2_with fail
    go_ret
    exact ⟨rfl, HK4.out.bel⟩
  | false =>
  simp only [Bool.or_false, Bool.not_false]
  obtain ⟨res, hr, hor⟩ := FA.out HFA.out HFB.out rfl rfl
  obtain ⟨ra, hra, hora⟩ := F0.out HFA.out rfl
  obtain ⟨rb, hrb, horb⟩ := F1.out HFB.out rfl
  have H0 := Lib.hid (fun W ho => I0.out W ho HFA.out ra hra)
  have H1 := Lib.hid (fun W ho => I1.out W ho HFB.out rb hrb)
  have H2 := Lib.hid (fun W A n c hi hn => I2.out W A n c hi hn HFA.out HFB.out res hr)
  have HLE : Hid (fla = false → flb = false → outa.length + outb.length ≤ 140737488355328) := Lib.hid (fun q1 q2 => HLEN.out HFA.out HFB.out outa outb (hora.elim (fun h => by rw [hra, h.2]) (fun h => absurd h.1 (by simp [q1]))) (horb.elim (fun h => by rw [hrb, h.2]) (fun h => absurd h.1 (by simp [q2]))))
  clear I0 I1 I2 FA F0 F1 hr hra hrb HLEN
  cases fla with
  | true =>
    obtain rfl : ra = .err := by
      rcases hora with ⟨h, q⟩ | ⟨h, q⟩
      · cases h
      · exact q
    cases flb with
    | true =>
      obtain rfl : rb = .err := by
        rcases horb with ⟨h, q⟩ | ⟨h, q⟩
        · cases h
        · exact q
      obtain rfl : res = .err := by
        rcases hor with ⟨h1, h2, q⟩ | ⟨h, q⟩
        · first | (cases h1; done) | (cases h2; done)
        · exact q
      clear hor hora horb HLE
      go_wp2_with fail
      refine (T1.out _ HK4.out).mono ?_
      rintro e w5 ⟨r, rfl, _, hk5⟩
      have HK4' := Lib.hid (HK4.out.trans hk5)
      clear hk5 HK4 T1
      cases r with
      | true =>
        go_wp2_with fail
        go_ret
        exact ⟨rfl, HK4'.out.bel⟩
      | false =>
        have HK4 := HK4'
        go_wp2_with fail
        refine (H0.out _ HK4.out).mono ?_
        rintro e w5 ⟨X0, d0, xa, first, rfl, hxa, hk5, _, _, hp⟩
        obtain rfl : first = false := hp
        have HXA := Lib.hid hxa
        have HK5 := Lib.hid (HK4.out.trans hk5)
        clear hxa H0 HK4
        go_wp2_with fail
        refine (H1.out _ HK5.out).mono ?_
        rintro e w6 ⟨X1, d1, xb, second, rfl, hxb, hk6, _, _, hp⟩
        obtain rfl : second = false := hp
        have HXA6 := Lib.hid (HXA.out.only hk6 (by simp) (Nat.le_refl _))
        have HXB := Lib.hid hxb
        have HK6 := Lib.hid (HK5.out.trans hk6)
        clear hxb hk5 hk6 H1 HXA HK5
        have HS := Lib.hid (RowT.lit w6 w6.heap.size w.heap.size (Nat.le_refl _))
        have HX := Lib.hid (ItsRd.cells (HA.out.1.only (l := []) (HK6.out.alloc (.cells #[] 37)) (by simp) (Nat.le_refl _)))
        go_wp2_with (at_builtin; refine wpList_rowT rfl _ _ rfl rfl w6.heap.size w.heap.size _ .nil ia A0 n0 c0 rfl rfl HS.out HX.out HA.out.2.1 ?c1 ?c2 ?c3 ?_)
        case c1 => simp
        case c2 => exact HK6.out.size
        case c3 => have := HA.out.2.1; have := HSZ.out.1; simp only [Its.len]; omega
        intro v' w7 hr7 hk7 _
        have hk7' : Only [] w6 w7 := ((Only.refl _ _).alloc _).then hk7 (by
          intro i hi hlt
          simp [own, Value.ownBlock] at hi
          omega)
        have HR7 := Lib.hid hr7
        have HK7 := Lib.hid hk7'
        have HY := Lib.hid (ItsRd.cells (HA.out.2.2.1.only (l := []) (HK6.out.trans hk7') (by simp) (Nat.le_refl _)))
        clear hr7 hk7 hk7' HX HS
        go_wp2_with (at_builtin; refine wpList_rowT rfl _ _ rfl rfl w6.heap.size w.heap.size v' ia ib A1 n1 c1 rfl rfl HR7.out HY.out HA.out.2.2.2 ?e1 ?e2 ?e3 ?_)
        case e1 => exact HK7.out.size
        case e2 => exact HK6.out.size
        case e3 => have := HA.out.2.1; have := HA.out.2.2.2; have := HSZ.out; omega
        intro v2 w8 hr8 hk8 _
        have hk8' : Only [] w6 w8 := HK7.out.then hk8 (by
          intro i hi hlt
          have := HR7.out.low i hi
          omega)
        obtain ⟨A8, c8, rfl, h81, h82, _⟩ := hr8.form
        have HK8 := Lib.hid hk8'
        have HC := Lib.hid (H2.out w8 A8 _ c8 (hr8.rd (Nat.le_trans HK6.out.size hk8'.size)) (app_len ia ib))
        obtain ⟨nl, hnl⟩ : ∃ nl, (ia.app ib).len = nl := ⟨_, rfl⟩
        rw [hnl] at HC h81 ⊢
        clear hr8 hk8 hk8' HY HR7 HK7 H2 hnl
        go_wp2_with fail
        refine HC.out.mono ?_
        rintro e w9 ⟨X2, d2, xc, ok, rfl, hxc, hk9, _, _, hp⟩
        obtain rfl : ok = false := hp
        have HK9 := Lib.hid (HK6.out.trans (HK8.out.trans hk9))
        clear hxc hk9 HC
        go_wp2_with fail
        go_ret
        exact ⟨rfl, HK9.out.bel⟩
    | false =>
      obtain rfl : rb = .good ([] ++ outb) := by
        rcases horb with ⟨h, q⟩ | ⟨h, q⟩
        · exact q
        · cases h
      obtain rfl : res = .err := by
        rcases hor with ⟨h1, h2, q⟩ | ⟨h, q⟩
        · first | (cases h1; done) | (cases h2; done)
        · exact q
      clear hor hora horb HLE
      go_wp2_with fail
      refine (T1.out _ HK4.out).mono ?_
      rintro e w5 ⟨r, rfl, _, hk5⟩
      have HK4' := Lib.hid (HK4.out.trans hk5)
      clear hk5 HK4 T1
      cases r with
      | true =>
        go_wp2_with fail
        go_ret
        exact ⟨rfl, HK4'.out.bel⟩
      | false =>
        have HK4 := HK4'
        go_wp2_with fail
        refine (H0.out _ HK4.out).mono ?_
        rintro e w5 ⟨X0, d0, xa, first, rfl, hxa, hk5, _, _, hp⟩
        obtain rfl : first = false := hp
        have HXA := Lib.hid hxa
        have HK5 := Lib.hid (HK4.out.trans hk5)
        clear hxa H0 HK4
        go_wp2_with fail
        refine (H1.out _ HK5.out).mono ?_
        rintro e w6 ⟨X1, d1, xb, second, rfl, hxb, hk6, _, _, hp⟩
        obtain ⟨rfl, hx⟩ : second = true ∧ xb = outb := hp
        subst xb
        have HXA6 := Lib.hid (HXA.out.only hk6 (by simp) (Nat.le_refl _))
        have HXB := Lib.hid hxb
        have HK6 := Lib.hid (HK5.out.trans hk6)
        clear hxb hk5 hk6 H1 HXA HK5
        have HS := Lib.hid (RowT.lit w6 w6.heap.size w.heap.size (Nat.le_refl _))
        have HX := Lib.hid (ItsRd.cells (HA.out.1.only (l := []) (HK6.out.alloc (.cells #[] 37)) (by simp) (Nat.le_refl _)))
        go_wp2_with (at_builtin; refine wpList_rowT rfl _ _ rfl rfl w6.heap.size w.heap.size _ .nil ia A0 n0 c0 rfl rfl HS.out HX.out HA.out.2.1 ?c1 ?c2 ?c3 ?_)
        case c1 => simp
        case c2 => exact HK6.out.size
        case c3 => have := HA.out.2.1; have := HSZ.out.1; simp only [Its.len]; omega
        intro v' w7 hr7 hk7 _
        have hk7' : Only [] w6 w7 := ((Only.refl _ _).alloc _).then hk7 (by
          intro i hi hlt
          simp [own, Value.ownBlock] at hi
          omega)
        have HR7 := Lib.hid hr7
        have HK7 := Lib.hid hk7'
        have HY := Lib.hid (ItsRd.cells (HA.out.2.2.1.only (l := []) (HK6.out.trans hk7') (by simp) (Nat.le_refl _)))
        clear hr7 hk7 hk7' HX HS
        go_wp2_with (at_builtin; refine wpList_rowT rfl _ _ rfl rfl w6.heap.size w.heap.size v' ia ib A1 n1 c1 rfl rfl HR7.out HY.out HA.out.2.2.2 ?e1 ?e2 ?e3 ?_)
        case e1 => exact HK7.out.size
        case e2 => exact HK6.out.size
        case e3 => have := HA.out.2.1; have := HA.out.2.2.2; have := HSZ.out; omega
        intro v2 w8 hr8 hk8 _
        have hk8' : Only [] w6 w8 := HK7.out.then hk8 (by
          intro i hi hlt
          have := HR7.out.low i hi
          omega)
        obtain ⟨A8, c8, rfl, h81, h82, _⟩ := hr8.form
        have HK8 := Lib.hid hk8'
        have HC := Lib.hid (H2.out w8 A8 _ c8 (hr8.rd (Nat.le_trans HK6.out.size hk8'.size)) (app_len ia ib))
        obtain ⟨nl, hnl⟩ : ∃ nl, (ia.app ib).len = nl := ⟨_, rfl⟩
        rw [hnl] at HC h81 ⊢
        clear hr8 hk8 hk8' HY HR7 HK7 H2 hnl
        go_wp2_with fail
        refine HC.out.mono ?_
        rintro e w9 ⟨X2, d2, xc, ok, rfl, hxc, hk9, _, _, hp⟩
        obtain rfl : ok = false := hp
        have HK9 := Lib.hid (HK6.out.trans (HK8.out.trans hk9))
        clear hxc hk9 HC
        go_wp2_with fail
        go_ret
        exact ⟨rfl, HK9.out.bel⟩
  | false =>
    obtain rfl : ra = .good ([] ++ outa) := by
      rcases hora with ⟨h, q⟩ | ⟨h, q⟩
      · exact q
      · cases h
    cases flb with
    | true =>
      obtain rfl : rb = .err := by
        rcases horb with ⟨h, q⟩ | ⟨h, q⟩
        · cases h
        · exact q
      obtain rfl : res = .err := by
        rcases hor with ⟨h1, h2, q⟩ | ⟨h, q⟩
        · first | (cases h1; done) | (cases h2; done)
        · exact q
      clear hor hora horb HLE
      go_wp2_with fail
      refine (H0.out _ HK4.out).mono ?_
      rintro e w5 ⟨X0, d0, xa, first, rfl, hxa, hk5, _, _, hp⟩
      obtain ⟨rfl, hx⟩ : first = true ∧ xa = outa := hp
      subst xa
      have HXA := Lib.hid hxa
      have HK5 := Lib.hid (HK4.out.trans hk5)
      clear hxa H0 HK4
      go_wp2_with fail
      refine (H1.out _ HK5.out).mono ?_
      rintro e w6 ⟨X1, d1, xb, second, rfl, hxb, hk6, _, _, hp⟩
      obtain rfl : second = false := hp
      have HXA6 := Lib.hid (HXA.out.only hk6 (by simp) (Nat.le_refl _))
      have HXB := Lib.hid hxb
      have HK6 := Lib.hid (HK5.out.trans hk6)
      clear hxb hk5 hk6 H1 HXA HK5
      have HS := Lib.hid (RowT.lit w6 w6.heap.size w.heap.size (Nat.le_refl _))
      have HX := Lib.hid (ItsRd.cells (HA.out.1.only (l := []) (HK6.out.alloc (.cells #[] 37)) (by simp) (Nat.le_refl _)))
      go_wp2_with (at_builtin; refine wpList_rowT rfl _ _ rfl rfl w6.heap.size w.heap.size _ .nil ia A0 n0 c0 rfl rfl HS.out HX.out HA.out.2.1 ?c1 ?c2 ?c3 ?_)
      case c1 => simp
      case c2 => exact HK6.out.size
      case c3 => have := HA.out.2.1; have := HSZ.out.1; simp only [Its.len]; omega
      intro v' w7 hr7 hk7 _
      have hk7' : Only [] w6 w7 := ((Only.refl _ _).alloc _).then hk7 (by
        intro i hi hlt
        simp [own, Value.ownBlock] at hi
        omega)
      have HR7 := Lib.hid hr7
      have HK7 := Lib.hid hk7'
      have HY := Lib.hid (ItsRd.cells (HA.out.2.2.1.only (l := []) (HK6.out.trans hk7') (by simp) (Nat.le_refl _)))
      clear hr7 hk7 hk7' HX HS
      go_wp2_with (at_builtin; refine wpList_rowT rfl _ _ rfl rfl w6.heap.size w.heap.size v' ia ib A1 n1 c1 rfl rfl HR7.out HY.out HA.out.2.2.2 ?e1 ?e2 ?e3 ?_)
      case e1 => exact HK7.out.size
      case e2 => exact HK6.out.size
      case e3 => have := HA.out.2.1; have := HA.out.2.2.2; have := HSZ.out; omega
      intro v2 w8 hr8 hk8 _
      have hk8' : Only [] w6 w8 := HK7.out.then hk8 (by
        intro i hi hlt
        have := HR7.out.low i hi
        omega)
      obtain ⟨A8, c8, rfl, h81, h82, _⟩ := hr8.form
      have HK8 := Lib.hid hk8'
      have HC := Lib.hid (H2.out w8 A8 _ c8 (hr8.rd (Nat.le_trans HK6.out.size hk8'.size)) (app_len ia ib))
      obtain ⟨nl, hnl⟩ : ∃ nl, (ia.app ib).len = nl := ⟨_, rfl⟩
      rw [hnl] at HC h81 ⊢
      clear hr8 hk8 hk8' HY HR7 HK7 H2 hnl
      go_wp2_with fail
      refine HC.out.mono ?_
      rintro e w9 ⟨X2, d2, xc, ok, rfl, hxc, hk9, _, _, hp⟩
      obtain rfl : ok = false := hp
      have HK9 := Lib.hid (HK6.out.trans (HK8.out.trans hk9))
      clear hxc hk9 HC
      go_wp2_with fail
      go_ret
      exact ⟨rfl, HK9.out.bel⟩
    | false =>
      obtain rfl : rb = .good ([] ++ outb) := by
        rcases horb with ⟨h, q⟩ | ⟨h, q⟩
        · exact q
        · cases h
      obtain rfl : res = .good (outa ++ outb) := by
        rcases hor with ⟨h1, h2, q⟩ | ⟨h, q⟩
        · exact q
        · rcases h with h | h <;> cases h
      have HLN : Hid (outa.length + outb.length ≤ 140737488355328) := Lib.hid (HLE.out rfl rfl)
      clear hor hora horb HLE
      go_wp2_with fail
      refine (H0.out _ HK4.out).mono ?_
      rintro e w5 ⟨X0, d0, xa, first, rfl, hxa, hk5, _, _, hp⟩
      obtain ⟨rfl, hx⟩ : first = true ∧ xa = outa := hp
      subst xa
      have HXA := Lib.hid hxa
      have HK5 := Lib.hid (HK4.out.trans hk5)
      clear hxa H0 HK4
      go_wp2_with fail
      refine (H1.out _ HK5.out).mono ?_
      rintro e w6 ⟨X1, d1, xb, second, rfl, hxb, hk6, _, _, hp⟩
      obtain ⟨rfl, hx⟩ : second = true ∧ xb = outb := hp
      subst xb
      have HXA6 := Lib.hid ((HXA.out.only hk6 (by simp) (Nat.le_refl _)).more hk6.size)
      have HXB := Lib.hid hxb
      have HK6 := Lib.hid (HK5.out.trans hk6)
      clear hxb hk5 hk6 H1 HXA HK5
      have HS := Lib.hid (RowT.lit w6 w6.heap.size w.heap.size (Nat.le_refl _))
      have HX := Lib.hid (ItsRd.cells (HA.out.1.only (l := []) (HK6.out.alloc (.cells #[] 37)) (by simp) (Nat.le_refl _)))
      go_wp2_with (at_builtin; refine wpList_rowT rfl _ _ rfl rfl w6.heap.size w.heap.size _ .nil ia A0 n0 c0 rfl rfl HS.out HX.out HA.out.2.1 ?c1 ?c2 ?c3 ?_)
      case c1 => simp
      case c2 => exact HK6.out.size
      case c3 => have := HA.out.2.1; have := HSZ.out.1; simp only [Its.len]; omega
      intro v' w7 hr7 hk7 _
      have hk7' : Only [] w6 w7 := ((Only.refl _ _).alloc _).then hk7 (by
        intro i hi hlt
        simp [own, Value.ownBlock] at hi
        omega)
      have HR7 := Lib.hid hr7
      have HK7 := Lib.hid hk7'
      have HY := Lib.hid (ItsRd.cells (HA.out.2.2.1.only (l := []) (HK6.out.trans hk7') (by simp) (Nat.le_refl _)))
      clear hr7 hk7 hk7' HX HS
      go_wp2_with (at_builtin; refine wpList_rowT rfl _ _ rfl rfl w6.heap.size w.heap.size v' ia ib A1 n1 c1 rfl rfl HR7.out HY.out HA.out.2.2.2 ?e1 ?e2 ?e3 ?_)
      case e1 => exact HK7.out.size
      case e2 => exact HK6.out.size
      case e3 => have := HA.out.2.1; have := HA.out.2.2.2; have := HSZ.out; omega
      intro v2 w8 hr8 hk8 _
      have hk8' : Only [] w6 w8 := HK7.out.then hk8 (by
        intro i hi hlt
        have := HR7.out.low i hi
        omega)
      obtain ⟨A8, c8, rfl, h81, h82, _⟩ := hr8.form
      have HK8 := Lib.hid hk8'
      have HC := Lib.hid (H2.out w8 A8 _ c8 (hr8.rd (Nat.le_trans HK6.out.size hk8'.size)) (app_len ia ib))
      obtain ⟨nl, hnl⟩ : ∃ nl, (ia.app ib).len = nl := ⟨_, rfl⟩
      rw [hnl] at HC h81 ⊢
      clear hr8 hk8 hk8' HY HR7 HK7 H2 hnl
      go_wp2_with fail
      refine HC.out.mono ?_
      rintro e w9 ⟨X2, d2, xc, ok, rfl, hxc, hk9, _, _, hp⟩
      obtain ⟨rfl, hx⟩ : ok = true ∧ xc = outa ++ outb := hp
      subst xc
      have HK9 := Lib.hid (HK6.out.trans (HK8.out.trans hk9))
      have h68 := HK8.out.trans hk9
      have HBH := Lib.hid (behind_any X0 X1 outa.length outb.length d0 d1 outa outb w9 w6.heap.size w6.heap.size (HXA6.out.only h68 (by simp) (Nat.le_refl _)) (HXB.out.only h68 (by simp) (Nat.le_refl _)) h68.size h68.size rfl rfl HLN.out)
      have HXC := Lib.hid hxc
      have HYB := Lib.hid (HXA6.out.byt.append HXB.out.byt)
      clear hxc hk9 HC h68 HXA6 HXB
      go_wp2_with fail
      refine HBH.out.mono ?_
      rintro e w10 ⟨A10, c10, rfl, _, _, hown, hk10⟩
      have HK10 := Lib.hid (HK9.out.trans hk10)
      have HC := Lib.hid (same_yes X2 A10 (outa.length + outb.length) (outa.length + outb.length) d2 c10 (outa ++ outb) (outa ++ outb) w10 w9.heap.size w10.heap.size (HXC.out.only hk10 (by simp) (Nat.le_refl _)) (Rd.of_own HYB.out hown) (by simp) (by simp) rfl)
      clear hown hk10 HBH
      go_wp2_with fail
      refine HC.out.mono ?_
      rintro e w11 ⟨rfl, rfl⟩
      go_wp2_with fail
      go_ret
      exact ⟨rfl, HK10.out.bel⟩

end Go.Proofs.Ytlpmjahhdbcfiaa
