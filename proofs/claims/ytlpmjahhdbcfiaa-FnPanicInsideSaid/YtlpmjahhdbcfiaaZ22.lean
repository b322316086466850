/- The law on a panic within a continuation: walk. -/
import Derived.Test.YtlpmjahhdbcfiaaZ21
import Derived.Laws.Tables
import Derived.Deep.RegionHeld3
import Derived.Laws.Rows
/-! ### The law on a panic within a continuation: walk. -/
namespace Go.Proofs.Ytlpmjahhdbcfiaa
open Go.RowKit
set_option linter.unusedVariables false

/-- A panic within so many continuations. -/
def nest : Nat → Its
  | 0 => .cons 23 0 0 [] [] .nil .nil
  | j + 1 => .cons (7 + ((j % 5 : Nat) : Int)) 0 48 [] [] (nest j) .nil
theorem nest_len (j : Nat) : (nest j).len = 1 := by cases j <;> rfl
theorem nest_wt (j : Nat) : wt (nest j) = 24 + 24 * j := by
  induction j with
  | zero => rfl
  | succ j ih => simp only [nest, wt, ih, List.length_nil]; omega
theorem nest_rng (j : Nat) : Rng (nest j) := by
  induction j with
  | zero => exact ⟨⟨by decide, by decide⟩, trivial, trivial⟩
  | succ j ih => exact ⟨⟨by decide, by decide⟩, ih, trivial⟩
theorem nest_ok (j : Nat) : ∀ ins, (j = 0 → ins = true) → Ok (nest j) ins := by
  induction j with
  | zero => intro ins h; exact ⟨by decide, by decide, by decide, by decide, fun _ => h rfl, (fun v h => by cases h), trivial, trivial⟩
  | succ j ih =>
    intro ins _
    have hk : ((j % 5 : Nat) : Int) < 5 := by omega
    refine ⟨by omega, by omega, by decide, by decide, fun h => by omega, (fun v h => by cases h), ?_, trivial⟩
    exact ih _ (fun _ => by rw [show decide (7 ≤ 7 + ((j % 5 : Nat) : Int) ∧ 7 + ((j % 5 : Nat) : Int) ≤ 11) = true from decide_eq_true ⟨by omega, by omega⟩]; simp)
theorem nest_one (ins : Bool) (k : Int) (h7 : 7 ≤ k) (h11 : k ≤ 11) (ri : List Int → Option Res) (cs : List Int) : one ins k 0 48 [] [] (some .pan) ri cs = some (if ins then .pan else .err) := by
  have hk : k = 7 ∨ k = 8 ∨ k = 9 ∨ k = 10 ∨ k = 11 := by omega
  rcases hk with rfl | rfl | rfl | rfl | rfl <;> cases ins <;> rfl
theorem nest_run (j : Nat) : (∀ cs, run (nest j) true cs = some .pan) ∧ (0 < j → ∀ cs, run (nest j) false cs = some .err) := by
  induction j with
  | zero => exact ⟨fun _ => rfl, fun h => by omega⟩
  | succ j ih =>
    have hk : ((j % 5 : Nat) : Int) < 5 := by omega
    refine ⟨fun cs => ?_, fun _ cs => ?_⟩
    · unfold nest run
      rw [ih.1 [], nest_one _ _ (by omega) (by omega)]
      rfl
    · unfold nest run
      rw [ih.1 [], nest_one _ _ (by omega) (by omega)]
      rfl
theorem panic_run {ia : Its} (j : Nat) (hj : 0 < j) (hf : Fine ia) (hn : NoBack ia) :
    run (ia.app (nest j)) false [] = some .err ∧ ∃ res, run ia false [] = some res ∧ (((sRun ia St.nil).fl = false ∧ res = .good (sRun ia St.nil).out) ∨ ((sRun ia St.nil).fl = true ∧ res = .err)) := by
  obtain ⟨res, e, h⟩ := fine_res hf [] (swr_run ia St.nil hn rfl)
  refine ⟨?_, res, e, h⟩
  rw [app_run, e]
  rcases h with ⟨_, rfl⟩ | ⟨_, rfl⟩
  · exact (nest_run j).2 hj _
  · show some (runE (nest j)) = _
    rw [runE_err (nest_ok j false (fun h => by omega))]

theorem Only.setRow {l : List Nat} {a w : World} (h : Only l a w) {g : Nat} (hg : g ∈ l ∨ a.heap.size ≤ g) (cs : Array Value) : Only l a (w.setRow g cs) := by
  refine ⟨h.os, h.tape, h.output, by simpa using h.size, fun i hi hn => (setRow_other w g i cs ?_).trans (h.block i hi hn)⟩
  rintro rfl
  rcases hg with hg | hg
  · exact hn hg
  · omega
theorem item_size : (Try.prog.info? 37).map (·.size) = some 6 := by kernel_rfl
/-- Appending steps that are read to a row of one's own, at an operation of a region that draws its order. -/
theorem step_rowT {ops : Array Oper} {o : Oper} {a : Act} {w : World} {K : Act → World → Prop} {Q : Exit → Act → World → Prop} {E : Prop} (hgd : o.guard = none) (s x : Operand)
    (ho : o.op = .call { callee := .builtin .append, args := #[s, x], argTypes := #[22, 22] }) (hty : o.type = 22) (base B : Nat) (v : Value) (i1 i2 : Its) (A : Option Addr) (n c : Nat)
    (hs : a.eval s = v) (hx : a.eval x = .slice A n c) (hr : RowT w base B v i1) (hrd : 0 < i2.len → ∃ b off cs, A = some ⟨b, off, none⟩ ∧ ItsCells w B i2 cs ∧ ∀ j u, cs[j]? = some u → w.cell? ⟨b, off + j, none⟩ = some u) (hn : n = i2.len) (hb : base ≤ w.heap.size) (hBb : B ≤ base) (hl : i1.len + i2.len ≤ 1000000000000)
    (h : ∀ v' w1, RowT w1 base B v' (i1.app i2) → Only (own v) w w1 → K (a.put o.dst v') w1) :
    if Region.wanted o (yielded ops a.tmps) = true then Oper.wp Try.prog o a w K Q else E := by
  have hw : Region.wanted o (yielded ops a.tmps) = true := by simp [Region.wanted, hgd]
  rw [if_pos hw]
  subst hn
  obtain ⟨i0, hi, hz0, hz1, hz2⟩ := info_parts item_info
  have hnil : ∀ its : Its, its.len = 0 → its = .nil := fun its h => by cases its with | nil => rfl | cons => simp [Its.len] at h
  have happ : i1.app .nil = i1 := by
    clear hr hl h hs
    induction i1 with
    | nil => rfl
    | cons k n t d o kids rest _ ih => simp only [Its.app, ih]
  have hlow := hr.low
  rcases A with _ | ad
  · have h0 : i2 = .nil := by
      refine hnil _ ?_
      rcases Nat.eq_zero_or_pos i2.len with h | h
      · exact h
      · obtain ⟨_, _, _, e', _⟩ := hrd h
        cases e'
    subst h0
    have hq := h v w (by rw [happ]; exact hr) (Only.refl _ _)
    have hr0 := appendT_none w base B v i1 c hr
    unfold Oper.wp execOp
    simp only [ho, hty, resolve, invoke, builtin, Sem.run_bind, Sem.run_pure, Result.andThen_ok, List.map_toArray, List.map_cons, List.map_nil, hs, hx, hr0, Its.len]
    exact hq
  · obtain ⟨c1, g1, hown⟩ := hr
    obtain ⟨cs, g2, hcs⟩ : ∃ cs, ItsCells w B i2 cs ∧ ∀ j u, cs[j]? = some u → w.cell? (ad.add j) = some u := by
      rcases Nat.eq_zero_or_pos i2.len with h0 | h0
      · rw [hnil _ h0]
        exact ⟨[], rfl, fun j u h => by simp at h⟩
      · obtain ⟨b, off, cs, e, h1, h2⟩ := hrd h0
        replace e := Option.some.inj e
        subst e
        refine ⟨cs, h1, fun j u hj => ?_⟩
        have hp : (⟨b, off, none⟩ : Addr).add j = ⟨b, off + j, none⟩ := by unfold Addr.add; split <;> simp_all
        rw [hp]
        exact h2 j u hj
    obtain ⟨v', w', hr', h2, h3, _, _⟩ := run_append_own_at (P := Try.prog) w base 22 o.type 37 i0 _ 6 96 Try.underlying22 hi hz0 hz1 hz2 rfl (by decide) v i1.len c1 hown ad i2.len c cs g2.len hcs g2.one (by unfold maxLen; omega) (by omega) hb
    have hon : Only (own v) w w' := Only.grown h3 (fun k hk _ => by simp [own, hk])
    have hkeep : ∀ p : Addr, p.block < B → w'.cell? p = w.cell? p := fun _ hp => (hon.below (B := B) (fun k hk => Nat.le_trans hBb (hlow k hk)) (Nat.le_trans hBb hb)).cell hp
    unfold Oper.wp execOp
    simp only [ho, resolve, invoke, builtin, Sem.run_bind, Sem.run_pure, Result.andThen_ok, List.map_toArray, List.map_cons, List.map_nil, hs, hx, hr']
    exact h v' w' ⟨c1 ++ cs, (g2.keep hkeep).append (g1.keep hkeep), by rw [app_len]; exact h2⟩ hon
/-- The kind and the tag of a nest. -/
def nestK : Nat → Int
  | 0 => 23
  | j + 1 => 7 + ((j % 5 : Nat) : Int)
def nestT : Nat → Int
  | 0 => 0
  | _ + 1 => 48
/-- The cells of a nest's outermost step. -/
def nestC (j : Nat) (Ak : Option Addr) (nk ck : Nat) : Array Value := #[.int .i64 (nestK j), .int .i64 0, .int .i64 (nestT j), .slice none 0 0, .slice none 0 0, .slice Ak nk ck]
/-- What lies within a nest is held, away from a block. -/
def NestAt (w : World) (xb : Nat) : Nat → Option Addr → Nat → Nat → Prop
  | 0, Ak, nk, ck => Ak = none ∧ nk = 0 ∧ ck = 0
  | j + 1, Ak, nk, ck => nk = 1 ∧ ck = 1 ∧ ∃ b Ak' nk' ck', Ak = some ⟨b, 0, none⟩ ∧ b ≠ xb ∧ w.heap[b]? = some (.cells (nestC j Ak' nk' ck') 37 (0, 0)) ∧ NestAt w xb j Ak' nk' ck'
theorem NestAt.only {w w' : World} {xb : Nat} (ho : Only [xb] w w') : ∀ {j : Nat} {Ak : Option Addr} {nk ck : Nat}, NestAt w xb j Ak nk ck → NestAt w' xb j Ak nk ck := by
  intro j
  induction j with
  | zero => intro Ak nk ck h; exact h
  | succ j ih =>
    rintro Ak nk ck ⟨h1, h2, b, Ak', nk', ck', h3, h4, h5, h6⟩
    exact ⟨h1, h2, b, Ak', nk', ck', h3, h4, (ho.block b (lt_of_block h5) (by simpa using h4)).trans h5, ih h6⟩
theorem NestAt.cells {w : World} {xb : Nat} : ∀ {j : Nat} {Ak : Option Addr} {nk ck : Nat}, NestAt w xb j Ak nk ck → ItsCells w w.heap.size (nest j) (nestC j Ak nk ck).toList := by
  intro j
  induction j with
  | zero =>
    rintro Ak nk ck ⟨rfl, rfl, rfl⟩
    exact ⟨none, 0, none, 0, none, 0, [], rfl, ⟨by decide, by decide⟩, ⟨by decide, by decide⟩, ⟨by decide, by decide⟩, Rd.nil _ _ _, Nat.le_refl _, Nat.zero_le _, RdI.nil _ _ _, Nat.le_refl _, Nat.zero_le _, Nat.le_refl _, Nat.zero_le _, fun h => absurd h (by simp [Its.len]), rfl⟩
  | succ j ih =>
    rintro Ak nk ck ⟨rfl, rfl, b, Ak', nk', ck', rfl, _, h5, h6⟩
    have hl := nest_len j
    have hrd : ItsRd w w.heap.size (some ⟨b, 0, none⟩) (nest j) := fun _ => ⟨b, 0, rfl, lt_of_block h5, (ih h6).at_ fun q u hq => by
      rw [Nat.zero_add, cell_of_row w b q _ _ _ h5, ← Array.getElem?_toList]
      exact hq⟩
    refine ⟨none, 0, none, 0, some ⟨b, 0, none⟩, 1, [], ?_, ⟨by omega, by omega⟩, ⟨by decide, by decide⟩, ⟨by decide, by decide⟩, Rd.nil _ _ _, Nat.le_refl _, Nat.zero_le _, RdI.nil _ _ _, Nat.le_refl _, Nat.zero_le _, by omega, by decide, hrd, rfl⟩
    show _ = itemCells (7 + ((j % 5 : Nat) : Int)) 0 48 [] [] none 0 none 0 (some ⟨b, 0, none⟩) (nest j).len 1 ++ []
    rw [hl]
    rfl
set_option maxRecDepth 100000 in
set_option maxHeartbeats 4000000 in
theorem law_FnPanicInside (ia : Its) (A0 : Option Addr) (n0 c0 : Nat) (dp : Int) (w : World) (hia : ItsRd w w.heap.size A0 ia) (hn0 : n0 = ia.len) (hm0 : n0 ≤ 140737488355328) (hsa : Sz ia) (hra : Rng ia) :
    Calls Try.prog 6 #[.slice A0 n0 c0, .int .i64 dp] w fun e w' => e = .returned (.bool true) ∧ Below w.heap.size w w' := by
  by_cases hz0 : 2147483647 < n0
  · clear hia hn0 hsa
    go_enter Try.func6, Try.ntmps6
    go_wp2_with fail
    go_ret
    exact ⟨rfl, Below.refl _ _⟩
  have R0 := Lib.hid (specRight_any ia A0 n0 c0 w w.heap.size hia hn0 hm0 (Nat.le_refl _) hsa)
  have T0 := Lib.hid (fun (W : World) (ho : Only [] w W) => tb_all ia A0 n0 c0 W w.heap.size (hia.only ho (by simp) (Nat.le_refl _)) hn0 hm0 ho.size hsa)
  have B0 := Lib.hid (fun (W : World) (ho : Only [] w W) (hf : Fine ia) => sbuild_any ia false A0 n0 c0 W w.heap.size (hia.only ho (by simp) (Nat.le_refl _)) hn0 ho.size hf.2.2.1 hra (by have := hf.wt; omega))
  have I0 := Lib.hid (fun (W : World) (ho : Only [] w W) (hf : Fine ia) (res : Res) (hr : run ia false [] = some res) => build_any ia A0 n0 c0 W w.heap.size res (hia.only ho (by simp) (Nat.le_refl _)) hn0 ho.size hf.2.2.1 hra hr (by have := hf.wt; omega))
  have H2 := Lib.hid (fun (W : World) (A : Option Addr) (n c j : Nat) (hi : ItsRd W W.heap.size A (ia.app (nest j))) (hn : n = (ia.app (nest j)).len) (hfa : Fine ia) (h0 : 0 < j) (hl : j ≤ 10) (res : Res) (hr : run (ia.app (nest j)) false [] = some res) => build_any (ia.app (nest j)) A n c W W.heap.size res hi hn (Nat.le_refl _) (app_ok hfa.2.2.1 (nest_ok j false (fun h => by omega))) (app_rng hra (nest_rng j)) hr (by have := hfa.wt; rw [app_wt, nest_wt]; omega))
  have FA := Lib.hid (fun (h1 : Fine ia) (h2 : NoBack ia) (j : Nat) (hj : 0 < j) => panic_run j hj h1 h2)
  have FW := Lib.hid (fun (h2 : NoBack ia) => swr_run ia St.nil h2 rfl)
  have HA := Lib.hid (And.intro hia hn0)
  have HSZ : Hid (n0 ≤ 2147483647) := Lib.hid (by omega)
  obtain ⟨sa, hsra⟩ : ∃ s, sRun ia St.nil = s := ⟨_, rfl⟩
  rw [hsra] at B0 FA FW
  clear hia hn0 hm0 hsa hra hsra
  go_enter Try.func6, Try.ntmps6
  go_wp2_with fail
  refine R0.out.mono ?_
  rintro e w1 ⟨r, rfl, hr, hk1⟩
  have HK1 := Lib.hid hk1
  have HR := Lib.hid hr
  clear hk1 hr R0
  cases r with
  | false =>
    go_wp2_with fail
    go_ret
    exact ⟨rfl, HK1.out.bel⟩
  | true =>
  have HFA := Lib.hid (HR.out rfl)
  have HC := Lib.hid (T0.out w1 HK1.out)
  clear HR T0
  go_wp2_with fail
  refine HC.out.mono ?_
  rintro e w2 ⟨r, rfl, hr, hk2⟩
  have HK2 := Lib.hid (HK1.out.trans hk2)
  have HR := Lib.hid hr
  clear hk2 hr HC HK1
  cases r with
  | true =>
    go_wp2_with fail
    go_ret
    exact ⟨rfl, HK2.out.bel⟩
  | false =>
  have HNB0 := Lib.hid (HR.out rfl)
  clear HR
  by_cases hd1 : dp < 1
  · go_wp2_with fail
    go_ret
    exact ⟨rfl, HK2.out.bel⟩
  by_cases hd2 : 10 < dp
  · go_wp2_with fail
    go_ret
    exact ⟨rfl, HK2.out.bel⟩
  obtain ⟨dn, rfl⟩ := Int.eq_ofNat_of_zero_le (show 0 ≤ dp by omega)
  have hdn1 : 0 < dn := by omega
  have hdn2 : dn ≤ 10 := by omega
  have hnew := heap_alloc_new w2 (.cells (nestC 0 none 0 0) 37)
  have H1 : Hid (∃ (j : Nat) (Ak : Option Addr) (nk ck : Nat), (Value.int .i64 0) = .int .i64 (j : Int) ∧ j ≤ dn ∧ (w2.alloc (.cells (nestC 0 none 0 0) 37)).heap[w2.heap.size]? = some (.cells (nestC j Ak nk ck) 37 (0, 0)) ∧ NestAt (w2.alloc (.cells (nestC 0 none 0 0) 37)) w2.heap.size j Ak nk ck ∧ Only [] w2 (w2.alloc (.cells (nestC 0 none 0 0) 37))) :=
    Lib.hid ⟨0, none, 0, 0, rfl, Nat.zero_le _, hnew, ⟨rfl, rfl, rfl⟩, (Only.refl _ _).alloc _⟩
  clear hnew
  go_wp2_with fail
  go_loopw [6] (fun i W => ∃ (j : Nat) (Ak : Option Addr) (nk ck : Nat), i = .int .i64 (j : Int) ∧ j ≤ dn ∧ W.heap[w2.heap.size]? = some (.cells (nestC j Ak nk ck) 37 (0, 0)) ∧ NestAt W w2.heap.size j Ak nk ck ∧ Only [] w2 W) (fun i _ => dn - (intOf i).toNat)
  case atStart => exact H1.out
  case round =>
    obtain ⟨j, Ak, nk, ck, rfl, hj, hb, hn, ho⟩ := hrel
    clear H1
    by_cases hlt : j < dn
    · have hc0 : wr.cell? ⟨w2.heap.size, 0, none⟩ = some (.int .i64 (nestK j)) := cell_of_row wr w2.heap.size 0 _ _ _ hb
      have hc1 : wr.cell? ⟨w2.heap.size, 1, none⟩ = some (.int .i64 0) := cell_of_row wr w2.heap.size 1 _ _ _ hb
      have hc2 : wr.cell? ⟨w2.heap.size, 2, none⟩ = some (.int .i64 (nestT j)) := cell_of_row wr w2.heap.size 2 _ _ _ hb
      have hc3 : wr.cell? ⟨w2.heap.size, 3, none⟩ = some (.slice none 0 0) := cell_of_row wr w2.heap.size 3 _ _ _ hb
      have hc4 : wr.cell? ⟨w2.heap.size, 4, none⟩ = some (.slice none 0 0) := cell_of_row wr w2.heap.size 4 _ _ _ hb
      have hc5 : wr.cell? ⟨w2.heap.size, 5, none⟩ = some (.slice Ak nk ck) := cell_of_row wr w2.heap.size 5 _ _ _ hb
      have hf := fun i => frozen_of_row wr w2.heap.size i _ _ hb
      have HB := Lib.hid hb
      have HN := Lib.hid hn
      have HO := Lib.hid ho
      have hltI : (j : Int) < (dn : Int) := by omega
      have h5 : Hid ((j : Int) % 5 = ((j % 5 : Nat) : Int)) := Lib.hid (by omega)
      have hba : (wr.alloc (.cells #[.int .i64 (nestK j), .int .i64 0, .int .i64 (nestT j), .slice none 0 0, .slice none 0 0, .slice Ak nk ck] 37)).heap[w2.heap.size]? = some (.cells (nestC j Ak nk ck) 37 (0, 0)) := (Below.heap_alloc wr _ _ (lt_of_block HB.out)).trans HB.out
      have HJ : Hid (∀ κ, κ = nestK (j + 1) → j + 1 ≤ dn ∧ (((((((wr.alloc (.cells #[.int .i64 (nestK j), .int .i64 0, .int .i64 (nestT j), .slice none 0 0, .slice none 0 0, .slice Ak nk ck] 37)).setCell ⟨w2.heap.size, 0, none⟩ (.int .i64 κ)).setCell ⟨w2.heap.size, 1, none⟩ (.int .i64 0)).setCell ⟨w2.heap.size, 2, none⟩ (.int .i64 48)).setCell ⟨w2.heap.size, 3, none⟩ (.slice none 0 0)).setCell ⟨w2.heap.size, 4, none⟩ (.slice none 0 0)).setCell ⟨w2.heap.size, 5, none⟩ (.slice (some ⟨wr.heap.size, 0, none⟩) 1 1)).heap[w2.heap.size]? = some (.cells (nestC (j + 1) (some ⟨wr.heap.size, 0, none⟩) 1 1) 37 (0, 0)) ∧ NestAt (((((((wr.alloc (.cells #[.int .i64 (nestK j), .int .i64 0, .int .i64 (nestT j), .slice none 0 0, .slice none 0 0, .slice Ak nk ck] 37)).setCell ⟨w2.heap.size, 0, none⟩ (.int .i64 κ)).setCell ⟨w2.heap.size, 1, none⟩ (.int .i64 0)).setCell ⟨w2.heap.size, 2, none⟩ (.int .i64 48)).setCell ⟨w2.heap.size, 3, none⟩ (.slice none 0 0)).setCell ⟨w2.heap.size, 4, none⟩ (.slice none 0 0)).setCell ⟨w2.heap.size, 5, none⟩ (.slice (some ⟨wr.heap.size, 0, none⟩) 1 1)) w2.heap.size (j + 1) (some ⟨wr.heap.size, 0, none⟩) 1 1 ∧ Only [] w2 (((((((wr.alloc (.cells #[.int .i64 (nestK j), .int .i64 0, .int .i64 (nestT j), .slice none 0 0, .slice none 0 0, .slice Ak nk ck] 37)).setCell ⟨w2.heap.size, 0, none⟩ (.int .i64 κ)).setCell ⟨w2.heap.size, 1, none⟩ (.int .i64 0)).setCell ⟨w2.heap.size, 2, none⟩ (.int .i64 48)).setCell ⟨w2.heap.size, 3, none⟩ (.slice none 0 0)).setCell ⟨w2.heap.size, 4, none⟩ (.slice none 0 0)).setCell ⟨w2.heap.size, 5, none⟩ (.slice (some ⟨wr.heap.size, 0, none⟩) 1 1))) := Lib.hid (fun κ hκ => by
        subst hκ
        have hbl : w2.heap.size < wr.heap.size := lt_of_block HB.out
        have hne : wr.heap.size ≠ w2.heap.size := by omega
        obtain ⟨W, hW, hWo⟩ : ∃ W, W = (((((((wr.alloc (.cells #[.int .i64 (nestK j), .int .i64 0, .int .i64 (nestT j), .slice none 0 0, .slice none 0 0, .slice Ak nk ck] 37)).setCell ⟨w2.heap.size, 0, none⟩ (.int .i64 (nestK (j + 1)))).setCell ⟨w2.heap.size, 1, none⟩ (.int .i64 0)).setCell ⟨w2.heap.size, 2, none⟩ (.int .i64 48)).setCell ⟨w2.heap.size, 3, none⟩ (.slice none 0 0)).setCell ⟨w2.heap.size, 4, none⟩ (.slice none 0 0)).setCell ⟨w2.heap.size, 5, none⟩ (.slice (some ⟨wr.heap.size, 0, none⟩) 1 1)) ∧ Only [w2.heap.size] (wr.alloc (.cells #[.int .i64 (nestK j), .int .i64 0, .int .i64 (nestT j), .slice none 0 0, .slice none 0 0, .slice Ak nk ck] 37)) W := ⟨_, rfl, (Only.setCell (Only.setCell (Only.setCell (Only.setCell (Only.setCell (Only.setCell (Only.refl _ _) (.inl (by simp)) _) (.inl (by simp)) _) (.inl (by simp)) _) (.inl (by simp)) _) (.inl (by simp)) _) (.inl (by simp)) _)⟩
        have hh : W.heap[w2.heap.size]? = some (.cells (nestC (j + 1) (some ⟨wr.heap.size, 0, none⟩) 1 1) 37 (0, 0)) := by
          rw [hW]
          exact (heap_setCell_same _ w2.heap.size 5 _ _ _ (heap_setCell_same _ w2.heap.size 4 _ _ _ (heap_setCell_same _ w2.heap.size 3 _ _ _ (heap_setCell_same _ w2.heap.size 2 _ _ _ (heap_setCell_same _ w2.heap.size 1 _ _ _ (heap_setCell_same _ w2.heap.size 0 _ _ _ hba))))))
        rw [← hW]
        refine ⟨hlt, hh, ⟨rfl, rfl, wr.heap.size, Ak, nk, ck, rfl, hne, ?_, ?_⟩, ?_⟩
        · exact (hWo.block _ (by simp) (by simpa using hne)).trans (heap_alloc_new wr _)
        · exact (HN.out.only ((Only.refl _ _).alloc _)).only hWo
        · exact (HO.out.alloc _).then hWo (by intro i hi hlt'; simp only [List.mem_singleton] at hi; omega))
      have s0 : (wr.alloc (.cells #[.int .i64 (nestK j), .int .i64 0, .int .i64 (nestT j), .slice none 0 0, .slice none 0 0, .slice Ak nk ck] 37)).cell? ⟨w2.heap.size, 0, none⟩ = some (.int .i64 (nestK j)) := cell_of_row _ w2.heap.size 0 _ _ _ hba
      have f0 : (wr.alloc (.cells #[.int .i64 (nestK j), .int .i64 0, .int .i64 (nestT j), .slice none 0 0, .slice none 0 0, .slice Ak nk ck] 37)).frozen? ⟨w2.heap.size, 0, none⟩ = false := frozen_of_row _ w2.heap.size 0 _ _ hba
      have s1 : (wr.alloc (.cells #[.int .i64 (nestK j), .int .i64 0, .int .i64 (nestT j), .slice none 0 0, .slice none 0 0, .slice Ak nk ck] 37)).cell? ⟨w2.heap.size, 1, none⟩ = some (.int .i64 0) := cell_of_row _ w2.heap.size 1 _ _ _ hba
      have f1 : (wr.alloc (.cells #[.int .i64 (nestK j), .int .i64 0, .int .i64 (nestT j), .slice none 0 0, .slice none 0 0, .slice Ak nk ck] 37)).frozen? ⟨w2.heap.size, 1, none⟩ = false := frozen_of_row _ w2.heap.size 1 _ _ hba
      have s2 : (wr.alloc (.cells #[.int .i64 (nestK j), .int .i64 0, .int .i64 (nestT j), .slice none 0 0, .slice none 0 0, .slice Ak nk ck] 37)).cell? ⟨w2.heap.size, 2, none⟩ = some (.int .i64 (nestT j)) := cell_of_row _ w2.heap.size 2 _ _ _ hba
      have f2 : (wr.alloc (.cells #[.int .i64 (nestK j), .int .i64 0, .int .i64 (nestT j), .slice none 0 0, .slice none 0 0, .slice Ak nk ck] 37)).frozen? ⟨w2.heap.size, 2, none⟩ = false := frozen_of_row _ w2.heap.size 2 _ _ hba
      have s3 : (wr.alloc (.cells #[.int .i64 (nestK j), .int .i64 0, .int .i64 (nestT j), .slice none 0 0, .slice none 0 0, .slice Ak nk ck] 37)).cell? ⟨w2.heap.size, 3, none⟩ = some (.slice none 0 0) := cell_of_row _ w2.heap.size 3 _ _ _ hba
      have f3 : (wr.alloc (.cells #[.int .i64 (nestK j), .int .i64 0, .int .i64 (nestT j), .slice none 0 0, .slice none 0 0, .slice Ak nk ck] 37)).frozen? ⟨w2.heap.size, 3, none⟩ = false := frozen_of_row _ w2.heap.size 3 _ _ hba
      have s4 : (wr.alloc (.cells #[.int .i64 (nestK j), .int .i64 0, .int .i64 (nestT j), .slice none 0 0, .slice none 0 0, .slice Ak nk ck] 37)).cell? ⟨w2.heap.size, 4, none⟩ = some (.slice none 0 0) := cell_of_row _ w2.heap.size 4 _ _ _ hba
      have f4 : (wr.alloc (.cells #[.int .i64 (nestK j), .int .i64 0, .int .i64 (nestT j), .slice none 0 0, .slice none 0 0, .slice Ak nk ck] 37)).frozen? ⟨w2.heap.size, 4, none⟩ = false := frozen_of_row _ w2.heap.size 4 _ _ hba
      have s5 : (wr.alloc (.cells #[.int .i64 (nestK j), .int .i64 0, .int .i64 (nestT j), .slice none 0 0, .slice none 0 0, .slice Ak nk ck] 37)).cell? ⟨w2.heap.size, 5, none⟩ = some (.slice Ak nk ck) := cell_of_row _ w2.heap.size 5 _ _ _ hba
      have f5 : (wr.alloc (.cells #[.int .i64 (nestK j), .int .i64 0, .int .i64 (nestT j), .slice none 0 0, .slice none 0 0, .slice Ak nk ck] 37)).frozen? ⟨w2.heap.size, 5, none⟩ = false := frozen_of_row _ w2.heap.size 5 _ _ hba
      clear hba
      have HDN := Lib.hid (And.intro hlt hdn2)
      clear hf hj hb hn ho hd1 hd2 hdn1 hdn2 hz0
      go_wp2_with fail
      clear s0 s1 s2 s3 s4 s5 f0 f1 f2 f3 f4 f5 HB HN HO hc0 hc1 hc2 hc3 hc4 hc5 hltI
      have hj64 : wrap64 ((j : Int) + 1) = (j : Int) + 1 := by have := HDN.out; unfold wrap64; omega
      go_wp2_with fail
      go_roundw
      case rel => exact ⟨j + 1, _, 1, 1, by first | (rw [hj64]; rfl) | simp, HJ.out _ (by rw [h5.out]; rfl)⟩
      case measure => exact meas _ j (by have := HDN.out; omega)
    · obtain rfl : j = dn := by omega
      have HB := Lib.hid hb
      have HN := Lib.hid hn
      have HO := Lib.hid (HK2.out.trans ho)
      have hc0 : wr.cell? ⟨w2.heap.size, 0, none⟩ = some (.int .i64 (nestK j)) := cell_of_row wr w2.heap.size 0 _ _ _ hb
      have hc1 : wr.cell? ⟨w2.heap.size, 1, none⟩ = some (.int .i64 0) := cell_of_row wr w2.heap.size 1 _ _ _ hb
      have hc2 : wr.cell? ⟨w2.heap.size, 2, none⟩ = some (.int .i64 (nestT j)) := cell_of_row wr w2.heap.size 2 _ _ _ hb
      have hc3 : wr.cell? ⟨w2.heap.size, 3, none⟩ = some (.slice none 0 0) := cell_of_row wr w2.heap.size 3 _ _ _ hb
      have hc4 : wr.cell? ⟨w2.heap.size, 4, none⟩ = some (.slice none 0 0) := cell_of_row wr w2.heap.size 4 _ _ _ hb
      have hc5 : wr.cell? ⟨w2.heap.size, 5, none⟩ = some (.slice Ak nk ck) := cell_of_row wr w2.heap.size 5 _ _ _ hb
      have HDN := Lib.hid (And.intro hdn1 hdn2)
      clear hb hn ho hd1 hd2 hdn1 hdn2 hz0 hj hlt
      have HXL : Hid (w2.heap.size < wr.heap.size) := Lib.hid (lt_of_block HB.out)
      have HL1 : Hid (RowT (wr.alloc (.cells #[] 37)).drew wr.heap.size wr.heap.size (.slice (some ⟨wr.heap.size, 0, none⟩) 0 0) .nil) := Lib.hid (RowT.lit wr wr.heap.size wr.heap.size (Nat.le_refl _))
      have HL2 : Hid (RowT ((wr.alloc (.cells #[] 37)).alloc (.cells #[.int .i64 (nestK j), .int .i64 0, .int .i64 (nestT j), .slice none 0 0, .slice none 0 0, .slice Ak nk ck] 37)).drew wr.heap.size wr.heap.size (.slice (some ⟨wr.heap.size, 0, none⟩) 0 0) .nil) := Lib.hid ((RowT.lit wr wr.heap.size wr.heap.size (Nat.le_refl _)).only (l := []) (((Only.refl _ _).alloc _).drew) (by simp) (by simp))
      have hsx : (wr.alloc (.cells #[.int .i64 (nestK j), .int .i64 0, .int .i64 (nestT j), .slice none 0 0, .slice none 0 0, .slice Ak nk ck] 37)).heap.size = wr.heap.size + 1 := by simp
      have HL3 : Hid (RowT ((wr.alloc (.cells #[.int .i64 (nestK j), .int .i64 0, .int .i64 (nestT j), .slice none 0 0, .slice none 0 0, .slice Ak nk ck] 37)).alloc (.cells #[] 37)).drew wr.heap.size wr.heap.size (.slice (some ⟨wr.heap.size + 1, 0, none⟩) 0 0) .nil) := Lib.hid (by have h := RowT.lit (wr.alloc (.cells #[.int .i64 (nestK j), .int .i64 0, .int .i64 (nestT j), .slice none 0 0, .slice none 0 0, .slice Ak nk ck] 37)) wr.heap.size wr.heap.size (by simp); rw [hsx] at h; exact h)
      have HO3 : Hid (Only [] w ((wr.alloc (.cells #[.int .i64 (nestK j), .int .i64 0, .int .i64 (nestT j), .slice none 0 0, .slice none 0 0, .slice Ak nk ck] 37)).alloc (.cells #[] 37)).drew) := Lib.hid (((HO.out.alloc _).alloc _).drew)
      have HI3 := Lib.hid (((HA.out.1.only (l := []) HO3.out (by simp) (Nat.le_refl _)).mono HO.out.size).cells)
      have HON3 : Hid (∀ wa, Only (own (.slice (some ⟨wr.heap.size + 1, 0, none⟩) 0 0)) ((wr.alloc (.cells #[.int .i64 (nestK j), .int .i64 0, .int .i64 (nestT j), .slice none 0 0, .slice none 0 0, .slice Ak nk ck] 37)).alloc (.cells #[] 37)).drew wa → Only [] wr wa) := Lib.hid (fun wa hk => ((((Only.refl _ _).alloc _).alloc _).drew).then hk (by intro i hi hlt; simp [own, Value.ownBlock] at hi; omega))
      clear hsx
      have HO1 : Hid (Only [] w (wr.alloc (.cells #[] 37)).drew) := Lib.hid ((HO.out.alloc _).drew)
      have HO2 : Hid (Only [] w ((wr.alloc (.cells #[] 37)).alloc (.cells #[.int .i64 (nestK j), .int .i64 0, .int .i64 (nestT j), .slice none 0 0, .slice none 0 0, .slice Ak nk ck] 37)).drew) := Lib.hid (((HO.out.alloc _).alloc _).drew)
      have HI1 := Lib.hid (((HA.out.1.only (l := []) HO1.out (by simp) (Nat.le_refl _)).mono HO.out.size).cells)
      have HI2 := Lib.hid (((HA.out.1.only (l := []) HO2.out (by simp) (Nat.le_refl _)).mono HO.out.size).cells)
      have HON1 : Hid (∀ wa, Only (own (.slice (some ⟨wr.heap.size, 0, none⟩) 0 0)) (wr.alloc (.cells #[] 37)).drew wa → Only [] wr wa) := Lib.hid (fun wa hk => (((Only.refl _ _).alloc _).drew).then hk (by intro i hi hlt; simp [own, Value.ownBlock] at hi; omega))
      have HON2 : Hid (∀ wa, Only (own (.slice (some ⟨wr.heap.size, 0, none⟩) 0 0)) ((wr.alloc (.cells #[] 37)).alloc (.cells #[.int .i64 (nestK j), .int .i64 0, .int .i64 (nestT j), .slice none 0 0, .slice none 0 0, .slice Ak nk ck] 37)).drew wa → Only [] wr wa) := Lib.hid (fun wa hk => ((((Only.refl _ _).alloc _).alloc _).drew).then hk (by intro i hi hlt; simp [own, Value.ownBlock] at hi; omega))
      have HCS : Hid (ItsCells wr wr.heap.size (nest j) (nestC j Ak nk ck).toList) := Lib.hid HN.out.cells
      have HBL : Hid (∀ W, Only [] wr W → 0 < (nest j).len → ∃ b off cs, (some ⟨W.heap.size, 0, none⟩ : Option Addr) = some ⟨b, off, none⟩ ∧ ItsCells (W.alloc (.cells #[.int .i64 (nestK j), .int .i64 0, .int .i64 (nestT j), .slice none 0 0, .slice none 0 0, .slice Ak nk ck] 37)) wr.heap.size (nest j) cs ∧ ∀ i u, cs[i]? = some u → (W.alloc (.cells #[.int .i64 (nestK j), .int .i64 0, .int .i64 (nestT j), .slice none 0 0, .slice none 0 0, .slice Ak nk ck] 37)).cell? ⟨b, off + i, none⟩ = some u) := Lib.hid (fun W ho _ => ⟨W.heap.size, 0, _, rfl, HCS.out.keep (fun _ hp => ((ho.alloc _).below (by simp) (Nat.le_refl _)).cell hp), fun i u hi => by
        rw [Nat.zero_add, cell_of_row _ W.heap.size i _ _ _ (heap_alloc_new W (.cells #[.int .i64 (nestK j), .int .i64 0, .int .i64 (nestT j), .slice none 0 0, .slice none 0 0, .slice Ak nk ck] 37)), ← Array.getElem?_toList]
        exact hi⟩)
      have HBM : Hid (∀ wa, Only (own (.slice (some ⟨wr.heap.size, 0, none⟩) 0 0)) ((wr.alloc (.cells #[] 37)).alloc (.cells #[.int .i64 (nestK j), .int .i64 0, .int .i64 (nestT j), .slice none 0 0, .slice none 0 0, .slice Ak nk ck] 37)).drew wa → 0 < (nest j).len → ∃ b off cs, (some ⟨wr.heap.size + 1, 0, none⟩ : Option Addr) = some ⟨b, off, none⟩ ∧ ItsCells wa wr.heap.size (nest j) cs ∧ ∀ i u, cs[i]? = some u → wa.cell? ⟨b, off + i, none⟩ = some u) := Lib.hid (fun wa hk _ => ⟨wr.heap.size + 1, 0, _, rfl, HCS.out.keep (fun _ hp => ((HON2.out wa hk).below (by simp) (Nat.le_refl _)).cell hp), fun i u hi => by
        have hnb := heap_alloc_new (wr.alloc (.cells #[] 37)) (.cells #[.int .i64 (nestK j), .int .i64 0, .int .i64 (nestT j), .slice none 0 0, .slice none 0 0, .slice Ak nk ck] 37)
        rw [show (wr.alloc (.cells #[] 37)).heap.size = wr.heap.size + 1 by simp] at hnb
        have hnb2 := (hk.block (wr.heap.size + 1) (by simp) (by simp [own, Value.ownBlock])).trans hnb
        rw [Nat.zero_add, cell_of_row _ (wr.heap.size + 1) i _ _ _ hnb2, ← Array.getElem?_toList]
        exact hi⟩)
      have HBQ : Hid (∀ wa, Only (own (.slice (some ⟨wr.heap.size + 1, 0, none⟩) 0 0)) ((wr.alloc (.cells #[.int .i64 (nestK j), .int .i64 0, .int .i64 (nestT j), .slice none 0 0, .slice none 0 0, .slice Ak nk ck] 37)).alloc (.cells #[] 37)).drew wa → 0 < (nest j).len → ∃ b off cs, (some ⟨wr.heap.size, 0, none⟩ : Option Addr) = some ⟨b, off, none⟩ ∧ ItsCells wa wr.heap.size (nest j) cs ∧ ∀ i u, cs[i]? = some u → wa.cell? ⟨b, off + i, none⟩ = some u) := Lib.hid (fun wa hk _ => ⟨wr.heap.size, 0, _, rfl, HCS.out.keep (fun _ hp => ((HON3.out wa hk).below (by simp) (Nat.le_refl _)).cell hp), fun i u hi => by
        have hnb := heap_alloc_new wr (.cells #[.int .i64 (nestK j), .int .i64 0, .int .i64 (nestT j), .slice none 0 0, .slice none 0 0, .slice Ak nk ck] 37)
        have hnb1 := (Below.heap_alloc (wr.alloc (.cells #[.int .i64 (nestK j), .int .i64 0, .int .i64 (nestT j), .slice none 0 0, .slice none 0 0, .slice Ak nk ck] 37)) (.cells #[] 37) wr.heap.size (by simp)).trans hnb
        have hnb2 := (hk.block wr.heap.size (by simp; omega) (by simp [own, Value.ownBlock])).trans hnb1
        rw [Nat.zero_add, cell_of_row _ wr.heap.size i _ _ _ hnb2, ← Array.getElem?_toList]
        exact hi⟩)
      have HNB : Hid (0 < j ∧ j ≤ 10) := HDN
      have HI2C := Lib.hid (fun W A n c hi hn => H2.out W A n c j hi hn HFA.out HDN.out.1 HDN.out.2 .err (FA.out HFA.out HNB0.out j HDN.out.1).1)
      have HLL : Hid ((Its.nil).len + ia.len ≤ 1000000000000 ∧ ia.len + (nest j).len ≤ 1000000000000) := Lib.hid (by have := HA.out.2; have := HSZ.out; rw [nest_len]; simp only [Its.len]; omega)
      clear HB HN
      have e0 : (wr.alloc (.cells #[] 37)).drew.cell? ⟨w2.heap.size, 0, none⟩ = some (.int .i64 (nestK j)) := ((((Only.refl [] wr).alloc _).drew).cell (p := ⟨w2.heap.size, 0, none⟩) HXL.out (by simp)).trans hc0
      have e1 : (wr.alloc (.cells #[] 37)).drew.cell? ⟨w2.heap.size, 1, none⟩ = some (.int .i64 0) := ((((Only.refl [] wr).alloc _).drew).cell (p := ⟨w2.heap.size, 1, none⟩) HXL.out (by simp)).trans hc1
      have e2 : (wr.alloc (.cells #[] 37)).drew.cell? ⟨w2.heap.size, 2, none⟩ = some (.int .i64 (nestT j)) := ((((Only.refl [] wr).alloc _).drew).cell (p := ⟨w2.heap.size, 2, none⟩) HXL.out (by simp)).trans hc2
      have e3 : (wr.alloc (.cells #[] 37)).drew.cell? ⟨w2.heap.size, 3, none⟩ = some (.slice none 0 0) := ((((Only.refl [] wr).alloc _).drew).cell (p := ⟨w2.heap.size, 3, none⟩) HXL.out (by simp)).trans hc3
      have e4 : (wr.alloc (.cells #[] 37)).drew.cell? ⟨w2.heap.size, 4, none⟩ = some (.slice none 0 0) := ((((Only.refl [] wr).alloc _).drew).cell (p := ⟨w2.heap.size, 4, none⟩) HXL.out (by simp)).trans hc4
      have e5 : (wr.alloc (.cells #[] 37)).drew.cell? ⟨w2.heap.size, 5, none⟩ = some (.slice Ak nk ck) := ((((Only.refl [] wr).alloc _).drew).cell (p := ⟨w2.heap.size, 5, none⟩) HXL.out (by simp)).trans hc5
      have g0 : ((wr.alloc (.cells #[] 37)).alloc (.cells #[.int .i64 (nestK j), .int .i64 0, .int .i64 (nestT j), .slice none 0 0, .slice none 0 0, .slice Ak nk ck] 37)).drew.cell? ⟨w2.heap.size, 0, none⟩ = some (.int .i64 (nestK j)) := (((((Only.refl [] wr).alloc _).alloc _).drew).cell (p := ⟨w2.heap.size, 0, none⟩) HXL.out (by simp)).trans hc0
      have g1 : ((wr.alloc (.cells #[] 37)).alloc (.cells #[.int .i64 (nestK j), .int .i64 0, .int .i64 (nestT j), .slice none 0 0, .slice none 0 0, .slice Ak nk ck] 37)).drew.cell? ⟨w2.heap.size, 1, none⟩ = some (.int .i64 0) := (((((Only.refl [] wr).alloc _).alloc _).drew).cell (p := ⟨w2.heap.size, 1, none⟩) HXL.out (by simp)).trans hc1
      have g2 : ((wr.alloc (.cells #[] 37)).alloc (.cells #[.int .i64 (nestK j), .int .i64 0, .int .i64 (nestT j), .slice none 0 0, .slice none 0 0, .slice Ak nk ck] 37)).drew.cell? ⟨w2.heap.size, 2, none⟩ = some (.int .i64 (nestT j)) := (((((Only.refl [] wr).alloc _).alloc _).drew).cell (p := ⟨w2.heap.size, 2, none⟩) HXL.out (by simp)).trans hc2
      have g3 : ((wr.alloc (.cells #[] 37)).alloc (.cells #[.int .i64 (nestK j), .int .i64 0, .int .i64 (nestT j), .slice none 0 0, .slice none 0 0, .slice Ak nk ck] 37)).drew.cell? ⟨w2.heap.size, 3, none⟩ = some (.slice none 0 0) := (((((Only.refl [] wr).alloc _).alloc _).drew).cell (p := ⟨w2.heap.size, 3, none⟩) HXL.out (by simp)).trans hc3
      have g4 : ((wr.alloc (.cells #[] 37)).alloc (.cells #[.int .i64 (nestK j), .int .i64 0, .int .i64 (nestT j), .slice none 0 0, .slice none 0 0, .slice Ak nk ck] 37)).drew.cell? ⟨w2.heap.size, 4, none⟩ = some (.slice none 0 0) := (((((Only.refl [] wr).alloc _).alloc _).drew).cell (p := ⟨w2.heap.size, 4, none⟩) HXL.out (by simp)).trans hc4
      have g5 : ((wr.alloc (.cells #[] 37)).alloc (.cells #[.int .i64 (nestK j), .int .i64 0, .int .i64 (nestT j), .slice none 0 0, .slice none 0 0, .slice Ak nk ck] 37)).drew.cell? ⟨w2.heap.size, 5, none⟩ = some (.slice Ak nk ck) := (((((Only.refl [] wr).alloc _).alloc _).drew).cell (p := ⟨w2.heap.size, 5, none⟩) HXL.out (by simp)).trans hc5
      have m0 : ((wr.alloc (.cells #[.int .i64 (nestK j), .int .i64 0, .int .i64 (nestT j), .slice none 0 0, .slice none 0 0, .slice Ak nk ck] 37)).alloc (.cells #[] 37)).drew.cell? ⟨w2.heap.size, 0, none⟩ = some (.int .i64 (nestK j)) := (((((Only.refl [] wr).alloc _).alloc _).drew).cell (p := ⟨w2.heap.size, 0, none⟩) HXL.out (by simp)).trans hc0
      have m1 : ((wr.alloc (.cells #[.int .i64 (nestK j), .int .i64 0, .int .i64 (nestT j), .slice none 0 0, .slice none 0 0, .slice Ak nk ck] 37)).alloc (.cells #[] 37)).drew.cell? ⟨w2.heap.size, 1, none⟩ = some (.int .i64 0) := (((((Only.refl [] wr).alloc _).alloc _).drew).cell (p := ⟨w2.heap.size, 1, none⟩) HXL.out (by simp)).trans hc1
      have m2 : ((wr.alloc (.cells #[.int .i64 (nestK j), .int .i64 0, .int .i64 (nestT j), .slice none 0 0, .slice none 0 0, .slice Ak nk ck] 37)).alloc (.cells #[] 37)).drew.cell? ⟨w2.heap.size, 2, none⟩ = some (.int .i64 (nestT j)) := (((((Only.refl [] wr).alloc _).alloc _).drew).cell (p := ⟨w2.heap.size, 2, none⟩) HXL.out (by simp)).trans hc2
      have m3 : ((wr.alloc (.cells #[.int .i64 (nestK j), .int .i64 0, .int .i64 (nestT j), .slice none 0 0, .slice none 0 0, .slice Ak nk ck] 37)).alloc (.cells #[] 37)).drew.cell? ⟨w2.heap.size, 3, none⟩ = some (.slice none 0 0) := (((((Only.refl [] wr).alloc _).alloc _).drew).cell (p := ⟨w2.heap.size, 3, none⟩) HXL.out (by simp)).trans hc3
      have m4 : ((wr.alloc (.cells #[.int .i64 (nestK j), .int .i64 0, .int .i64 (nestT j), .slice none 0 0, .slice none 0 0, .slice Ak nk ck] 37)).alloc (.cells #[] 37)).drew.cell? ⟨w2.heap.size, 4, none⟩ = some (.slice none 0 0) := (((((Only.refl [] wr).alloc _).alloc _).drew).cell (p := ⟨w2.heap.size, 4, none⟩) HXL.out (by simp)).trans hc4
      have m5 : ((wr.alloc (.cells #[.int .i64 (nestK j), .int .i64 0, .int .i64 (nestT j), .slice none 0 0, .slice none 0 0, .slice Ak nk ck] 37)).alloc (.cells #[] 37)).drew.cell? ⟨w2.heap.size, 5, none⟩ = some (.slice Ak nk ck) := (((((Only.refl [] wr).alloc _).alloc _).drew).cell (p := ⟨w2.heap.size, 5, none⟩) HXL.out (by simp)).trans hc5
      have y0 : (wr.alloc (.cells #[.int .i64 (nestK j), .int .i64 0, .int .i64 (nestT j), .slice none 0 0, .slice none 0 0, .slice Ak nk ck] 37)).drew.cell? ⟨w2.heap.size, 0, none⟩ = some (.int .i64 (nestK j)) := ((((Only.refl [] wr).alloc _).drew).cell (p := ⟨w2.heap.size, 0, none⟩) HXL.out (by simp)).trans hc0
      have y1 : (wr.alloc (.cells #[.int .i64 (nestK j), .int .i64 0, .int .i64 (nestT j), .slice none 0 0, .slice none 0 0, .slice Ak nk ck] 37)).drew.cell? ⟨w2.heap.size, 1, none⟩ = some (.int .i64 0) := ((((Only.refl [] wr).alloc _).drew).cell (p := ⟨w2.heap.size, 1, none⟩) HXL.out (by simp)).trans hc1
      have y2 : (wr.alloc (.cells #[.int .i64 (nestK j), .int .i64 0, .int .i64 (nestT j), .slice none 0 0, .slice none 0 0, .slice Ak nk ck] 37)).drew.cell? ⟨w2.heap.size, 2, none⟩ = some (.int .i64 (nestT j)) := ((((Only.refl [] wr).alloc _).drew).cell (p := ⟨w2.heap.size, 2, none⟩) HXL.out (by simp)).trans hc2
      have y3 : (wr.alloc (.cells #[.int .i64 (nestK j), .int .i64 0, .int .i64 (nestT j), .slice none 0 0, .slice none 0 0, .slice Ak nk ck] 37)).drew.cell? ⟨w2.heap.size, 3, none⟩ = some (.slice none 0 0) := ((((Only.refl [] wr).alloc _).drew).cell (p := ⟨w2.heap.size, 3, none⟩) HXL.out (by simp)).trans hc3
      have y4 : (wr.alloc (.cells #[.int .i64 (nestK j), .int .i64 0, .int .i64 (nestT j), .slice none 0 0, .slice none 0 0, .slice Ak nk ck] 37)).drew.cell? ⟨w2.heap.size, 4, none⟩ = some (.slice none 0 0) := ((((Only.refl [] wr).alloc _).drew).cell (p := ⟨w2.heap.size, 4, none⟩) HXL.out (by simp)).trans hc4
      have y5 : (wr.alloc (.cells #[.int .i64 (nestK j), .int .i64 0, .int .i64 (nestT j), .slice none 0 0, .slice none 0 0, .slice Ak nk ck] 37)).drew.cell? ⟨w2.heap.size, 5, none⟩ = some (.slice Ak nk ck) := ((((Only.refl [] wr).alloc _).drew).cell (p := ⟨w2.heap.size, 5, none⟩) HXL.out (by simp)).trans hc5
      go_wp2_with fail
      go_region_held3 (fun w' => w'.cell? ⟨w2.heap.size, 0, none⟩ = some (.int .i64 (nestK j)) ∧ w'.cell? ⟨w2.heap.size, 1, none⟩ = some (.int .i64 0) ∧ w'.cell? ⟨w2.heap.size, 2, none⟩ = some (.int .i64 (nestT j)) ∧ w'.cell? ⟨w2.heap.size, 3, none⟩ = some (.slice none 0 0) ∧ w'.cell? ⟨w2.heap.size, 4, none⟩ = some (.slice none 0 0) ∧ w'.cell? ⟨w2.heap.size, 5, none⟩ = some (.slice Ak nk ck)) (first | exact ⟨hc0, hc1, hc2, hc3, hc4, hc5⟩ | exact ⟨e0, e1, e2, e3, e4, e5⟩ | exact ⟨g0, g1, g2, g3, g4, g5⟩ | exact ⟨m0, m1, m2, m3, m4, m5⟩ | exact ⟨y0, y1, y2, y3, y4, y5⟩ | exact ⟨a0, a1, a2, a3, a4, a5⟩ | exact ⟨k0, k1, k2, k3, k4, k5⟩ | exact ⟨b0, b1, b2, b3, b4, b5⟩ | exact ⟨d0, d1, d2, d3, d4, d5⟩ | fail) (first | (refine step_rowT rfl _ _ rfl rfl wr.heap.size wr.heap.size (.slice (some ⟨wr.heap.size, 0, none⟩) 0 0) .nil ia A0 n0 c0 rfl rfl HL1.out HI1.out HA.out.2 (by simp) (Nat.le_refl _) HLL.out.1 (fun va wa hra hka => ?_); have HKA := Lib.hid (HON1.out wa hka); have a0 : wa.cell? ⟨w2.heap.size, 0, none⟩ = some (.int .i64 (nestK j)) := (HKA.out.cell (p := ⟨w2.heap.size, 0, none⟩) HXL.out (by simp)).trans hc0; have a1 : wa.cell? ⟨w2.heap.size, 1, none⟩ = some (.int .i64 0) := (HKA.out.cell (p := ⟨w2.heap.size, 1, none⟩) HXL.out (by simp)).trans hc1; have a2 : wa.cell? ⟨w2.heap.size, 2, none⟩ = some (.int .i64 (nestT j)) := (HKA.out.cell (p := ⟨w2.heap.size, 2, none⟩) HXL.out (by simp)).trans hc2; have a3 : wa.cell? ⟨w2.heap.size, 3, none⟩ = some (.slice none 0 0) := (HKA.out.cell (p := ⟨w2.heap.size, 3, none⟩) HXL.out (by simp)).trans hc3; have a4 : wa.cell? ⟨w2.heap.size, 4, none⟩ = some (.slice none 0 0) := (HKA.out.cell (p := ⟨w2.heap.size, 4, none⟩) HXL.out (by simp)).trans hc4; have a5 : wa.cell? ⟨w2.heap.size, 5, none⟩ = some (.slice Ak nk ck) := (HKA.out.cell (p := ⟨w2.heap.size, 5, none⟩) HXL.out (by simp)).trans hc5; have k0 : (wa.alloc (.cells #[.int .i64 (nestK j), .int .i64 0, .int .i64 (nestT j), .slice none 0 0, .slice none 0 0, .slice Ak nk ck] 37)).cell? ⟨w2.heap.size, 0, none⟩ = some (.int .i64 (nestK j)) := ((HKA.out.alloc _).cell (p := ⟨w2.heap.size, 0, none⟩) HXL.out (by simp)).trans hc0; have k1 : (wa.alloc (.cells #[.int .i64 (nestK j), .int .i64 0, .int .i64 (nestT j), .slice none 0 0, .slice none 0 0, .slice Ak nk ck] 37)).cell? ⟨w2.heap.size, 1, none⟩ = some (.int .i64 0) := ((HKA.out.alloc _).cell (p := ⟨w2.heap.size, 1, none⟩) HXL.out (by simp)).trans hc1; have k2 : (wa.alloc (.cells #[.int .i64 (nestK j), .int .i64 0, .int .i64 (nestT j), .slice none 0 0, .slice none 0 0, .slice Ak nk ck] 37)).cell? ⟨w2.heap.size, 2, none⟩ = some (.int .i64 (nestT j)) := ((HKA.out.alloc _).cell (p := ⟨w2.heap.size, 2, none⟩) HXL.out (by simp)).trans hc2; have k3 : (wa.alloc (.cells #[.int .i64 (nestK j), .int .i64 0, .int .i64 (nestT j), .slice none 0 0, .slice none 0 0, .slice Ak nk ck] 37)).cell? ⟨w2.heap.size, 3, none⟩ = some (.slice none 0 0) := ((HKA.out.alloc _).cell (p := ⟨w2.heap.size, 3, none⟩) HXL.out (by simp)).trans hc3; have k4 : (wa.alloc (.cells #[.int .i64 (nestK j), .int .i64 0, .int .i64 (nestT j), .slice none 0 0, .slice none 0 0, .slice Ak nk ck] 37)).cell? ⟨w2.heap.size, 4, none⟩ = some (.slice none 0 0) := ((HKA.out.alloc _).cell (p := ⟨w2.heap.size, 4, none⟩) HXL.out (by simp)).trans hc4; have k5 : (wa.alloc (.cells #[.int .i64 (nestK j), .int .i64 0, .int .i64 (nestT j), .slice none 0 0, .slice none 0 0, .slice Ak nk ck] 37)).cell? ⟨w2.heap.size, 5, none⟩ = some (.slice Ak nk ck) := ((HKA.out.alloc _).cell (p := ⟨w2.heap.size, 5, none⟩) HXL.out (by simp)).trans hc5; obtain ⟨Av, cv, rfl, _, _, _⟩ := hra.form; have HRA := Lib.hid hra; clear hra hka) | (refine step_rowT rfl _ _ rfl rfl wr.heap.size wr.heap.size (.slice (some ⟨wr.heap.size, 0, none⟩) 0 0) .nil ia A0 n0 c0 rfl rfl HL2.out HI2.out HA.out.2 (by simp; omega) (Nat.le_refl _) HLL.out.1 (fun va wa hra hka => ?_); have HKA := Lib.hid (HON2.out wa hka); have a0 : wa.cell? ⟨w2.heap.size, 0, none⟩ = some (.int .i64 (nestK j)) := (HKA.out.cell (p := ⟨w2.heap.size, 0, none⟩) HXL.out (by simp)).trans hc0; have a1 : wa.cell? ⟨w2.heap.size, 1, none⟩ = some (.int .i64 0) := (HKA.out.cell (p := ⟨w2.heap.size, 1, none⟩) HXL.out (by simp)).trans hc1; have a2 : wa.cell? ⟨w2.heap.size, 2, none⟩ = some (.int .i64 (nestT j)) := (HKA.out.cell (p := ⟨w2.heap.size, 2, none⟩) HXL.out (by simp)).trans hc2; have a3 : wa.cell? ⟨w2.heap.size, 3, none⟩ = some (.slice none 0 0) := (HKA.out.cell (p := ⟨w2.heap.size, 3, none⟩) HXL.out (by simp)).trans hc3; have a4 : wa.cell? ⟨w2.heap.size, 4, none⟩ = some (.slice none 0 0) := (HKA.out.cell (p := ⟨w2.heap.size, 4, none⟩) HXL.out (by simp)).trans hc4; have a5 : wa.cell? ⟨w2.heap.size, 5, none⟩ = some (.slice Ak nk ck) := (HKA.out.cell (p := ⟨w2.heap.size, 5, none⟩) HXL.out (by simp)).trans hc5; obtain ⟨Av, cv, rfl, _, _, _⟩ := hra.form; have HRA := Lib.hid hra; have HKB := Lib.hid hka; clear hra hka) | (refine step_rowT rfl _ _ rfl rfl wr.heap.size wr.heap.size (.slice (some ⟨wr.heap.size + 1, 0, none⟩) 0 0) .nil ia A0 n0 c0 rfl rfl HL3.out HI3.out HA.out.2 (by simp; omega) (Nat.le_refl _) HLL.out.1 (fun va wa hra hka => ?_); have HKA := Lib.hid (HON3.out wa hka); have a0 : wa.cell? ⟨w2.heap.size, 0, none⟩ = some (.int .i64 (nestK j)) := (HKA.out.cell (p := ⟨w2.heap.size, 0, none⟩) HXL.out (by simp)).trans hc0; have a1 : wa.cell? ⟨w2.heap.size, 1, none⟩ = some (.int .i64 0) := (HKA.out.cell (p := ⟨w2.heap.size, 1, none⟩) HXL.out (by simp)).trans hc1; have a2 : wa.cell? ⟨w2.heap.size, 2, none⟩ = some (.int .i64 (nestT j)) := (HKA.out.cell (p := ⟨w2.heap.size, 2, none⟩) HXL.out (by simp)).trans hc2; have a3 : wa.cell? ⟨w2.heap.size, 3, none⟩ = some (.slice none 0 0) := (HKA.out.cell (p := ⟨w2.heap.size, 3, none⟩) HXL.out (by simp)).trans hc3; have a4 : wa.cell? ⟨w2.heap.size, 4, none⟩ = some (.slice none 0 0) := (HKA.out.cell (p := ⟨w2.heap.size, 4, none⟩) HXL.out (by simp)).trans hc4; have a5 : wa.cell? ⟨w2.heap.size, 5, none⟩ = some (.slice Ak nk ck) := (HKA.out.cell (p := ⟨w2.heap.size, 5, none⟩) HXL.out (by simp)).trans hc5; obtain ⟨Av, cv, rfl, _, _, _⟩ := hra.form; have HRA := Lib.hid hra; have HKB := Lib.hid hka; clear hra hka) | (refine step_rowT rfl _ _ rfl rfl wr.heap.size wr.heap.size (.slice Av ia.len cv) ia (nest j) (some ⟨wa.heap.size, 0, none⟩) 1 1 rfl rfl (HRA.out.only (l := []) ((Only.refl _ _).alloc _) (by simp) HKA.out.size) (HBL.out wa HKA.out) (nest_len j).symm (by have := HKA.out.size; simp; omega) (Nat.le_refl _) HLL.out.2 (fun v2 w8 hr8 hk8 => ?_); have HK8 := Lib.hid ((HKA.out.alloc _).then hk8 (by intro i hi hlt; have := HRA.out.low i hi; omega)); have b0 : w8.cell? ⟨w2.heap.size, 0, none⟩ = some (.int .i64 (nestK j)) := (HK8.out.cell (p := ⟨w2.heap.size, 0, none⟩) HXL.out (by simp)).trans hc0; have b1 : w8.cell? ⟨w2.heap.size, 1, none⟩ = some (.int .i64 0) := (HK8.out.cell (p := ⟨w2.heap.size, 1, none⟩) HXL.out (by simp)).trans hc1; have b2 : w8.cell? ⟨w2.heap.size, 2, none⟩ = some (.int .i64 (nestT j)) := (HK8.out.cell (p := ⟨w2.heap.size, 2, none⟩) HXL.out (by simp)).trans hc2; have b3 : w8.cell? ⟨w2.heap.size, 3, none⟩ = some (.slice none 0 0) := (HK8.out.cell (p := ⟨w2.heap.size, 3, none⟩) HXL.out (by simp)).trans hc3; have b4 : w8.cell? ⟨w2.heap.size, 4, none⟩ = some (.slice none 0 0) := (HK8.out.cell (p := ⟨w2.heap.size, 4, none⟩) HXL.out (by simp)).trans hc4; have b5 : w8.cell? ⟨w2.heap.size, 5, none⟩ = some (.slice Ak nk ck) := (HK8.out.cell (p := ⟨w2.heap.size, 5, none⟩) HXL.out (by simp)).trans hc5; obtain ⟨A8, c8, rfl, h81, h82, _⟩ := hr8.form; have HR8 := Lib.hid (hr8.rd HK8.out.size); clear hr8 hk8) | (refine step_rowT rfl _ _ rfl rfl wr.heap.size wr.heap.size (.slice Av ia.len cv) ia (nest j) (some ⟨wr.heap.size + 1, 0, none⟩) 1 1 rfl rfl HRA.out (HBM.out wa HKB.out) (nest_len j).symm HKA.out.size (Nat.le_refl _) HLL.out.2 (fun v2 w8 hr8 hk8 => ?_); have HK8 := Lib.hid (HKA.out.then hk8 (by intro i hi hlt; have := HRA.out.low i hi; omega)); have b0 : w8.cell? ⟨w2.heap.size, 0, none⟩ = some (.int .i64 (nestK j)) := (HK8.out.cell (p := ⟨w2.heap.size, 0, none⟩) HXL.out (by simp)).trans hc0; have b1 : w8.cell? ⟨w2.heap.size, 1, none⟩ = some (.int .i64 0) := (HK8.out.cell (p := ⟨w2.heap.size, 1, none⟩) HXL.out (by simp)).trans hc1; have b2 : w8.cell? ⟨w2.heap.size, 2, none⟩ = some (.int .i64 (nestT j)) := (HK8.out.cell (p := ⟨w2.heap.size, 2, none⟩) HXL.out (by simp)).trans hc2; have b3 : w8.cell? ⟨w2.heap.size, 3, none⟩ = some (.slice none 0 0) := (HK8.out.cell (p := ⟨w2.heap.size, 3, none⟩) HXL.out (by simp)).trans hc3; have b4 : w8.cell? ⟨w2.heap.size, 4, none⟩ = some (.slice none 0 0) := (HK8.out.cell (p := ⟨w2.heap.size, 4, none⟩) HXL.out (by simp)).trans hc4; have b5 : w8.cell? ⟨w2.heap.size, 5, none⟩ = some (.slice Ak nk ck) := (HK8.out.cell (p := ⟨w2.heap.size, 5, none⟩) HXL.out (by simp)).trans hc5; obtain ⟨A8, c8, rfl, h81, h82, _⟩ := hr8.form; have HR8 := Lib.hid (hr8.rd HK8.out.size); clear hr8 hk8) | (refine step_rowT rfl _ _ rfl rfl wr.heap.size wr.heap.size (.slice Av ia.len cv) ia (nest j) (some ⟨wr.heap.size, 0, none⟩) 1 1 rfl rfl HRA.out (HBQ.out wa HKB.out) (nest_len j).symm HKA.out.size (Nat.le_refl _) HLL.out.2 (fun v2 w8 hr8 hk8 => ?_); have HK8 := Lib.hid (HKA.out.then hk8 (by intro i hi hlt; have := HRA.out.low i hi; omega)); have b0 : w8.cell? ⟨w2.heap.size, 0, none⟩ = some (.int .i64 (nestK j)) := (HK8.out.cell (p := ⟨w2.heap.size, 0, none⟩) HXL.out (by simp)).trans hc0; have b1 : w8.cell? ⟨w2.heap.size, 1, none⟩ = some (.int .i64 0) := (HK8.out.cell (p := ⟨w2.heap.size, 1, none⟩) HXL.out (by simp)).trans hc1; have b2 : w8.cell? ⟨w2.heap.size, 2, none⟩ = some (.int .i64 (nestT j)) := (HK8.out.cell (p := ⟨w2.heap.size, 2, none⟩) HXL.out (by simp)).trans hc2; have b3 : w8.cell? ⟨w2.heap.size, 3, none⟩ = some (.slice none 0 0) := (HK8.out.cell (p := ⟨w2.heap.size, 3, none⟩) HXL.out (by simp)).trans hc3; have b4 : w8.cell? ⟨w2.heap.size, 4, none⟩ = some (.slice none 0 0) := (HK8.out.cell (p := ⟨w2.heap.size, 4, none⟩) HXL.out (by simp)).trans hc4; have b5 : w8.cell? ⟨w2.heap.size, 5, none⟩ = some (.slice Ak nk ck) := (HK8.out.cell (p := ⟨w2.heap.size, 5, none⟩) HXL.out (by simp)).trans hc5; obtain ⟨A8, c8, rfl, h81, h82, _⟩ := hr8.form; have HR8 := Lib.hid (hr8.rd HK8.out.size); clear hr8 hk8) | (go_at_call 16; refine (HI2C.out _ A8 _ c8 (by exact HR8.out) rfl).mono ?_; rintro e w9 ⟨X2, d2, xc, ok, rfl, hxc, hk9, _, _, hp⟩; obtain rfl : ok = false := hp; have HK9 : Hid (Only [] wr w9) := Lib.hid (HK8.out.trans hk9); have d0 : w9.cell? ⟨w2.heap.size, 0, none⟩ = some (.int .i64 (nestK j)) := (HK9.out.cell (p := ⟨w2.heap.size, 0, none⟩) HXL.out (by simp)).trans hc0; have d1 : w9.cell? ⟨w2.heap.size, 1, none⟩ = some (.int .i64 0) := (HK9.out.cell (p := ⟨w2.heap.size, 1, none⟩) HXL.out (by simp)).trans hc1; have d2 : w9.cell? ⟨w2.heap.size, 2, none⟩ = some (.int .i64 (nestT j)) := (HK9.out.cell (p := ⟨w2.heap.size, 2, none⟩) HXL.out (by simp)).trans hc2; have d3 : w9.cell? ⟨w2.heap.size, 3, none⟩ = some (.slice none 0 0) := (HK9.out.cell (p := ⟨w2.heap.size, 3, none⟩) HXL.out (by simp)).trans hc3; have d4 : w9.cell? ⟨w2.heap.size, 4, none⟩ = some (.slice none 0 0) := (HK9.out.cell (p := ⟨w2.heap.size, 4, none⟩) HXL.out (by simp)).trans hc4; have d5 : w9.cell? ⟨w2.heap.size, 5, none⟩ = some (.slice Ak nk ck) := (HK9.out.cell (p := ⟨w2.heap.size, 5, none⟩) HXL.out (by simp)).trans hc5; clear hxc hk9))
      all_goals
        have HK := Lib.hid (HO.out.trans HK9.out)
        obtain ⟨_, res, hr, hor⟩ := FA.out HFA.out HNB0.out j HDN.out.1
        have hwr := FW.out HNB0.out
        have HC := Lib.hid (I0.out w9 HK.out HFA.out res hr)
        have HOR := Lib.hid (And.intro hor hwr)
        clear hr hor hwr I0 H2 HI2C FA FW HKA HK8 HK9 HRA HR8 HO HXL HL1 HL2 HL3 HO1 HO2 HO3 HI1 HI2 HI3 HON1 HON2 HON3 HCS HBL HBM HBQ HNB HLL
        clear hc0 hc1 hc2 hc3 hc4 hc5 e0 e1 e2 e3 e4 e5 g0 g1 g2 g3 g4 g5 m0 m1 m2 m3 m4 m5 y0 y1 y2 y3 y4 y5 a0 a1 a2 a3 a4 a5 b0 b1 b2 b3 b4 b5 d0 d1 d2 d3 d4 d5
        go_wp2_with fail
        refine HC.out.mono ?_
        rintro e w10 ⟨X0, dd0, xa, first, rfl, _, hk10, _, _, hp⟩
        have HK10 := Lib.hid (HK.out.trans hk10)
        have HP := Lib.hid hp
        have HSB := Lib.hid (B0.out w10 HK10.out HFA.out)
        clear hk10 hp HC B0 HK
        go_wp2_with fail
        refine HSB.out.mono ?_
        rintro e w11 ⟨A10, c10, zs, rfl, _, hk11, _, _, _⟩
        have HK11 := Lib.hid (HK10.out.trans hk11)
        clear hk11 HSB HK10
        obtain ⟨hor, hwr⟩ := HOR.out
        have hp := HP.out
        clear HP HOR
        cases sa with
        | mk outa dira fla wra =>
        obtain rfl : wra = false := hwr
        simp only [Bool.or_false, Bool.not_false]
        cases fla with
        | true =>
          obtain rfl : res = .err := by
            rcases hor with ⟨h, q⟩ | ⟨h, q⟩
            · cases h
            · exact q
          obtain rfl : first = false := hp
          clear hor
          go_wp2_with fail
          go_ret
          exact ⟨rfl, HK11.out.bel⟩
        | false =>
          obtain rfl : res = .good outa := by
            rcases hor with ⟨h, q⟩ | ⟨h, q⟩
            · exact q
            · cases h
          obtain rfl : first = true := hp.1
          clear hor hp
          go_wp2_with fail
          go_ret
          exact ⟨rfl, HK11.out.bel⟩

end Go.Proofs.Ytlpmjahhdbcfiaa
