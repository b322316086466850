/- Memory of which some blocks alone are looked at. The reader of elements within elements: contract. The law on elements within elements: walk. -/
import Derived.Test.YtndnglpehghmeaaZ11
import Derived.Test.YtndnglpehghmeaaZ15
import Derived.Test.YtndnglpehghmeaaZ12
import Derived.Test.YtndnglpehghmeaaZ8
/-! ### Memory of which some blocks alone are looked at. -/
namespace Go.Proofs.Ytndnglpehghmeaa
open Go.RowKit
set_option linter.unusedVariables false

/-- Memory of which the blocks of P alone are looked at. -/
def mask (w : World) (P : Nat → Bool) : World := { w with heap := w.heap.mapIdx fun i o => if P i then o else .cells #[] 0 }
theorem mask_at {w : World} {P : Nat → Bool} {b : Nat} (h : P b = true) : (mask w P).heap[b]? = w.heap[b]? := by
  unfold mask
  simp only [Array.getElem?_mapIdx]
  cases w.heap[b]? with
  | none => rfl
  | some o => simp [h]
theorem mask_sub {w : World} {P : Nat → Bool} {b i : Nat} {u : Value} (h : (mask w P).cell? ⟨b, i, none⟩ = some u) : P b = true ∧ b < w.heap.size ∧ w.cell? ⟨b, i, none⟩ = some u := by
  have hlt : b < w.heap.size := by
    have := World.block_lt_of_cell? (mask w P) _ h
    simpa [mask] using this
  cases hp : P b with
  | true =>
    have e : (mask w P).cell? ⟨b, i, none⟩ = w.cell? ⟨b, i, none⟩ := World.cell?_of_block (mask_at hp)
    exact ⟨rfl, hlt, by rw [← e]; exact h⟩
  | false =>
    have hb : (mask w P).heap[b]? = some (.cells #[] 0) := by
      unfold mask
      simp only [Array.getElem?_mapIdx, Array.getElem?_eq_getElem hlt]
      simp [hp]
    rw [cell_of_row _ b i _ _ _ hb] at h
    simp at h
theorem mask_keep {w w' : World} {P P' : Nat → Bool} (hk : ∀ b, P b = true → b < w.heap.size → P' b = true ∧ w'.heap[b]? = w.heap[b]?) : ∀ b i u, (mask w P).cell? ⟨b, i, none⟩ = some u → (mask w' P').cell? ⟨b, i, none⟩ = some u := by
  intro b i u h
  obtain ⟨h1, h2, h3⟩ := mask_sub h
  obtain ⟨h4, h5⟩ := hk b h1 h2
  have e : (mask w' P').cell? ⟨b, i, none⟩ = w.cell? ⟨b, i, none⟩ := World.cell?_of_block ((mask_at h4).trans h5)
  rw [e, h3]
theorem Rd.weak {w w' : World} {B : Nat} (hk : ∀ b i u, w.cell? ⟨b, i, none⟩ = some u → w'.cell? ⟨b, i, none⟩ = some u) {A : Option Addr} {xs : List Int} (h : Rd w B A xs) : Rd w' B A xs :=
  ⟨h.1, fun hn => by obtain ⟨b, off, e, hb, hc⟩ := h.2 hn; exact ⟨b, off, e, hb, fun i hi => hk _ _ _ (hc i hi)⟩⟩
theorem RdI.weak {w w' : World} {B : Nat} (hk : ∀ b i u, w.cell? ⟨b, i, none⟩ = some u → w'.cell? ⟨b, i, none⟩ = some u) {A : Option Addr} {xs : List Int} (h : RdI w B A xs) : RdI w' B A xs :=
  ⟨h.1, fun hn => by obtain ⟨b, off, e, hb, hc⟩ := h.2 hn; exact ⟨b, off, e, hb, fun i hi => hk _ _ _ (hc i hi)⟩⟩
theorem ItsAt.weak {w w' : World} {B : Nat} (hk : ∀ b i u, w.cell? ⟨b, i, none⟩ = some u → w'.cell? ⟨b, i, none⟩ = some u) : ∀ {its : Its} {b off : Nat}, ItsAt w B its b off → ItsAt w' B its b off := by
  intro its
  induction its with
  | nil => intro _ _ _; trivial
  | cons k n t d o kids rest ihk ihr =>
    rintro b off ⟨Ad, cd, Ao, co, Ak, ck, h1, h2, h3, h4, h5, h6, h7, h8, h9, h10, h11, h12, h13, h14⟩
    refine ⟨Ad, cd, Ao, co, Ak, ck, fun i u hu => hk _ _ _ (h1 i u hu), h2, h3, h4, h5.weak hk, h6, h7, h8.weak hk, h9, h10, h11, h12, ?_, ihr h14⟩
    intro hp
    obtain ⟨b', off', e, hb', h⟩ := h13 hp
    exact ⟨b', off', e, hb', ihk h⟩
theorem ItsRd.weak {w w' : World} {B : Nat} (hk : ∀ b i u, w.cell? ⟨b, i, none⟩ = some u → w'.cell? ⟨b, i, none⟩ = some u) {A : Option Addr} {its : Its} (h : ItsRd w B A its) : ItsRd w' B A its := by
  intro hp
  obtain ⟨b, off, e, hb, h⟩ := h hp
  exact ⟨b, off, e, hb, h.weak hk⟩
theorem ItsCells.weak {w w' : World} {B : Nat} (hk : ∀ b i u, w.cell? ⟨b, i, none⟩ = some u → w'.cell? ⟨b, i, none⟩ = some u) : ∀ {its : Its} {cs : List Value}, ItsCells w B its cs → ItsCells w' B its cs := by
  intro its
  induction its with
  | nil => intro cs h; exact h
  | cons k n t d o kids rest _ ih =>
    rintro cs ⟨Ad, cd, Ao, co, Ak, ck, cs', rfl, r1, r2, r3, r4, r5, r6, r7, r8, r9, r10, r11, r12, r13⟩
    exact ⟨Ad, cd, Ao, co, Ak, ck, cs', rfl, r1, r2, r3, r4.weak hk, r5, r6, r7.weak hk, r8, r9, r10, r11, r12.weak hk, ih r13⟩
/-- The blocks from s on. -/
def fr (s : Nat) : Nat → Bool := fun k => decide (s ≤ k)
/-- The blocks from s on that a row does not own. -/
def frx (s : Nat) (v : Value) : Nat → Bool := fun k => decide (s ≤ k ∧ k ∉ own v)
/-- A row of steps that a slice owns; what they hold lies in other blocks, all from s on. -/
def RowX (w : World) (s : Nat) (v : Value) (its : Its) : Prop := ∃ cs, ItsCells (mask w (frx s v)) w.heap.size its cs ∧ w.ownsRow s 42 6 v its.len cs
theorem RowX.form {w : World} {s : Nat} {v : Value} {its : Its} (h : RowX w s v its) : ∃ A c, v = .slice A its.len c ∧ its.len ≤ c ∧ c ≤ maxLen ∧ (∀ b, A = some b → s ≤ b.block) := by
  obtain ⟨cs, _, h⟩ := h
  rcases h.2 with ⟨rfl, h0⟩ | ⟨g, cap, cur, rfl, hg, _, hn, hm, _⟩
  · exact ⟨none, 0, by rw [h0], by omega, Nat.zero_le _, fun b e => by cases e⟩
  · exact ⟨_, cap, rfl, hn, hm, fun b e => by cases e; exact hg⟩
theorem RowX.low {w : World} {s : Nat} {v : Value} {its : Its} (h : RowX w s v its) : ∀ k ∈ own v, s ≤ k := by obtain ⟨cs, _, h⟩ := h; exact own_low h
theorem RowX.lt {w : World} {s : Nat} {v : Value} {its : Its} (h : RowX w s v its) : ∀ k ∈ own v, k < w.heap.size := by obtain ⟨cs, _, h⟩ := h; exact own_lt h
theorem RowX.only {w w' : World} {s : Nat} {v : Value} {its : Its} (h : RowX w s v its) (ho : Only [] w w') : RowX w' s v its := by
  obtain ⟨cs, h1, h2⟩ := h
  refine ⟨cs, (h1.weak (mask_keep fun b hb hlt => ⟨hb, ho.block b hlt (by simp)⟩)).mono ho.size, own_only h2 ho (by simp)⟩
theorem RowX.rd {w : World} {s : Nat} {A : Option Addr} {n c : Nat} {its : Its} (h : RowX w s (.slice A n c) its) : ItsRd (mask w (fr s)) w.heap.size A its := by
  obtain ⟨cs, h1, h2⟩ := h
  intro hp
  rcases h2.2 with ⟨hv, h0⟩ | ⟨g, cap, cur, hv, hsg, hg, hnc, _, hcs, htake⟩
  · omega
  · injection hv with hA _ _
    subst hA
    have hlt := (Array.getElem?_eq_some_iff.1 hg).1
    have hgm : (mask w (fr s)).heap[g]? = some (.cells cur 42 (0, 0)) := (mask_at (by simp [fr]; exact hsg)).trans hg
    refine ⟨g, 0, rfl, hlt, (h1.weak (mask_keep fun b hb hl => ⟨by simp [frx, fr] at hb ⊢; exact hb.1, rfl⟩)).at_ fun j u hj => ?_⟩
    rw [Nat.zero_add, cell_of_row _ g j cur 42 (0, 0) hgm]
    rw [← htake] at hj
    rw [List.getElem?_take] at hj
    split at hj
    · simpa using hj
    · cases hj
theorem RowX.lit (w : World) : RowX (w.alloc (.cells #[] 42)) w.heap.size (.slice (some ⟨w.heap.size, 0, none⟩) 0 0) .nil :=
  ⟨[], rfl, World.ownsRow_lit w #[] 0 (Nat.le_refl _) (by unfold maxLen; omega) rfl⟩
/-- One step more, at the operation: its cells lie at an address. -/
theorem wpList_rowX {ops : Array Oper} {rest : List Oper} {o : Oper} {a : Act} {w : World} {Q : Exit → Act → World → Prop} (hgd : o.guard = none) (x y : Operand)
    (ho : o.op = .call { callee := .builtin .append, args := #[x, y], argTypes := #[22, 22] }) (s : Nat) (v : Value) (i1 i2 : Its) (b off n c : Nat)
    (hx : a.eval x = v) (hy : a.eval y = .slice (some ⟨b, off, none⟩) n c) (hr : RowX w s v i1) (cs : List Value) (h2 : ItsCells (mask w (frx s v)) w.heap.size i2 cs) (hcs : ∀ j u, cs[j]? = some u → w.cell? ⟨b, off + j, none⟩ = some u) (hn : n = i2.len) (hb : s ≤ w.heap.size) (hl : i1.len + i2.len ≤ 1000000000000)
    (h : ∀ v' w1, RowX w1 s v' (i1.app i2) → Only (own v) w w1 → (∀ k ∈ own v', k ∈ own v ∨ w.heap.size ≤ k) → wpList Try.prog ops Q rest (a.put o.dst v') w1) :
    wpList Try.prog ops Q (o :: rest) a w := by
  subst hn
  obtain ⟨i0, hi, hz0, hz1, hz2⟩ := info_parts item_info
  obtain ⟨c1, g1, hown⟩ := hr
  have hcs' : ∀ j u, cs[j]? = some u → w.cell? ((⟨b, off, none⟩ : Addr).add j) = some u := fun j u hj => by
    have hp : (⟨b, off, none⟩ : Addr).add j = ⟨b, off + j, none⟩ := by unfold Addr.add; split <;> simp_all
    rw [hp]
    exact hcs j u hj
  refine wpList_append_own_at w hgd x y 22 ho s 42 i0 _ 6 96 Try.underlying22 hi hz0 hz1 hz2 rfl (by decide) v i1.len c1 hx hown ⟨b, off, none⟩ i2.len c cs hy h2.len hcs' h2.one (by unfold maxLen; omega) (by omega) hb ?_
  intro v' w1 hown' hg _ hat
  have hon : Only (own v) w w1 := Only.grown hg (fun k hk _ => by simp [own, hk])
  have hsub : ∀ k ∈ own v', k ∈ own v ∨ w.heap.size ≤ k := fun k hk => by
    rcases hat with e | e
    · left; simp only [own, e] at hk ⊢; exact hk
    · right; simp [own, e] at hk; omega
  have hkeep := mask_keep (w := w) (w' := w1) (P := frx s v) (P' := frx s v') fun k hk hlt => by
    simp only [frx, decide_eq_true_eq] at hk ⊢
    refine ⟨⟨hk.1, fun hm => ?_⟩, hon.block k hlt hk.2⟩
    rcases hsub k hm with h | h
    · exact hk.2 h
    · omega
  exact h v' w1 ⟨c1 ++ cs, ((h2.weak hkeep).mono hon.size).append ((g1.weak hkeep).mono hon.size), by rw [app_len]; exact hown'⟩ hon hsub

end Go.Proofs.Ytndnglpehghmeaa

/-! ### The reader of elements within elements: contract. -/
namespace Go.Proofs.Ytndnglpehghmeaa
open Go.RowKit
set_option linter.unusedVariables false

/-- What the reader makes. -/
def RtP (w : World) (its : Its) (e : Ending) (w' : World) : Prop :=
  ∃ A' c', e = .returned (.tuple #[.slice A' its.len c', .bool true]) ∧ its.len ≤ c' ∧ c' ≤ maxLen ∧ ItsRd (mask w' (fr w.heap.size)) w'.heap.size A' its ∧ Only [] w w'
def RtOK (its : Its) : Prop := ∀ (dp : Int) (ins : Bool) (A : Option Addr) (n c : Nat) (w : World) (B : Nat), Rd w B A (encT its) → n = (encT its).length → n ≤ 4194304 → B ≤ w.heap.size → Tr its → Dp its dp → 0 ≤ dp → dp ≤ 1000 → Ok its ins →
  Calls Try.prog 6 #[.slice A n c, .int .i64 dp] w (RtP w its)
theorem enc_len : ∀ {its : Its}, Tr its → its.len ≤ (encT its).length := by
  intro its
  induction its with
  | nil => intro _; exact Nat.le_refl _
  | cons k n t d o kids rest _ ih =>
    rintro ⟨⟨rfl, _⟩, _, _, _, hr⟩
    have h1 := ih hr
    have h2 := wrapped_pos t (encT kids)
    simp only [Its.len, encT, List.length_append]
    rw [if_neg (by decide)]
    omega
theorem app_snoc (a b : Its) (k n t : Int) (d o : List Int) (kids : Its) : (a.app (.cons k n t d o kids .nil)).app b = a.app (.cons k n t d o kids b) := by
  induction a with
  | nil => rfl
  | cons k n t d o kids rest _ ih => simp only [Its.app, ih]
theorem app_nil (a : Its) : a.app .nil = a := by
  induction a with
  | nil => rfl
  | cons k n t d o kids rest _ ih => simp only [Its.app, ih]
theorem Rd.away {w w' : World} {B : Nat} {A : Option Addr} {xs : List Int} {l : List Nat} (h : Rd w B A xs) (ho : Only l w w') (hB : B ≤ w.heap.size) (hA : 0 < xs.length → ∀ p, A = some p → p.block ∉ l) : Rd w' w'.heap.size A xs :=
  ⟨h.1, fun hn => by
    obtain ⟨b, off, e, hb, hc⟩ := h.2 hn
    have hlt : b < w.heap.size := Nat.lt_of_lt_of_le hb hB
    exact ⟨b, off, e, Nat.lt_of_lt_of_le hlt ho.size, fun i hi => (ho.cell (p := ⟨b, off + i, none⟩) hlt (by have := hA hn ⟨b, off, none⟩ e; exact this)).trans (hc i hi)⟩⟩
def sliceLen : Value → Nat
  | .slice _ n _ => n
  | _ => 0
/-- How the loop's state is held. -/
def RtAt (w : World) (its : Its) (ins : Bool) (dp : Int) (A : Option Addr) (n : Nat) (v : Value) (i1 i2 : Its) (W : World) : Prop :=
  i1.app i2 = its ∧ Rd W W.heap.size A (encT i2) ∧ n = (encT i2).length ∧ (0 < n → ∀ p, A = some p → p.block ∉ own v) ∧ RowX W w.heap.size v i1 ∧ Kids RtOK i2 ∧ Tr i2 ∧ Dp i2 dp ∧ Ok i2 ins ∧ n ≤ 4194304 ∧ i1.len + i2.len ≤ 4194304 ∧ Only [] w W
theorem RtAt.done {w : World} {its : Its} {ins : Bool} {dp : Int} {A : Option Addr} {n : Nat} {v : Value} {i1 : Its} {W : World} (h : RtAt w its ins dp A n v i1 .nil W) : ∃ A' c', v = .slice A' its.len c' ∧ its.len ≤ c' ∧ c' ≤ maxLen ∧ ItsRd (mask W (fr w.heap.size)) W.heap.size A' its ∧ Only [] w W := by
  obtain ⟨h1, _, _, _, hr, _, _, _, _, _, _, ho⟩ := h
  rw [app_nil] at h1
  subst h1
  obtain ⟨A', c', rfl, h2, h3, _⟩ := hr.form
  exact ⟨A', c', rfl, h2, h3, hr.rd, ho⟩
/-- One element more. -/
theorem RtAt.next {w : World} {its : Its} {ins : Bool} {dp : Int} {A : Option Addr} {n : Nat} {v : Value} {i1 : Its} {k i t : Int} {d o : List Int} {kids rest : Its} {W w1 wd w9 : World} {Ar : Option Addr} {v' : Value}
    (h : RtAt w its ins dp A n v i1 (.cons k i t d o kids rest) W) (h1 : Only [] W w1) (hr : Rd w1 w1.heap.size Ar (encT rest)) (hf : ∀ p, Ar = some p → W.heap.size ≤ p.block) (h2 : Only [] w1 wd)
    (hx : RowX w9 w.heap.size v' (i1.app (.cons k i t d o kids .nil))) (h9 : Only (own v) wd w9) (hsub : ∀ q ∈ own v', q ∈ own v ∨ wd.heap.size ≤ q) :
    RtAt w its ins dp Ar (encT rest).length v' (i1.app (.cons k i t d o kids .nil)) rest w9 ∧ (encT rest).length < n := by
  obtain ⟨e1, e2, e3, e4, e5, e6, e7, e8, e9, e10, e11, e12⟩ := h
  have hlow := e5.low
  have hlt := e5.lt
  have hwd := h1.trans h2
  have hk : k = 11 := e7.1.1
  subst hk
  have hpos := wrapped_pos t (encT kids)
  have hlen : (encT (.cons 11 i t d o kids rest)).length = (wrapped t (encT kids)).length + (encT rest).length := by simp [encT]
  have hnot : 0 < (encT rest).length → ∀ p, Ar = some p → p.block ∉ own v := fun _ p hp hm => by
    have := hf p hp
    have := hlt _ hm
    omega
  refine ⟨⟨by rw [app_snoc]; exact e1, ?_, rfl, ?_, hx, e6.2, e7.2.2.2.2, e8.2.2, e9.2.2.2.2.2.2.2, by omega, ?_, ?_⟩, by omega⟩
  · exact (hr.only h2 (by simp) (Nat.le_refl _)).away h9 h2.size hnot
  · intro hp p hpa hm
    obtain ⟨b, off, e, hb, _⟩ := hr.2 hp
    rcases hsub _ hm with h | h
    · exact hnot hp p hpa h
    · rw [hpa] at e
      replace e := Option.some.inj e
      subst e
      have := h2.size
      simp only at h
      omega
  · rw [app_len] at *
    simp only [Its.len] at e11 ⊢
    omega
  · exact (e12.trans hwd).then h9 (fun q hq hl => by have := hlow q hq; omega)

theorem Rd.masked {w1 W : World} {B : Nat} {A : Option Addr} {xs : List Int} {P : Nat → Bool} (h : Rd w1 B A xs) (hB : B ≤ w1.heap.size) (ho : Only [] w1 W) (hP : 0 < xs.length → ∀ p, A = some p → P p.block = true) : Rd (mask W P) W.heap.size A xs :=
  ⟨h.1, fun hn => by
    obtain ⟨b, off, e, hb, hc⟩ := h.2 hn
    have hlt : b < w1.heap.size := Nat.lt_of_lt_of_le hb hB
    exact ⟨b, off, e, Nat.lt_of_lt_of_le hlt ho.size, fun i hi => (World.cell?_of_block (a := ⟨b, off + i, none⟩) ((mask_at (hP hn _ e)).trans (ho.block b hlt (by simp)))).trans (hc i hi)⟩⟩
theorem rt_leaf {W w1 : World} {s : Nat} {v : Value} {i1 : Its} {t : Int} {d' : List Int} {Ac : Option Addr} {lc cc : Nat} (hrow : RowX W s v i1) (h1 : Only [] W w1) (hs : s ≤ W.heap.size) (hrc : Rd w1 w1.heap.size Ac d') (hfc : ∀ p, Ac = some p → W.heap.size ≤ p.block) (hcc : lc ≤ cc ∧ cc ≤ maxLen) (hl : d'.length = lc) (ht : 0 ≤ t ∧ t ≤ 255) :
    RowX (((w1.alloc (.cells #[.int .i64 11, .int .i64 0, .int .i64 t, .slice none 0 0, .slice none 0 0, .slice (some ⟨w1.heap.size + 1, 0, none⟩) 1 1] 42)).alloc (.cells #[.int .i64 6, .int .i64 0, .int .i64 0, .slice Ac lc cc, .slice none 0 0, .slice none 0 0] 42)).alloc (.cells #[.int .i64 11, .int .i64 0, .int .i64 t, .slice none 0 0, .slice none 0 0, .slice (some ⟨w1.heap.size + 1, 0, none⟩) 1 1] 42)) s v i1 ∧ ItsCells (mask (((w1.alloc (.cells #[.int .i64 11, .int .i64 0, .int .i64 t, .slice none 0 0, .slice none 0 0, .slice (some ⟨w1.heap.size + 1, 0, none⟩) 1 1] 42)).alloc (.cells #[.int .i64 6, .int .i64 0, .int .i64 0, .slice Ac lc cc, .slice none 0 0, .slice none 0 0] 42)).alloc (.cells #[.int .i64 11, .int .i64 0, .int .i64 t, .slice none 0 0, .slice none 0 0, .slice (some ⟨w1.heap.size + 1, 0, none⟩) 1 1] 42)) (frx s v)) (((w1.alloc (.cells #[.int .i64 11, .int .i64 0, .int .i64 t, .slice none 0 0, .slice none 0 0, .slice (some ⟨w1.heap.size + 1, 0, none⟩) 1 1] 42)).alloc (.cells #[.int .i64 6, .int .i64 0, .int .i64 0, .slice Ac lc cc, .slice none 0 0, .slice none 0 0] 42)).alloc (.cells #[.int .i64 11, .int .i64 0, .int .i64 t, .slice none 0 0, .slice none 0 0, .slice (some ⟨w1.heap.size + 1, 0, none⟩) 1 1] 42)).heap.size (.cons 11 0 t [] [] (.cons 6 0 0 d' [] .nil .nil) .nil) [.int .i64 11, .int .i64 0, .int .i64 t, .slice none 0 0, .slice none 0 0, .slice (some ⟨w1.heap.size + 1, 0, none⟩) 1 1] ∧ (∀ (j : Nat) (u : Value), ([.int .i64 11, .int .i64 0, .int .i64 t, .slice none 0 0, .slice none 0 0, .slice (some ⟨w1.heap.size + 1, 0, none⟩) 1 1] : List Value)[j]? = some u → (((w1.alloc (.cells #[.int .i64 11, .int .i64 0, .int .i64 t, .slice none 0 0, .slice none 0 0, .slice (some ⟨w1.heap.size + 1, 0, none⟩) 1 1] 42)).alloc (.cells #[.int .i64 6, .int .i64 0, .int .i64 0, .slice Ac lc cc, .slice none 0 0, .slice none 0 0] 42)).alloc (.cells #[.int .i64 11, .int .i64 0, .int .i64 t, .slice none 0 0, .slice none 0 0, .slice (some ⟨w1.heap.size + 1, 0, none⟩) 1 1] 42)).cell? ⟨w1.heap.size + 1 + 1, 0 + j, none⟩ = some u) ∧ Only [] w1 (((w1.alloc (.cells #[.int .i64 11, .int .i64 0, .int .i64 t, .slice none 0 0, .slice none 0 0, .slice (some ⟨w1.heap.size + 1, 0, none⟩) 1 1] 42)).alloc (.cells #[.int .i64 6, .int .i64 0, .int .i64 0, .slice Ac lc cc, .slice none 0 0, .slice none 0 0] 42)).alloc (.cells #[.int .i64 11, .int .i64 0, .int .i64 t, .slice none 0 0, .slice none 0 0, .slice (some ⟨w1.heap.size + 1, 0, none⟩) 1 1] 42)) := by
  obtain ⟨WD, hWD⟩ : ∃ WD, (((w1.alloc (.cells #[.int .i64 11, .int .i64 0, .int .i64 t, .slice none 0 0, .slice none 0 0, .slice (some ⟨w1.heap.size + 1, 0, none⟩) 1 1] 42)).alloc (.cells #[.int .i64 6, .int .i64 0, .int .i64 0, .slice Ac lc cc, .slice none 0 0, .slice none 0 0] 42)).alloc (.cells #[.int .i64 11, .int .i64 0, .int .i64 t, .slice none 0 0, .slice none 0 0, .slice (some ⟨w1.heap.size + 1, 0, none⟩) 1 1] 42)) = WD := ⟨_, rfl⟩
  have ho : Only [] w1 WD := by rw [← hWD]; exact (((Only.refl _ _).alloc _).alloc _).alloc _
  have hkb : WD.heap[w1.heap.size + 1]? = some ((.cells #[.int .i64 6, .int .i64 0, .int .i64 0, .slice Ac lc cc, .slice none 0 0, .slice none 0 0] 42)) := by
    rw [← hWD]
    have h := heap_alloc_new (w1.alloc (.cells #[.int .i64 11, .int .i64 0, .int .i64 t, .slice none 0 0, .slice none 0 0, .slice (some ⟨w1.heap.size + 1, 0, none⟩) 1 1] 42)) (.cells #[.int .i64 6, .int .i64 0, .int .i64 0, .slice Ac lc cc, .slice none 0 0, .slice none 0 0] 42)
    rw [show (w1.alloc (.cells #[.int .i64 11, .int .i64 0, .int .i64 t, .slice none 0 0, .slice none 0 0, .slice (some ⟨w1.heap.size + 1, 0, none⟩) 1 1] 42)).heap.size = w1.heap.size + 1 by simp] at h
    exact (Below.heap_alloc _ _ _ (by simp)).trans h
  have hyb : WD.heap[w1.heap.size + 1 + 1]? = some (.cells #[.int .i64 11, .int .i64 0, .int .i64 t, .slice none 0 0, .slice none 0 0, .slice (some ⟨w1.heap.size + 1, 0, none⟩) 1 1] 42) := by
    rw [← hWD]
    have h := heap_alloc_new ((w1.alloc (.cells #[.int .i64 11, .int .i64 0, .int .i64 t, .slice none 0 0, .slice none 0 0, .slice (some ⟨w1.heap.size + 1, 0, none⟩) 1 1] 42)).alloc (.cells #[.int .i64 6, .int .i64 0, .int .i64 0, .slice Ac lc cc, .slice none 0 0, .slice none 0 0] 42)) (.cells #[.int .i64 11, .int .i64 0, .int .i64 t, .slice none 0 0, .slice none 0 0, .slice (some ⟨w1.heap.size + 1, 0, none⟩) 1 1] 42)
    rw [show ((w1.alloc (.cells #[.int .i64 11, .int .i64 0, .int .i64 t, .slice none 0 0, .slice none 0 0, .slice (some ⟨w1.heap.size + 1, 0, none⟩) 1 1] 42)).alloc (.cells #[.int .i64 6, .int .i64 0, .int .i64 0, .slice Ac lc cc, .slice none 0 0, .slice none 0 0] 42)).heap.size = w1.heap.size + 1 + 1 by simp] at h
    exact h
  have hsz : w1.heap.size + 3 ≤ WD.heap.size := by rw [← hWD]; simp
  rw [hWD]
  clear hWD
  subst hl
  have hlt := hrow.lt
  have hW := h1.size
  have hPk : ∀ b, W.heap.size ≤ b → frx s v b = true := fun b hb => by
    simp only [frx, decide_eq_true_eq]
    exact ⟨by omega, fun hm => by have := hlt b hm; omega⟩
  refine ⟨hrow.only (h1.trans ho), ?_, ?_, ho⟩
  · have hrd : Rd (mask WD (frx s v)) WD.heap.size Ac d' := hrc.masked (Nat.le_refl _) ho fun _ p hp => hPk _ (hfc p hp)
    have hin : ItsCells (mask WD (frx s v)) WD.heap.size (.cons 6 0 0 d' [] .nil .nil) [.int .i64 6, .int .i64 0, .int .i64 0, .slice Ac d'.length cc, .slice none 0 0, .slice none 0 0] :=
      ⟨Ac, cc, none, 0, none, 0, [], rfl, ⟨by decide, by decide⟩, ⟨by decide, by decide⟩, ⟨by decide, by decide⟩, hrd, hcc.1, hcc.2, RdI.nil _ _ _, Nat.le_refl _, Nat.zero_le _, Nat.le_refl _, Nat.zero_le _, fun h => absurd h (by simp [Its.len]), rfl⟩
    have hkm := (mask_at (w := WD) (P := frx s v) (b := w1.heap.size + 1) (hPk _ (by omega))).trans hkb
    have hkr : ItsRd (mask WD (frx s v)) WD.heap.size (some ⟨w1.heap.size + 1, 0, none⟩) (.cons 6 0 0 d' [] .nil .nil) := fun _ => ⟨w1.heap.size + 1, 0, rfl, by omega, hin.at_ fun q u hq => by
      rw [Nat.zero_add, cell_of_row _ (w1.heap.size + 1) q _ _ _ hkm, ← Array.getElem?_toList]
      exact hq⟩
    exact ⟨none, 0, none, 0, some ⟨w1.heap.size + 1, 0, none⟩, 1, [], rfl, ⟨by decide, by decide⟩, ⟨by decide, by decide⟩, ⟨by omega, by omega⟩, Rd.nil _ _ _, Nat.le_refl _, Nat.zero_le _, RdI.nil _ _ _, Nat.le_refl _, Nat.zero_le _, Nat.le_refl _, by decide, hkr, rfl⟩
  · intro j u hj
    rw [Nat.zero_add, cell_of_row _ (w1.heap.size + 1 + 1) j _ _ _ hyb, ← Array.getElem?_toList]
    exact hj
theorem rt_node {W w1 w2 : World} {s : Nat} {v : Value} {i1 : Its} {t : Int} {kids : Its} {A2 : Option Addr} {lk c2 : Nat} (hrow : RowX W s v i1) (h1 : Only [] W w1) (hs : s ≤ W.heap.size) (h2 : Only [] (w1.alloc (.cells #[.int .i64 11, .int .i64 0, .int .i64 t, .slice none 0 0, .slice none 0 0, .slice none 0 0] 42)) w2) (hkr : ItsRd (mask w2 (fr (w1.alloc (.cells #[.int .i64 11, .int .i64 0, .int .i64 t, .slice none 0 0, .slice none 0 0, .slice none 0 0] 42)).heap.size)) w2.heap.size A2 kids) (hc : lk ≤ c2 ∧ c2 ≤ maxLen) (hl : kids.len = lk) (ht : 0 ≤ t ∧ t ≤ 255) :
    RowX ((w2.setCell ⟨w1.heap.size, 5, none⟩ (.slice A2 lk c2)).alloc (.cells #[.int .i64 11, .int .i64 0, .int .i64 t, .slice none 0 0, .slice none 0 0, .slice A2 lk c2] 42)) s v i1 ∧ ItsCells (mask ((w2.setCell ⟨w1.heap.size, 5, none⟩ (.slice A2 lk c2)).alloc (.cells #[.int .i64 11, .int .i64 0, .int .i64 t, .slice none 0 0, .slice none 0 0, .slice A2 lk c2] 42)) (frx s v)) ((w2.setCell ⟨w1.heap.size, 5, none⟩ (.slice A2 lk c2)).alloc (.cells #[.int .i64 11, .int .i64 0, .int .i64 t, .slice none 0 0, .slice none 0 0, .slice A2 lk c2] 42)).heap.size (.cons 11 0 t [] [] kids .nil) [.int .i64 11, .int .i64 0, .int .i64 t, .slice none 0 0, .slice none 0 0, .slice A2 lk c2] ∧ (∀ (j : Nat) (u : Value), ([.int .i64 11, .int .i64 0, .int .i64 t, .slice none 0 0, .slice none 0 0, .slice A2 lk c2] : List Value)[j]? = some u → ((w2.setCell ⟨w1.heap.size, 5, none⟩ (.slice A2 lk c2)).alloc (.cells #[.int .i64 11, .int .i64 0, .int .i64 t, .slice none 0 0, .slice none 0 0, .slice A2 lk c2] 42)).cell? ⟨w2.heap.size, 0 + j, none⟩ = some u) ∧ Only [] w1 ((w2.setCell ⟨w1.heap.size, 5, none⟩ (.slice A2 lk c2)).alloc (.cells #[.int .i64 11, .int .i64 0, .int .i64 t, .slice none 0 0, .slice none 0 0, .slice A2 lk c2] 42)) := by
  obtain ⟨WD, hWD⟩ : ∃ WD, ((w2.setCell ⟨w1.heap.size, 5, none⟩ (.slice A2 lk c2)).alloc (.cells #[.int .i64 11, .int .i64 0, .int .i64 t, .slice none 0 0, .slice none 0 0, .slice A2 lk c2] 42)) = WD := ⟨_, rfl⟩
  have h12 : Only [] w1 w2 := ((Only.refl _ _).alloc _).trans h2
  have ho : Only [] w1 WD := by rw [← hWD]; exact (h12.setCell (.inr (Nat.le_refl _)) _).alloc _
  have ho2 : ∀ b, b < w2.heap.size → b ≠ w1.heap.size → WD.heap[b]? = w2.heap[b]? := fun b hb hne => by
    rw [← hWD]
    exact (Below.heap_alloc _ _ _ (by simpa [World.setCell] using hb)).trans (Below.heap_setCell w2 _ _ b hne)
  have hyb : WD.heap[w2.heap.size]? = some (.cells #[.int .i64 11, .int .i64 0, .int .i64 t, .slice none 0 0, .slice none 0 0, .slice A2 lk c2] 42) := by
    rw [← hWD]
    have h := heap_alloc_new (w2.setCell ⟨w1.heap.size, 5, none⟩ (.slice A2 lk c2)) (.cells #[.int .i64 11, .int .i64 0, .int .i64 t, .slice none 0 0, .slice none 0 0, .slice A2 lk c2] 42)
    rw [show (w2.setCell ⟨w1.heap.size, 5, none⟩ (.slice A2 lk c2)).heap.size = w2.heap.size by simp [World.setCell]] at h
    exact h
  have hsz : w2.heap.size ≤ WD.heap.size := by rw [← hWD]; simp [World.setCell]
  rw [hWD]
  clear hWD
  subst hl
  have hlt := hrow.lt
  have hW := h1.size
  have hsx : (w1.alloc (.cells #[.int .i64 11, .int .i64 0, .int .i64 t, .slice none 0 0, .slice none 0 0, .slice none 0 0] 42)).heap.size = w1.heap.size + 1 := by simp
  rw [hsx] at hkr
  refine ⟨hrow.only (h1.trans ho), ?_, ?_, ho⟩
  · have hkr' : ItsRd (mask WD (frx s v)) WD.heap.size A2 kids := (hkr.weak (mask_keep fun b hb hl => by
      simp only [fr, frx, decide_eq_true_eq] at hb ⊢
      exact ⟨⟨by omega, fun hm => by have := hlt b hm; omega⟩, ho2 b hl (by omega)⟩)).mono hsz
    exact ⟨none, 0, none, 0, A2, c2, [], rfl, ⟨by decide, by decide⟩, ⟨by decide, by decide⟩, ⟨by omega, by omega⟩, Rd.nil _ _ _, Nat.le_refl _, Nat.zero_le _, RdI.nil _ _ _, Nat.le_refl _, Nat.zero_le _, hc.1, hc.2, hkr', rfl⟩
  · intro j u hj
    rw [Nat.zero_add, cell_of_row _ w2.heap.size j _ _ _ hyb, ← Array.getElem?_toList]
    exact hj

set_option maxRecDepth 100000 in
set_option maxHeartbeats 4000000 in
theorem rt_ok (its : Its) (hall : Kids RtOK its) : RtOK its := by
  intro dp ins A n c w B hx hn hn1 hB htr hdp hd0 hd1 hok
  have H1 : Hid (RtAt w its ins dp A n (.slice (some ⟨w.heap.size, 0, none⟩) 0 0) .nil its (w.alloc (.cells #[] 42))) := Lib.hid ⟨rfl, (hx.alloc hB _).more (by simp; omega), hn, (fun hp p hpa hm => by
    obtain ⟨b, off, e, hb, _⟩ := hx.2 (by omega)
    rw [hpa] at e
    replace e := Option.some.inj e
    subst e
    simp [own, Value.ownBlock] at hm
    omega), RowX.lit w, hall, htr, hdp, hok, hn1, by have := enc_len htr; simp only [Its.len]; omega, (Only.refl _ _).alloc _⟩
  have HD := Lib.hid (And.intro hd0 hd1)
  clear hx hn hn1 hB htr hdp hok hall hd0 hd1
  go_enter Try.func6, Try.ntmps6
  go_wp2_with fail
  go_loopw [0, 6] (fun x y W => ∃ (A : Option Addr) (n c : Nat) (i1 i2 : Its), x = .slice A n c ∧ RtAt w its ins dp A n y i1 i2 W) (fun x _ _ => sliceLen x)
  case atStart => exact ⟨A, n, c, .nil, its, rfl, H1.out⟩
  case round =>
    obtain ⟨A, n, c, i1, i2, rfl, hst⟩ := hrel
    clear H1
    cases i2 with
    | nil =>
      have hn0 : n = 0 := hst.2.2.1
      subst hn0
      obtain ⟨A', c', rfl, hq⟩ := hst.done
      have HQ := Lib.hid hq
      clear hst hq
      obtain ⟨ln, hln⟩ : ∃ ln, its.len = ln := ⟨_, rfl⟩
      rw [hln]
      have HL := Lib.hid hln
      clear hln
      go_wp2_with fail
      go_ret2
      exact ⟨A', c', by rw [HL.out]; rfl, HQ.out⟩
    | cons k i t d o kids rest =>
      have HST := Lib.hid hst
      obtain ⟨_, hrd, hn, _, hrow, hall, htr, hdp, hok, hnb, hlb, ho⟩ := hst
      obtain ⟨⟨rfl, rfl, rfl, rfl⟩, h31, hk1, hk0, _⟩ := htr
      obtain ⟨hdz, hdk, _⟩ := hdp
      obtain ⟨_, _, o3, o4, _, _, o7, _⟩ := hok
      have henc : encT (.cons 11 0 t [] [] kids rest) = wrapped t (encT kids) ++ encT rest := rfl
      rw [henc] at hrd hn
      have hwl : (wrapped t (encT kids)).length = (hdr t (encT kids).length).length + (encT kids).length := by unfold wrapped; rw [List.length_append]
      have hlen : n = (hdr t (encT kids).length).length + (encT kids).length + (encT rest).length := by rw [hn, List.length_append, hwl]
      have hpos : 0 < n := by have := wrapped_pos t (encT kids); omega
      have F := first_tree (t := t) (c := encT kids) (r := encT rest) h31 (by omega)
      have HC := ImReadAny_ok A n c _ wr wr.heap.size hrd hn (by omega) t _ _ F.1
      rw [F.2.1, F.2.2] at HC
      have HRA := Lib.hid HC
      have hh := and32 t o3 o4
      have HG := Lib.hid hrow
      have HOW := Lib.hid ho
      have HK : Hid (∀ (A : Option Addr) (c : Nat) (W : World) (B : Nat), Rd W B A (encT kids) → B ≤ W.heap.size → t / 32 % 2 = 1 → Calls Try.prog 6 #[.slice A (encT kids).length c, .int .i64 (dp - 1)] W (RtP W kids)) := Lib.hid (fun A c W B h1 h2 h3 => hall.1 (dp - 1) _ A _ c W B h1 rfl (by omega) h2 (hk1 h3) hdk (by have := HD.out; omega) (by have := HD.out; omega) o7)
      have HKL : Hid (kids.len ≤ 4194304 ∧ i1.len + 1 ≤ 4194304) := Lib.hid (by
        have h2 : kids.len ≤ 4194304 := by
          rcases Int.emod_two_eq (t / 32) with h | h
          · obtain ⟨d', rfl⟩ := hk0 h
            simp [Its.len]
          · have := enc_len (hk1 h)
            omega
        simp only [Its.len] at hlb
        omega)
      have HK0 := Lib.hid hk0
      have hdp1 : wrap64 (dp - 1) = dp - 1 := by have := HD.out; unfold wrap64; omega
      have HT := Lib.hid (And.intro o3 o4)
      have hposI : (0 : Int) < (n : Int) := by omega
      clear hrd hn hrow hall h31 hk1 hk0 hdk o7 henc hwl hlen F HC hnb hlb ho
      obtain ⟨lc, hlc⟩ : ∃ lc, (encT kids).length = lc := ⟨_, rfl⟩
      obtain ⟨lr, hlr⟩ : ∃ lr, (encT rest).length = lr := ⟨_, rfl⟩
      go_wp2_with fail
      refine HRA.out.mono ?_
      rintro e w1 ⟨Ac, cc, Ar, cr, rfl, hrc, hrr, hk, hcc, hcr, hfc, hfr⟩
      rw [hlc, hlr]
      have HRC := Lib.hid hrc
      have HRR := Lib.hid hrr
      have HW1 := Lib.hid hk
      have HCC := Lib.hid hcc
      have HFC := Lib.hid hfc
      have HFR := Lib.hid hfr
      have HLC := Lib.hid (And.intro hlc hlr)
      clear hrc hrr hk hcc hcr hfc hfr hlc hlr HRA
      by_cases cb : t / 32 % 2 = 1
      · have h32 : bits .and .i64 t 32 = 32 := by rw [hh, cb]; rfl
        clear hh
        have HCB := Lib.hid cb
        clear cb
        have HKC := HK.out Ac cc (w1.alloc (.cells #[.int .i64 11, .int .i64 0, .int .i64 t, .slice none 0 0, .slice none 0 0, .slice none 0 0] 42)) w1.heap.size (HRC.out.alloc (Nat.le_refl _) _) (by simp) HCB.out
        rw [HLC.out.1] at HKC
        have HKC := Lib.hid HKC
        go_wp2_with fail
        refine HKC.out.mono ?_
        rintro e w2 ⟨A2, c2, rfl, q1, q2, q3, q4⟩
        have hxb : w2.heap[w1.heap.size]? = some (.cells #[.int .i64 11, .int .i64 0, .int .i64 t, .slice none 0 0, .slice none 0 0, .slice none 0 0] 42) := (q4.block _ (by simp) (by simp)).trans (heap_alloc_new w1 _)
        have x0 : w2.cell? ⟨w1.heap.size, 0, none⟩ = some (.int .i64 11) := cell_of_row w2 w1.heap.size 0 _ _ _ hxb
        have x1 : w2.cell? ⟨w1.heap.size, 1, none⟩ = some (.int .i64 0) := cell_of_row w2 w1.heap.size 1 _ _ _ hxb
        have x2 : w2.cell? ⟨w1.heap.size, 2, none⟩ = some (.int .i64 t) := cell_of_row w2 w1.heap.size 2 _ _ _ hxb
        have x3 : w2.cell? ⟨w1.heap.size, 3, none⟩ = some (.slice none 0 0) := cell_of_row w2 w1.heap.size 3 _ _ _ hxb
        have x4 : w2.cell? ⟨w1.heap.size, 4, none⟩ = some (.slice none 0 0) := cell_of_row w2 w1.heap.size 4 _ _ _ hxb
        have x5 : w2.cell? ⟨w1.heap.size, 5, none⟩ = some (.slice none 0 0) := cell_of_row w2 w1.heap.size 5 _ _ _ hxb
        have f5 : w2.frozen? ⟨w1.heap.size, 5, none⟩ = false := frozen_of_row w2 w1.heap.size 5 _ _ hxb
        obtain ⟨lk, hlk⟩ : ∃ lk, kids.len = lk := ⟨_, rfl⟩
        have HRT := Lib.hid (rt_node (t := t) HG.out HW1.out HOW.out.size q4 q3 ⟨by rw [← hlk]; exact q1, q2⟩ hlk HT.out)
        rw [hlk]
        have HLK := Lib.hid hlk
        clear hxb q1 q2 q3 q4 hlk HKC HK
        go_wp2_with (at_builtin; refine wpList_rowX rfl _ _ rfl w.heap.size u6 i1 (.cons 11 0 t [] [] kids .nil) w2.heap.size 0 1 1 rfl rfl HRT.out.1 _ HRT.out.2.1 HRT.out.2.2.1 rfl ?c1 ?c2 ?_)
        case c1 => have := HOW.out.size; have := HW1.out.size; have := HRT.out.2.2.2.size; simp at this ⊢; omega
        case c2 => have := HKL.out.2; simp only [Its.len]; omega
        intro v' w9 hr9 hk9 hsub
        have HN := Lib.hid (HST.out.next HW1.out HRR.out HFR.out HRT.out.2.2.2 hr9 hk9 (fun q hq => (hsub q hq).imp id (fun h => by simpa [World.setCell] using h)))
        rw [HLC.out.2] at HN
        clear hr9 hk9 hsub HRT HG HST HRR HFR x0 x1 x2 x3 x4 x5 f5 h32
        go_wp2_with fail
        go_roundw
        case rel => exact ⟨Ar, lr, cr, _, rest, rfl, HN.out.1⟩
        case measure => exact HN.out.2
      · have cz : t / 32 % 2 = 0 := by omega
        have h32 : bits .and .i64 t 32 = 0 := by rw [hh, cz]; rfl
        clear hh
        obtain ⟨d', hkd⟩ := HK0.out cz
        subst hkd
        have hed : encT (.cons 6 0 0 d' [] .nil .nil) = d' := by simp [encT]
        have hlcd : d'.length = lc := by rw [← HLC.out.1, hed]
        have HRT := Lib.hid (rt_leaf (t := t) HG.out HW1.out HOW.out.size (hed ▸ HRC.out) HFC.out (by rw [← HLC.out.1]; exact HCC.out) hlcd HT.out)
        clear hed hlcd cz cb
        go_wp2_with (at_builtin; refine wpList_rowX rfl _ _ rfl w.heap.size u6 i1 (.cons 11 0 t [] [] (.cons 6 0 0 d' [] .nil .nil) .nil) (w1.heap.size + 1 + 1) 0 1 1 rfl rfl HRT.out.1 _ HRT.out.2.1 HRT.out.2.2.1 rfl ?d1 ?d2 ?_)
        case d1 => have := HOW.out.size; have := HW1.out.size; simp; omega
        case d2 => have := HKL.out.2; simp only [Its.len]; omega
        intro v' w9 hr9 hk9 hsub
        have HN := Lib.hid (HST.out.next HW1.out HRR.out HFR.out HRT.out.2.2.2 hr9 hk9 (fun q hq => (hsub q hq).imp id (fun h => by simpa [World.setCell] using h)))
        rw [HLC.out.2] at HN
        clear hr9 hk9 hsub HRT HG HST HRR HFR h32 HK
        go_wp2_with fail
        go_roundw
        case rel => exact ⟨Ar, lr, cr, _, rest, rfl, HN.out.1⟩
        case measure => exact HN.out.2
theorem rt_all (its : Its) : RtOK its := by
  suffices h : RtOK its ∧ Kids RtOK its from h.1
  induction its with
  | nil => exact ⟨rt_ok _ trivial, trivial⟩
  | cons k n t d o kids rest ihk ihr => exact ⟨rt_ok _ ⟨ihk.1, ihr.2⟩, ihk.1, ihr.2⟩

end Go.Proofs.Ytndnglpehghmeaa

/-! ### The law on elements within elements: walk. -/
namespace Go.Proofs.Ytndnglpehghmeaa
open Go.RowKit
set_option linter.unusedVariables false

theorem Only.bel {w w' : World} (h : Only [] w w') : Below w.heap.size w w' := h.below (by simp) (Nat.le_refl _)
theorem tree_any (its : Its) (A : Option Addr) (n c : Nat) (w : World) (B : Nat) (hi : ItsRd w B A its) (hn : n = its.len) (hn1 : n ≤ 140737488355328) (hB : B ≤ w.heap.size) (hs : Sz its) :
    Calls Try.prog 4 #[.slice A n c] w (Tells w fun r => r = true → (Fine its ∧ Dp its 12) ∧ Tr its) := by
  have H1 := Lib.hid (specRight_dp its A n c w B hi hn hn1 hB hs)
  have H2 := Lib.hid (fun (W : World) (ho : Only [] w W) (hf : Fine its) => trees_all its false A n c W B (hi.only ho (by simp) hB) hn hn1 (Nat.le_trans hB ho.size) hs hf.2.2.1)
  clear hi hn hn1 hB hs
  go_enter Try.func4, Try.ntmps4
  go_wp2_with fail
  refine H1.out.mono ?_
  rintro e w1 ⟨r, rfl, hr, hk1⟩
  have HK1 := Lib.hid hk1
  have HR := Lib.hid hr
  clear hk1 hr H1
  cases r with
  | false =>
    go_wp2_with fail
    go_ret
    exact ⟨false, rfl, (by intro h; cases h), HK1.out⟩
  | true =>
    have HC := Lib.hid (H2.out w1 HK1.out (HR.out rfl).1)
    clear H2
    go_wp2_with fail
    refine HC.out.mono ?_
    rintro e w2 ⟨r, rfl, hr, hk2⟩
    have HK2 := Lib.hid (HK1.out.trans hk2)
    have HR2 := Lib.hid hr
    clear hk2 hr HC
    go_wp2_with fail
    go_ret
    exact ⟨r, rfl, (by intro h; exact ⟨HR.out (by simp), HR2.out h⟩), HK2.out⟩

theorem law_FnTree (its : Its) (A : Option Addr) (n c : Nat) (w : World) (hi : ItsRd w w.heap.size A its) (hn : n = its.len) (hn1 : n ≤ 140737488355328) (hs : Sz its) (hrg : Rng its) :
    Calls Try.prog 3 #[.slice A n c] w fun e w' => e = .returned (.bool true) ∧ Below w.heap.size w w' := by
  by_cases hz : 2147483647 < n
  · clear hi hn hs
    go_enter Try.func3, Try.ntmps3
    go_wp2_with fail
    go_ret
    exact ⟨rfl, Below.refl _ _⟩
  have H1 := Lib.hid (tree_any its A n c w w.heap.size hi hn hn1 (Nat.le_refl _) hs)
  have H2 := Lib.hid (fun (W : World) (ho : Only [] w W) (hf : Fine its) (ht : Tr its) => build_any its A n c W w.heap.size (.good ([] ++ encT its)) (hi.only ho (by simp) (Nat.le_refl _)) hn ho.size hf.2.2.1 hrg (run_tree its ht false []) (by have := hf.wt; omega))
  have H3 := Lib.hid (fun (W : World) (A1 : Option Addr) (c1 : Nat) (hr : Rd W W.heap.size A1 (encT its)) (hf : Fine its) (ht : Tr its) (hd : Dp its 12) => rt_all its 12 false A1 (encT its).length c1 W W.heap.size hr rfl (by have := ht.len_le hrg hf.2.2.1; have := hf.wt; omega) (Nat.le_refl _) ht hd (by decide) (by decide) hf.2.2.1)
  have H4 := Lib.hid (fun (W : World) (ho : Only [] w W) (A2 : Option Addr) (c2 : Nat) (hr : ItsRd W W.heap.size A2 its) (ht : Tr its) => same_all its A A2 n its.len c c2 W W.heap.size ((hi.only ho (by simp) (Nat.le_refl _)).mono ho.size) hr hn rfl hn1 (Nat.le_refl _) hs ht.noArc)
  clear hi hn hs hrg hn1
  go_enter Try.func3, Try.ntmps3
  go_wp2_with fail
  refine H1.out.mono ?_
  rintro e w1 ⟨r, rfl, hr, hk1⟩
  have HK1 := Lib.hid hk1
  have HR := Lib.hid hr
  clear hk1 hr H1
  cases r with
  | false =>
    go_wp2_with fail
    go_ret
    exact ⟨rfl, HK1.out.bel⟩
  | true =>
    have HF := Lib.hid (HR.out rfl)
    have HC := Lib.hid (H2.out w1 HK1.out HF.out.1.1 HF.out.2)
    clear HR H2
    go_wp2_with fail
    refine HC.out.mono ?_
    rintro e w2 ⟨A1, c1, ys, ok, rfl, hrd, hk2, _, _, hp⟩
    obtain ⟨rfl, hys⟩ : ok = true ∧ ys = encT its := hp
    have hyl : ys.length = (encT its).length := by rw [hys]
    have HK2 := Lib.hid (HK1.out.trans hk2)
    have HC := Lib.hid (H3.out w2 A1 c1 (hys ▸ hrd) HF.out.1.1 HF.out.2 HF.out.1.2)
    rw [← hyl] at HC
    clear hrd hk2 hys hyl H3 HK1
    go_wp2_with fail
    refine HC.out.mono ?_
    rintro e w3 ⟨A2, c2, rfl, _, _, hit, hk3⟩
    have HK3 := Lib.hid (HK2.out.trans hk3)
    have HC := Lib.hid (H4.out w3 HK3.out A2 c2 (hit.weak fun _ _ _ h => (mask_sub h).2.2) HF.out.2)
    clear hit hk3 H4 HK2
    obtain ⟨li, hli⟩ : ∃ li, its.len = li := ⟨_, rfl⟩
    rw [hli] at HC ⊢
    clear hli
    go_wp2_with fail
    refine HC.out.mono ?_
    rintro e w4 ⟨rfl, m, hm⟩
    have HK4 : Hid (Only [] w w4) := Lib.hid (by rw [hm]; exact HK3.out.drewN m)
    clear hm HC
    go_wp2_with fail
    go_ret
    exact ⟨rfl, HK4.out.bel⟩

end Go.Proofs.Ytndnglpehghmeaa
