/- Words for memory that speak of no function: a variable's block, what a call leaves alone, a slice that reads as bytes. -/
import Derived.WalkKit
import Derived.WalkSpells
import Derived.WalkLawsBesides
import Derived.KernelRfl
import Derived.Below
import Derived.OneCell
import Derived.Laws.OwnMore
import Derived.Laws.BytesArg
import Derived.Deep.Draws
import Derived.Lib.Hide
namespace Go.Proofs.Ytlnoeipbbncnfaa
open Go.RowKit

/-! ### a variable of one cell -/
def Var (w : World) (b : Nat) (t : TypeId) (v : Value) : Prop := w.heap[b]? = some (.cells #[v] t (0, 0))
section
variable {w w' : World} {b : Nat} {t : TypeId} {v u : Value}
theorem Var.lt (h : Var w b t v) : b < w.heap.size := lt_of_block h
theorem Var.cell (h : Var w b t v) : w.cell? ⟨b, 0, none⟩ = some v := cell_of_one h
theorem Var.free (h : Var w b t v) : w.frozen? ⟨b, 0, none⟩ = false := free_of_one h
theorem Var.new (w : World) (t : TypeId) (v : Value) : Var (w.alloc (.cells #[v] t)) w.heap.size t v := heap_alloc_new w _
theorem Var.alloc (h : Var w b t v) (o : Obj) : Var (w.alloc o) b t v := (Below.heap_alloc w o b h.lt).trans h
theorem Var.drew (h : Var w b t v) : Var w.drew b t v := h
theorem Var.drewN (h : Var w b t v) (n : Nat) : Var (w.drewN n) b t v := h
theorem Var.set (h : Var w b t v) (u : Value) : Var (w.setCell ⟨b, 0, none⟩ u) b t u := one_setCell h
theorem Var.far (h : Var w b t v) {p : Addr} (hp : b ≠ p.block) (u : Value) : Var (w.setCell p u) b t v := (Below.heap_setCell w p u b hp).trans h
end

/-! ### what a call leaves alone: all that was there but the blocks of a list -/
structure Only (l : List Nat) (w w' : World) : Prop where
  os : w'.os = w.os
  tape : w'.tape = w.tape
  output : w'.output = w.output
  size : w.heap.size ≤ w'.heap.size
  block : ∀ k, k < w.heap.size → k ∉ l → w'.heap[k]? = w.heap[k]?

section
variable {l l' : List Nat} {a w w' : World}
theorem Only.refl (l : List Nat) (w : World) : Only l w w := ⟨rfl, rfl, rfl, Nat.le_refl _, fun _ _ _ => rfl⟩
theorem Only.trans (h : Only l a w) (k : Only l w w') : Only l a w' :=
  ⟨k.os.trans h.os, k.tape.trans h.tape, k.output.trans h.output, Nat.le_trans h.size k.size, fun i hi hl => (k.block i (Nat.lt_of_lt_of_le hi h.size) hl).trans (h.block i hi hl)⟩
theorem Only.more (h : Only l a w) (hl : ∀ k, k ∈ l → k < a.heap.size → k ∈ l') : Only l' a w :=
  ⟨h.os, h.tape, h.output, h.size, fun i hi hn => h.block i hi (fun hm => hn (hl i hm hi))⟩
theorem Only.alloc (h : Only l a w) (o : Obj) : Only l a (w.alloc o) :=
  h.trans ⟨rfl, rfl, rfl, by simp, fun k hk _ => Below.heap_alloc _ _ _ hk⟩
theorem Only.setCell (h : Only l a w) {p : Addr} (hp : p.block ∈ l ∨ a.heap.size ≤ p.block) (u : Value) : Only l a (w.setCell p u) := by
  refine ⟨h.os, h.tape, h.output, by simpa [World.setCell] using h.size, fun i hi hn => (Below.heap_setCell w p u i ?_).trans (h.block i hi hn)⟩
  rintro rfl
  rcases hp with hp | hp
  · exact hn hp
  · omega
theorem Only.drew (h : Only l a w) : Only l a w.drew := ⟨h.os, h.tape, h.output, h.size, h.block⟩
theorem Only.drewN (h : Only l a w) (n : Nat) : Only l a (w.drewN n) := ⟨h.os, h.tape, h.output, h.size, h.block⟩
/-- A later call whose list may name blocks that are new since. -/
theorem Only.then (h : Only l a w) (k : Only l' w w') (hl : ∀ i, i ∈ l' → i < a.heap.size → i ∈ l) : Only l a w' :=
  ⟨k.os.trans h.os, k.tape.trans h.tape, k.output.trans h.output, Nat.le_trans h.size k.size, fun i hi hn => (k.block i (Nat.lt_of_lt_of_le hi h.size) (fun hm => hn (hl i hm hi))).trans (h.block i hi hn)⟩
theorem Only.below {B : Nat} (h : Only l a w) (hl : ∀ k ∈ l, B ≤ k) (hB : B ≤ a.heap.size) : Below B a w :=
  ⟨h.os, h.tape, h.output, h.size, fun k hk => h.block k (by omega) (fun hm => by have := hl k hm; omega)⟩
theorem Only.of_below (h : Below a.heap.size a w) (l : List Nat) : Only l a w := ⟨h.os, h.tape, h.output, h.size, fun k hk _ => h.block k hk⟩
theorem Only.grown {row : Option Nat} (h : a.grownBy w row) (hr : ∀ k, row = some k → k < a.heap.size → k ∈ l) : Only l a w :=
  ⟨h.os, h.tape, h.output, h.size, fun k hk hn => h.block k hk (fun e => hn (hr k e.symm hk))⟩
theorem Var.only {b : Nat} {t : TypeId} {v : Value} (h : Var w b t v) (ho : Only l w w') (hb : b ∉ l) : Var w' b t v := (ho.block b h.lt hb).trans h
theorem Only.belowN (h : Only [] a w) : Below a.heap.size a w := h.below (by simp) (Nat.le_refl _)
theorem Only.cell (h : Only l w w') {p : Addr} (hp : p.block < w.heap.size) (hn : p.block ∉ l) : w'.cell? p = w.cell? p := World.cell?_of_block (h.block _ hp hn)
end

/-! ### a slice that reads as bytes -/
def Byt (xs : List Int) : Prop := ∀ x ∈ xs, 0 ≤ x ∧ x ≤ 255
def Rd (w : World) (B : Nat) (A : Option Addr) (xs : List Int) : Prop :=
  Byt xs ∧ (0 < xs.length → ∃ b off, A = some ⟨b, off, none⟩ ∧ b < B ∧ ∀ i, i < xs.length → w.cell? ⟨b, off + i, none⟩ = some (.int .u8 (xs.getD i 0)))
/-- Where 's[k:]' begins (capacity c): at the whole capacity the model, as Go, keeps the array's own address. -/
def cutA (A : Option Addr) (c k : Nat) : Option Addr := if c = k then A else A.map (·.add k)

section
variable {w w' : World} {B B' : Nat} {A : Option Addr} {xs : List Int}
theorem Byt.getD (h : Byt xs) (i : Nat) : 0 ≤ xs.getD i 0 ∧ xs.getD i 0 ≤ 255 := by
  rcases Nat.lt_or_ge i xs.length with hi | hi
  · rw [List.getD_eq_getElem?_getD, List.getElem?_eq_getElem hi]
    exact h _ (List.getElem_mem hi)
  · simp [List.getD_eq_getElem?_getD, List.getElem?_eq_none hi]
theorem Byt.take (h : Byt xs) (k : Nat) : Byt (xs.take k) := fun x hx => h x (List.mem_of_mem_take hx)
theorem Byt.drop (h : Byt xs) (k : Nat) : Byt (xs.drop k) := fun x hx => h x (List.mem_of_mem_drop hx)
theorem Byt.append {ys : List Int} (h : Byt xs) (k : Byt ys) : Byt (xs ++ ys) := fun x hx => (List.mem_append.1 hx).elim (h x) (k x)
theorem Byt.nil : Byt [] := fun _ h => by cases h
theorem Rd.byt (h : Rd w B A xs) : Byt xs := h.1
theorem Rd.nil (w : World) (B : Nat) (A : Option Addr) : Rd w B A [] := ⟨Byt.nil, fun h => absurd h (by simp)⟩
theorem Rd.keep (h : Rd w B A xs) (hk : ∀ p : Addr, p.block < B → w'.cell? p = w.cell? p) : Rd w' B A xs :=
  ⟨h.1, fun hn => by
    obtain ⟨b, off, e, hb, hc⟩ := h.2 hn
    exact ⟨b, off, e, hb, fun i hi => (hk _ hb).trans (hc i hi)⟩⟩
theorem Rd.more (h : Rd w B A xs) (hB : B ≤ B') : Rd w B' A xs :=
  ⟨h.1, fun hn => by
    obtain ⟨b, off, e, hb, hc⟩ := h.2 hn
    exact ⟨b, off, e, by omega, hc⟩⟩
theorem Rd.below (h : Rd w B A xs) (hb : Below B w w') : Rd w' B A xs := h.keep fun _ hp => hb.cell hp
theorem Rd.only {l : List Nat} (h : Rd w B A xs) (ho : Only l w w') (hl : ∀ k ∈ l, B ≤ k) (hB : B ≤ w.heap.size) : Rd w' B A xs := h.below (ho.below hl hB)
theorem Rd.alloc (h : Rd w B A xs) (hB : B ≤ w.heap.size) (o : Obj) : Rd (w.alloc o) B A xs := h.below ((Below.refl B w).alloc hB o)
theorem Rd.setCell (h : Rd w B A xs) {p : Addr} (hp : B ≤ p.block) (u : Value) : Rd (w.setCell p u) B A xs := h.below ((Below.refl B w).setCell hp u)
theorem Rd.drew (h : Rd w B A xs) : Rd w.drew B A xs := h
theorem Rd.drewN (h : Rd w B A xs) (n : Nat) : Rd (w.drewN n) B A xs := h
theorem Rd.take (h : Rd w B A xs) (k : Nat) : Rd w B A (xs.take k) :=
  ⟨h.1.take k, fun hn => by
    obtain ⟨b, off, e, hb, hc⟩ := h.2 (by simp at hn; omega)
    refine ⟨b, off, e, hb, fun i hi => ?_⟩
    simp at hi
    rw [hc i (by omega)]
    simp [List.getD_eq_getElem?_getD, show i < k by omega]⟩
theorem Rd.cut (h : Rd w B A xs) {k c : Nat} (hc : xs.length ≤ c) : Rd w B (cutA A c k) (xs.drop k) :=
  ⟨h.1.drop k, fun hn => by
    simp at hn
    obtain ⟨b, off, e, hb, hcell⟩ := h.2 (by omega)
    subst e
    refine ⟨b, off + k, ?_, hb, fun i hi => ?_⟩
    · unfold cutA
      rw [if_neg (by omega)]
      simp only [Option.map_some, Addr.add]
      split <;> simp_all
    · simp at hi
      rw [Nat.add_assoc, hcell (k + i) (by omega)]
      simp [List.getD_eq_getElem?_getD]⟩
theorem Rd.cutM (h : Rd w B A xs) (k : Nat) : Rd w B (Option.map (fun x => { block := x.block, off := x.off + k }) A) (xs.drop k) :=
  ⟨h.1.drop k, fun hn => by
    simp at hn
    obtain ⟨b, off, e, hb, hcell⟩ := h.2 (by omega)
    subst e
    refine ⟨b, off + k, rfl, hb, fun i hi => ?_⟩
    simp at hi
    rw [Nat.add_assoc, hcell (k + i) (by omega)]
    simp [List.getD_eq_getElem?_getD]⟩
theorem Rd.cutAdd (h : Rd w B A xs) (k : Nat) : Rd w B (Option.map (fun x => x.add k) A) (xs.drop k) := by
  have h1 := h.cut (k := k) (c := xs.length + k + 1) (by omega)
  unfold cutA at h1
  rwa [if_neg (by omega)] at h1
theorem Rd.empty (w : World) (B : Nat) (A : Option Addr) (h : xs = []) : Rd w B A xs := h ▸ Rd.nil w B A
theorem Rd.at_ (h : Rd w B A xs) (hn : 0 < xs.length) : ∃ b off, A = some ⟨b, off, none⟩ ∧ b < B ∧ ∀ i, i < xs.length → w.cell? ⟨b, off + i, none⟩ = some (.int .u8 (xs.getD i 0)) := h.2 hn
theorem Rd.some_ (h : Rd w B A xs) (hn : 0 < xs.length) : A.isSome = true := by
  obtain ⟨b, off, e, _⟩ := h.2 hn
  simp [e]
end

/-- The bytes of a row that a call owns. -/
theorem Rd.of_own {w : World} {base e : Nat} {A : Option Addr} {n c : Nat} {xs : List Int} (hx : Byt xs) (h : w.ownsRow base e 1 (.slice A n c) n (xs.map (Value.int .u8))) : Rd w w.heap.size A xs := by
  refine ⟨hx, fun hn => ?_⟩
  have hlen : xs.length = n := by simpa using h.1
  rcases h.2 with ⟨hv, h0⟩ | ⟨g, cap, cur, hv, _, hg, hnc, _, hcs, htake⟩
  · omega
  · injection hv with hA _ _
    subst hA
    refine ⟨g, 0, rfl, (Array.getElem?_eq_some_iff.1 hg).1, fun i hi => ?_⟩
    rw [Nat.zero_add, cell_of_row w g i cur e (0, 0) hg]
    have := congrArg (·[i]?) htake
    simp [show i < n by omega, List.getElem?_eq_getElem hi] at this
    rw [this]
    simp [List.getD_eq_getElem?_getD, List.getElem?_eq_getElem hi]
theorem own_form {w : World} {base e : Nat} {v : Value} {n : Nat} {cs : List Value} (h : w.ownsRow base e 1 v n cs) : ∃ A c, v = .slice A n c ∧ n ≤ c ∧ c ≤ maxLen ∧ (∀ b, A = some b → base ≤ b.block) := by
  rcases h.2 with ⟨rfl, rfl⟩ | ⟨g, cap, cur, rfl, hb, _, hnc, hcm, _⟩
  · exact ⟨none, 0, rfl, Nat.le_refl _, Nat.zero_le _, fun _ h => by cases h⟩
  · exact ⟨_, cap, rfl, hnc, hcm, fun b h => by injection h with h; subst h; exact hb⟩

theorem Byt.oneCells (xs : List Int) : ∀ u ∈ xs.map (Value.int .u8), u.oneCell' = true := by
  intro u hu
  simp only [List.mem_map] at hu
  obtain ⟨x, _, rfl⟩ := hu
  rfl

/-- What a row that came in reads as. -/
theorem Rd.of_cells {w : World} {A : Option Addr} {x : Addr} {len : Nat} {zs : List Int} (hA : A = some x) (hx : x.spot = none) (hcell : ∀ i, i < zs.length → w.cell? (x.add i) = some (.int .u8 (zs.getD i 0))) (hb : Byt zs) :
    Rd w w.heap.size A (zs.take len) := by
  obtain ⟨b, off, spot⟩ := x
  simp only at hx
  subst hx
  refine Rd.take ⟨hb, fun hn => ⟨b, off, hA, ?_, fun i hi => ?_⟩⟩ len
  · exact World.block_lt_of_cell? w _ (hcell 0 hn)
  · have := hcell i hi
    rwa [show (⟨b, off, none⟩ : Addr).add i = ⟨b, off + i, none⟩ by unfold Addr.add; split <;> simp_all] at this

/-- A slice of bytes that came in, as the row's shell tells it. -/
theorem rd_of_row {w : World} {a : Option Addr} {len cap : Nat} {zs : List Int} (h : (a = none ∧ len = 0 ∧ cap = 0 ∧ zs = []) ∨
    ∃ x, a = some x ∧ len ≤ cap ∧ cap ≤ maxLen ∧ zs.length = cap ∧ (∀ i, i < zs.length → w.cell? (x.add i) = some (.int .u8 (zs.getD i 0))) ∧ ∀ n ∈ zs, (Lit.int .u8 n).wf = true) :
    ∃ xs, Rd w w.heap.size a xs ∧ len = xs.length ∧ len ≤ cap ∧ cap ≤ maxLen := by
  rcases h with ⟨rfl, rfl, rfl, rfl⟩ | ⟨x, rfl, hl, hm, hz, hc, hw⟩
  · exact ⟨[], Rd.nil _ _ _, rfl, Nat.le_refl _, Nat.zero_le _⟩
  · rcases Nat.eq_zero_or_pos len with h0 | h0
    · exact ⟨[], Rd.nil _ _ _, by simpa using h0, hl, hm⟩
    · refine ⟨zs.take len, Rd.of_cells rfl ?_ hc ?_, by simp; omega, hl, hm⟩
      · have h1 := hc 0 (by omega)
        have := World.cell?_spot h1
        simpa [Addr.add] using this
      · intro n hn
        have := hw n hn
        simp [Lit.wf, IntKind.min, IntKind.max, IntKind.bits, IntKind.signed] at this
        omega
end Go.Proofs.Ytlnoeipbbncnfaa
