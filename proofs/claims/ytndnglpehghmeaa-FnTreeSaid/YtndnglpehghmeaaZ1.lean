/- Words for memory that speak of no function: a variable's block, what a call leaves alone, a slice that reads as bytes. copied, str, and the package's String: contracts of its reading. Plain facts on numbers told by bytes, the highest first. No program. The functions on tags: tagOk, Constructed, ContextSpecific: contracts. The package's String: read as the callers meet it, Skip, ReadBytes, and the numbers: contracts. DER elements over lists of bytes: plain definitions and laws. No program. Integers, truths, bits as DER's contents tell them: plain definitions and laws. No program. Bytes as they are built: numbers, lengths, elements of DER: plain definitions and laws. No program. The contents of integers as they are built, and that they are told so alone: plain definitions and laws. No program. Object identifiers: numbers in base 128, read and built: plain definitions and laws. No program. A slice that reads as ints: its laws. The reference's Same and Number: contracts. -/
import Derived.WalkKit
import Derived.WalkSpells
import Derived.WalkLawsBesides
import Derived.KernelRfl
import Derived.Below
import Derived.OneCell
import Derived.Laws.OwnMore
import Derived.Laws.BytesArg
import Derived.Deep.Draws
import Derived.Lib.Hide
import Derived.Test.YtndnglpehghmeaaProg
import Derived.Laws.BitsAllLaws
import Derived.StillTailTactics
import Derived.BigQuiet
/-! ### Words for memory that speak of no function: a variable's block, what a call leaves alone, a slice that reads as bytes. -/
namespace Go.Proofs.Ytndnglpehghmeaa
open Go.RowKit

/-! ### a variable of one cell -/
def Var (w : World) (b : Nat) (t : TypeId) (v : Value) : Prop := w.heap[b]? = some (.cells #[v] t (0, 0))
section
variable {w w' : World} {b : Nat} {t : TypeId} {v u : Value}
theorem Var.lt (h : Var w b t v) : b < w.heap.size := lt_of_block h
theorem Var.cell (h : Var w b t v) : w.cell? ⟨b, 0, none⟩ = some v := cell_of_one h
theorem Var.free (h : Var w b t v) : w.frozen? ⟨b, 0, none⟩ = false := free_of_one h
theorem Var.new (w : World) (t : TypeId) (v : Value) : Var (w.alloc (.cells #[v] t)) w.heap.size t v := heap_alloc_new w _
theorem Var.alloc (h : Var w b t v) (o : Obj) : Var (w.alloc o) b t v := (Below.heap_alloc w o b h.lt).trans h
theorem Var.drew (h : Var w b t v) : Var w.drew b t v := h
theorem Var.drewN (h : Var w b t v) (n : Nat) : Var (w.drewN n) b t v := h
theorem Var.set (h : Var w b t v) (u : Value) : Var (w.setCell ⟨b, 0, none⟩ u) b t u := one_setCell h
theorem Var.far (h : Var w b t v) {p : Addr} (hp : b ≠ p.block) (u : Value) : Var (w.setCell p u) b t v := (Below.heap_setCell w p u b hp).trans h
end

/-! ### what a call leaves alone: all that was there but the blocks of a list -/
structure Only (l : List Nat) (w w' : World) : Prop where
  os : w'.os = w.os
  tape : w'.tape = w.tape
  output : w'.output = w.output
  size : w.heap.size ≤ w'.heap.size
  block : ∀ k, k < w.heap.size → k ∉ l → w'.heap[k]? = w.heap[k]?

section
variable {l l' : List Nat} {a w w' : World}
theorem Only.refl (l : List Nat) (w : World) : Only l w w := ⟨rfl, rfl, rfl, Nat.le_refl _, fun _ _ _ => rfl⟩
theorem Only.trans (h : Only l a w) (k : Only l w w') : Only l a w' :=
  ⟨k.os.trans h.os, k.tape.trans h.tape, k.output.trans h.output, Nat.le_trans h.size k.size, fun i hi hl => (k.block i (Nat.lt_of_lt_of_le hi h.size) hl).trans (h.block i hi hl)⟩
theorem Only.more (h : Only l a w) (hl : ∀ k, k ∈ l → k < a.heap.size → k ∈ l') : Only l' a w :=
  ⟨h.os, h.tape, h.output, h.size, fun i hi hn => h.block i hi (fun hm => hn (hl i hm hi))⟩
theorem Only.alloc (h : Only l a w) (o : Obj) : Only l a (w.alloc o) :=
  h.trans ⟨rfl, rfl, rfl, by simp, fun k hk _ => Below.heap_alloc _ _ _ hk⟩
theorem Only.setCell (h : Only l a w) {p : Addr} (hp : p.block ∈ l ∨ a.heap.size ≤ p.block) (u : Value) : Only l a (w.setCell p u) := by
  refine ⟨h.os, h.tape, h.output, by simpa [World.setCell] using h.size, fun i hi hn => (Below.heap_setCell w p u i ?_).trans (h.block i hi hn)⟩
  rintro rfl
  rcases hp with hp | hp
  · exact hn hp
  · omega
theorem Only.drew (h : Only l a w) : Only l a w.drew := ⟨h.os, h.tape, h.output, h.size, h.block⟩
theorem Only.drewN (h : Only l a w) (n : Nat) : Only l a (w.drewN n) := ⟨h.os, h.tape, h.output, h.size, h.block⟩
/-- A later call whose list may name blocks that are new since. -/
theorem Only.then (h : Only l a w) (k : Only l' w w') (hl : ∀ i, i ∈ l' → i < a.heap.size → i ∈ l) : Only l a w' :=
  ⟨k.os.trans h.os, k.tape.trans h.tape, k.output.trans h.output, Nat.le_trans h.size k.size, fun i hi hn => (k.block i (Nat.lt_of_lt_of_le hi h.size) (fun hm => hn (hl i hm hi))).trans (h.block i hi hn)⟩
theorem Only.below {B : Nat} (h : Only l a w) (hl : ∀ k ∈ l, B ≤ k) (hB : B ≤ a.heap.size) : Below B a w :=
  ⟨h.os, h.tape, h.output, h.size, fun k hk => h.block k (by omega) (fun hm => by have := hl k hm; omega)⟩
theorem Only.of_below (h : Below a.heap.size a w) (l : List Nat) : Only l a w := ⟨h.os, h.tape, h.output, h.size, fun k hk _ => h.block k hk⟩
theorem Only.grown {row : Option Nat} (h : a.grownBy w row) (hr : ∀ k, row = some k → k < a.heap.size → k ∈ l) : Only l a w :=
  ⟨h.os, h.tape, h.output, h.size, fun k hk hn => h.block k hk (fun e => hn (hr k e.symm hk))⟩
theorem Var.only {b : Nat} {t : TypeId} {v : Value} (h : Var w b t v) (ho : Only l w w') (hb : b ∉ l) : Var w' b t v := (ho.block b h.lt hb).trans h
theorem Only.belowN (h : Only [] a w) : Below a.heap.size a w := h.below (by simp) (Nat.le_refl _)
theorem Only.cell (h : Only l w w') {p : Addr} (hp : p.block < w.heap.size) (hn : p.block ∉ l) : w'.cell? p = w.cell? p := World.cell?_of_block (h.block _ hp hn)
end

/-! ### a slice that reads as bytes -/
def Byt (xs : List Int) : Prop := ∀ x ∈ xs, 0 ≤ x ∧ x ≤ 255
def Rd (w : World) (B : Nat) (A : Option Addr) (xs : List Int) : Prop :=
  Byt xs ∧ (0 < xs.length → ∃ b off, A = some ⟨b, off, none⟩ ∧ b < B ∧ ∀ i, i < xs.length → w.cell? ⟨b, off + i, none⟩ = some (.int .u8 (xs.getD i 0)))
/-- Where 's[k:]' begins (capacity c): at the whole capacity the model, as Go, keeps the array's own address. -/
def cutA (A : Option Addr) (c k : Nat) : Option Addr := if c = k then A else A.map (·.add k)

section
variable {w w' : World} {B B' : Nat} {A : Option Addr} {xs : List Int}
theorem Byt.getD (h : Byt xs) (i : Nat) : 0 ≤ xs.getD i 0 ∧ xs.getD i 0 ≤ 255 := by
  rcases Nat.lt_or_ge i xs.length with hi | hi
  · rw [List.getD_eq_getElem?_getD, List.getElem?_eq_getElem hi]
    exact h _ (List.getElem_mem hi)
  · simp [List.getD_eq_getElem?_getD, List.getElem?_eq_none hi]
theorem Byt.take (h : Byt xs) (k : Nat) : Byt (xs.take k) := fun x hx => h x (List.mem_of_mem_take hx)
theorem Byt.drop (h : Byt xs) (k : Nat) : Byt (xs.drop k) := fun x hx => h x (List.mem_of_mem_drop hx)
theorem Byt.append {ys : List Int} (h : Byt xs) (k : Byt ys) : Byt (xs ++ ys) := fun x hx => (List.mem_append.1 hx).elim (h x) (k x)
theorem Byt.nil : Byt [] := fun _ h => by cases h
theorem Rd.byt (h : Rd w B A xs) : Byt xs := h.1
theorem Rd.nil (w : World) (B : Nat) (A : Option Addr) : Rd w B A [] := ⟨Byt.nil, fun h => absurd h (by simp)⟩
theorem Rd.keep (h : Rd w B A xs) (hk : ∀ p : Addr, p.block < B → w'.cell? p = w.cell? p) : Rd w' B A xs :=
  ⟨h.1, fun hn => by
    obtain ⟨b, off, e, hb, hc⟩ := h.2 hn
    exact ⟨b, off, e, hb, fun i hi => (hk _ hb).trans (hc i hi)⟩⟩
theorem Rd.more (h : Rd w B A xs) (hB : B ≤ B') : Rd w B' A xs :=
  ⟨h.1, fun hn => by
    obtain ⟨b, off, e, hb, hc⟩ := h.2 hn
    exact ⟨b, off, e, by omega, hc⟩⟩
theorem Rd.below (h : Rd w B A xs) (hb : Below B w w') : Rd w' B A xs := h.keep fun _ hp => hb.cell hp
theorem Rd.only {l : List Nat} (h : Rd w B A xs) (ho : Only l w w') (hl : ∀ k ∈ l, B ≤ k) (hB : B ≤ w.heap.size) : Rd w' B A xs := h.below (ho.below hl hB)
theorem Rd.alloc (h : Rd w B A xs) (hB : B ≤ w.heap.size) (o : Obj) : Rd (w.alloc o) B A xs := h.below ((Below.refl B w).alloc hB o)
theorem Rd.setCell (h : Rd w B A xs) {p : Addr} (hp : B ≤ p.block) (u : Value) : Rd (w.setCell p u) B A xs := h.below ((Below.refl B w).setCell hp u)
theorem Rd.drew (h : Rd w B A xs) : Rd w.drew B A xs := h
theorem Rd.drewN (h : Rd w B A xs) (n : Nat) : Rd (w.drewN n) B A xs := h
theorem Rd.take (h : Rd w B A xs) (k : Nat) : Rd w B A (xs.take k) :=
  ⟨h.1.take k, fun hn => by
    obtain ⟨b, off, e, hb, hc⟩ := h.2 (by simp at hn; omega)
    refine ⟨b, off, e, hb, fun i hi => ?_⟩
    simp at hi
    rw [hc i (by omega)]
    simp [List.getD_eq_getElem?_getD, show i < k by omega]⟩
theorem Rd.cut (h : Rd w B A xs) {k c : Nat} (hc : xs.length ≤ c) : Rd w B (cutA A c k) (xs.drop k) :=
  ⟨h.1.drop k, fun hn => by
    simp at hn
    obtain ⟨b, off, e, hb, hcell⟩ := h.2 (by omega)
    subst e
    refine ⟨b, off + k, ?_, hb, fun i hi => ?_⟩
    · unfold cutA
      rw [if_neg (by omega)]
      simp only [Option.map_some, Addr.add]
      split <;> simp_all
    · simp at hi
      rw [Nat.add_assoc, hcell (k + i) (by omega)]
      simp [List.getD_eq_getElem?_getD]⟩
theorem Rd.cutM (h : Rd w B A xs) (k : Nat) : Rd w B (Option.map (fun x => { block := x.block, off := x.off + k }) A) (xs.drop k) :=
  ⟨h.1.drop k, fun hn => by
    simp at hn
    obtain ⟨b, off, e, hb, hcell⟩ := h.2 (by omega)
    subst e
    refine ⟨b, off + k, rfl, hb, fun i hi => ?_⟩
    simp at hi
    rw [Nat.add_assoc, hcell (k + i) (by omega)]
    simp [List.getD_eq_getElem?_getD]⟩
theorem Rd.cutAdd (h : Rd w B A xs) (k : Nat) : Rd w B (Option.map (fun x => x.add k) A) (xs.drop k) := by
  have h1 := h.cut (k := k) (c := xs.length + k + 1) (by omega)
  unfold cutA at h1
  rwa [if_neg (by omega)] at h1
theorem Rd.empty (w : World) (B : Nat) (A : Option Addr) (h : xs = []) : Rd w B A xs := h ▸ Rd.nil w B A
theorem Rd.at_ (h : Rd w B A xs) (hn : 0 < xs.length) : ∃ b off, A = some ⟨b, off, none⟩ ∧ b < B ∧ ∀ i, i < xs.length → w.cell? ⟨b, off + i, none⟩ = some (.int .u8 (xs.getD i 0)) := h.2 hn
theorem Rd.some_ (h : Rd w B A xs) (hn : 0 < xs.length) : A.isSome = true := by
  obtain ⟨b, off, e, _⟩ := h.2 hn
  simp [e]
end

/-- The bytes of a row that a call owns. -/
theorem Rd.of_own {w : World} {base e : Nat} {A : Option Addr} {n c : Nat} {xs : List Int} (hx : Byt xs) (h : w.ownsRow base e 1 (.slice A n c) n (xs.map (Value.int .u8))) : Rd w w.heap.size A xs := by
  refine ⟨hx, fun hn => ?_⟩
  have hlen : xs.length = n := by simpa using h.1
  rcases h.2 with ⟨hv, h0⟩ | ⟨g, cap, cur, hv, _, hg, hnc, _, hcs, htake⟩
  · omega
  · injection hv with hA _ _
    subst hA
    refine ⟨g, 0, rfl, (Array.getElem?_eq_some_iff.1 hg).1, fun i hi => ?_⟩
    rw [Nat.zero_add, cell_of_row w g i cur e (0, 0) hg]
    have := congrArg (·[i]?) htake
    simp [show i < n by omega, List.getElem?_eq_getElem hi] at this
    rw [this]
    simp [List.getD_eq_getElem?_getD, List.getElem?_eq_getElem hi]
theorem own_form {w : World} {base e : Nat} {v : Value} {n : Nat} {cs : List Value} (h : w.ownsRow base e 1 v n cs) : ∃ A c, v = .slice A n c ∧ n ≤ c ∧ c ≤ maxLen ∧ (∀ b, A = some b → base ≤ b.block) := by
  rcases h.2 with ⟨rfl, rfl⟩ | ⟨g, cap, cur, rfl, hb, _, hnc, hcm, _⟩
  · exact ⟨none, 0, rfl, Nat.le_refl _, Nat.zero_le _, fun _ h => by cases h⟩
  · exact ⟨_, cap, rfl, hnc, hcm, fun b h => by injection h with h; subst h; exact hb⟩

theorem Byt.oneCells (xs : List Int) : ∀ u ∈ xs.map (Value.int .u8), u.oneCell' = true := by
  intro u hu
  simp only [List.mem_map] at hu
  obtain ⟨x, _, rfl⟩ := hu
  rfl

/-- What a row that came in reads as. -/
theorem Rd.of_cells {w : World} {A : Option Addr} {x : Addr} {len : Nat} {zs : List Int} (hA : A = some x) (hx : x.spot = none) (hcell : ∀ i, i < zs.length → w.cell? (x.add i) = some (.int .u8 (zs.getD i 0))) (hb : Byt zs) :
    Rd w w.heap.size A (zs.take len) := by
  obtain ⟨b, off, spot⟩ := x
  simp only at hx
  subst hx
  refine Rd.take ⟨hb, fun hn => ⟨b, off, hA, ?_, fun i hi => ?_⟩⟩ len
  · exact World.block_lt_of_cell? w _ (hcell 0 hn)
  · have := hcell i hi
    rwa [show (⟨b, off, none⟩ : Addr).add i = ⟨b, off + i, none⟩ by unfold Addr.add; split <;> simp_all] at this

/-- A slice of bytes that came in, as the row's shell tells it. -/
theorem rd_of_row {w : World} {a : Option Addr} {len cap : Nat} {zs : List Int} (h : (a = none ∧ len = 0 ∧ cap = 0 ∧ zs = []) ∨
    ∃ x, a = some x ∧ len ≤ cap ∧ cap ≤ maxLen ∧ zs.length = cap ∧ (∀ i, i < zs.length → w.cell? (x.add i) = some (.int .u8 (zs.getD i 0))) ∧ ∀ n ∈ zs, (Lit.int .u8 n).wf = true) :
    ∃ xs, Rd w w.heap.size a xs ∧ len = xs.length ∧ len ≤ cap ∧ cap ≤ maxLen := by
  rcases h with ⟨rfl, rfl, rfl, rfl⟩ | ⟨x, rfl, hl, hm, hz, hc, hw⟩
  · exact ⟨[], Rd.nil _ _ _, rfl, Nat.le_refl _, Nat.zero_le _⟩
  · rcases Nat.eq_zero_or_pos len with h0 | h0
    · exact ⟨[], Rd.nil _ _ _, by simpa using h0, hl, hm⟩
    · refine ⟨zs.take len, Rd.of_cells rfl ?_ hc ?_, by simp; omega, hl, hm⟩
      · have h1 := hc 0 (by omega)
        have := World.cell?_spot h1
        simpa [Addr.add] using this
      · intro n hn
        have := hw n hn
        simp [Lit.wf, IntKind.min, IntKind.max, IntKind.bits, IntKind.signed] at this
        omega
end Go.Proofs.Ytndnglpehghmeaa

/-! ### copied, str, and the package's String: contracts of its reading. -/
namespace Go.Proofs.Ytndnglpehghmeaa
open Go.RowKit

theorem u8_info : (Try.prog.info? 5).map (fun i => (i.zero, i.size, i.bytes)) = some (some (.int .u8 0), 1, 1) := by kernel_rfl

@[go_sem] theorem eql_nil_bytes (w : World) (a : Option Addr) (n c n' c' : Nat) : (binOp .eql 24 (.slice a n c) (.slice none n' c')).run Try.prog w = .ok (.bool a.isNone) w :=
  Lib.run_eql_slice_nil (P := Try.prog) w 24 5 a n c n' c' Try.underlying24
@[go_sem] theorem neq_nil_bytes (w : World) (a : Option Addr) (n c n' c' : Nat) : (binOp .neq 24 (.slice a n c) (.slice none n' c')).run Try.prog w = .ok (.bool (!a.isNone)) w :=
  run_neq_slice_nil_any (P := Try.prog) w 24 5 a n c n' c' Try.underlying24

/-- A variable that holds a slice which reads as xs. -/
def Sl (w : World) (B b : Nat) (t : TypeId) (xs : List Int) : Prop :=
  B ≤ b ∧ ∃ A c, Var w b t (.slice A xs.length c) ∧ xs.length ≤ c ∧ c ≤ maxLen ∧ Rd w B A xs
section
variable {w w' : World} {B b : Nat} {t : TypeId} {xs : List Int}
theorem Sl.lt (h : Sl w B b t xs) : b < w.heap.size := by obtain ⟨_, _, _, hv, _⟩ := h; exact hv.lt
theorem Sl.low (h : Sl w B b t xs) : B ≤ w.heap.size := Nat.le_of_lt (Nat.lt_of_le_of_lt h.1 h.lt)
theorem Sl.byt (h : Sl w B b t xs) : Byt xs := by obtain ⟨_, _, _, _, _, _, h⟩ := h; exact h.1
theorem Sl.only {l : List Nat} (h : Sl w B b t xs) (ho : Only l w w') (hb : b ∉ l) (hl : ∀ k ∈ l, B ≤ k) : Sl w' B b t xs := by
  have hlow := h.low
  obtain ⟨h1, A, c, hv, hc, hm, hr⟩ := h
  exact ⟨h1, A, c, hv.only ho hb, hc, hm, hr.only ho hl hlow⟩
theorem Sl.alloc (h : Sl w B b t xs) (o : Obj) : Sl (w.alloc o) B b t xs := h.only (l := []) ((Only.refl _ _).alloc o) (by simp) (by simp)
theorem Sl.drew (h : Sl w B b t xs) : Sl w.drew B b t xs := h
theorem Sl.far (h : Sl w B b t xs) {p : Addr} (hp : b ≠ p.block) (hB : B ≤ p.block) (u : Value) : Sl (w.setCell p u) B b t xs := by
  obtain ⟨h1, A, c, hv, hc, hm, hr⟩ := h
  exact ⟨h1, A, c, hv.far hp u, hc, hm, hr.setCell hB u⟩
end

/-- What 'copied' hands back. -/
def Copied (w : World) (xs : List Int) (e : Ending) (w' : World) : Prop :=
  ∃ A c, e = .returned (.slice A xs.length c) ∧ xs.length ≤ c ∧ c ≤ maxLen ∧ w'.ownsRow w.heap.size 5 1 (.slice A xs.length c) xs.length (xs.map (Value.int .u8)) ∧ Only [] w w'

theorem copied_any (A : Option Addr) (n c : Nat) (xs : List Int) (w : World) (B : Nat) (h : Rd w B A xs) (hn : n = xs.length) (hb : xs.length ≤ 140737488355328) :
    Calls Try.prog 24 #[.slice A n c] w (Copied w xs) := by
  subst hn
  obtain ⟨i0, hi, hz0, hz1, hz2⟩ := info_parts u8_info
  have hcells : ∀ ad, A = some ad → ∀ j u, (xs.map (Value.int .u8))[j]? = some u → w.cell? (ad.add j) = some u := by
    intro ad hA j u hu
    have hj : j < xs.length := by
      rcases Nat.lt_or_ge j xs.length with hj | hj
      · exact hj
      · simp [List.getElem?_eq_none hj] at hu
    obtain ⟨b, off, e, _, hc⟩ := h.2 (by omega)
    rw [hA] at e
    replace e := Option.some.inj e
    subst e
    have hp : (⟨b, off, none⟩ : Addr).add j = ⟨b, off + j, none⟩ := by unfold Addr.add; split <;> simp_all
    rw [hp, hc j hj]
    simp [List.getElem?_eq_getElem hj] at hu
    subst hu
    simp [List.getD_eq_getElem?_getD, List.getElem?_eq_getElem hj]
  have hfin : ∀ v' w', w'.ownsRow w.heap.size 5 1 v' (0 + xs.length) ([] ++ xs.map (Value.int .u8)) → Only [] w w' → Copied w xs (.returned v') w' := by
    intro v' w' ho hk
    simp only [Nat.zero_add, List.nil_append] at ho
    obtain ⟨A', c', rfl, h1, h2, _⟩ := own_form ho
    exact ⟨A', c', rfl, h1, h2, ho, hk⟩
  have H1 := Lib.hid hcells
  have H2 := Lib.hid hfin
  have H3 := Lib.hid hb
  clear hcells hfin hb
  rcases A with _ | ad
  · have h0 : xs = [] := by
      rcases xs with _ | ⟨x, xs⟩
      · rfl
      · obtain ⟨_, _, e, _⟩ := h.2 (by simp)
        cases e
    subst h0
    go_enter Try.func24, Try.ntmps24
    go_wp2
    go_ret
    exact H2.out _ _ (World.ownsRow_nil _ _ _ _) (Only.refl _ _)
  · clear h
    go_enter Try.func24, Try.ntmps24
    go_wp2_with (at_builtin; refine wpList_append_own _ rfl _ _ 24 rfl w.heap.size 5 i0 (.int .u8 0) 1 1 Try.underlying24 hi hz0 hz1 hz2 rfl (by decide) (.slice none 0 0) 0 [] rfl (World.ownsRow_nil _ _ _ _) ad xs.length c (xs.map (Value.int .u8)) rfl ?c0 (H1.out ad rfl) ?c2 ?c3 ?c4 ?c5 ?_)
    case c0 => simp
    case c2 => exact Byt.oneCells xs
    case c3 => have := H3.out; unfold maxLen; omega
    case c4 => have := H3.out; omega
    case c5 => exact Nat.le_refl _
    · intro v' w1 hown hg _
      have hk : Only [] w w1 := Only.grown hg (by simp [Value.ownBlock])
      have K1 := Lib.hid hown
      have K2 := Lib.hid hk
      clear hown hg hk
      go_wp2
      go_ret
      exact H2.out _ _ (by simpa using K1.out) K2.out

theorem str_any (A : Option Addr) (n c : Nat) (xs : List Int) (w : World) (B : Nat) (h : Rd w B A xs) (hn : n = xs.length) (hb : xs.length ≤ 140737488355328) :
    Calls Try.prog 25 #[.slice A n c] w (Copied w xs) := by
  have H := Lib.hid (copied_any A n c xs w B h hn hb)
  clear h hn hb
  go_enter Try.func25, Try.ntmps25
  go_wp2_with fail
  refine H.out.mono ?_
  rintro e w' ⟨A', c', rfl, h1, h2, h3, h4⟩
  have K : Copied w xs (.returned (.slice A' xs.length c')) w' := ⟨A', c', rfl, h1, h2, h3, h4⟩
  have HK := Lib.hid K
  clear K h1 h2 h3 h4 H
  go_wp2
  go_ret
  exact HK.out

/-! ### read -/
theorem read_ok {t : TypeId} (b : Nat) (A : Option Addr) (n c : Nat) (k : Int) (w : World) (hv : Var w b t (.slice A n c)) (h0 : 0 ≤ k) (h1 : k ≤ (n : Int)) (h2 : n ≤ c) (_h3 : c ≤ maxLen) :
    Calls Try.prog 72 #[.pointer (some ⟨b, 0, none⟩), .int .i64 k] w fun e w' => e = .returned (.slice A k.toNat c) ∧ w.setCell ⟨b, 0, none⟩ (.slice (cutA A c k.toNat) (n - k.toNat) (c - k.toNat)) = w' := by
  obtain ⟨j, rfl⟩ := Int.eq_ofNat_of_zero_le h0
  rw [Int.toNat_natCast]
  have hc := hv.cell
  have hf := hv.free
  have h1' : j ≤ n := by omega
  clear hv
  go_enter Try.func72, Try.ntmps72
  go_wp2
  all_goals
    go_ret
    refine ⟨rfl, ?_⟩
    simp [cutA, *]

theorem read_no {t : TypeId} (b : Nat) (A : Option Addr) (n c : Nat) (k : Int) (w : World) (hv : Var w b t (.slice A n c)) (h : k < 0 ∨ (n : Int) < k) :
    Calls Try.prog 72 #[.pointer (some ⟨b, 0, none⟩), .int .i64 k] w fun e w' => e = .returned (.slice none 0 0) ∧ w = w' := by
  have hc := hv.cell
  have hf := hv.free
  clear hv
  by_cases h' : (n : Int) < k
  · go_enter Try.func72, Try.ntmps72
    go_wp2
    go_ret
    exact ⟨rfl, rfl⟩
  · have hk : k < 0 := by omega
    have hd : decide ((n : Int) < k) = false := by simpa using h'
    go_enter Try.func72, Try.ntmps72
    go_wp2
    go_ret
    exact ⟨rfl, rfl⟩
end Go.Proofs.Ytndnglpehghmeaa

/-! ### Plain facts on numbers told by bytes, the highest first. No program. -/
namespace Go.Proofs.Ytndnglpehghmeaa

/-- The number that bytes tell, the highest first. -/
def beN (xs : List Int) : Int := xs.foldl (fun a x => a * 256 + x) 0

theorem beN_nil : beN [] = 0 := rfl
theorem beN_snoc (xs : List Int) (x : Int) : beN (xs ++ [x]) = beN xs * 256 + x := by simp [beN]
theorem beN_bd : ∀ (n : Nat) (xs : List Int), (∀ x ∈ xs, 0 ≤ x ∧ x ≤ 255) → xs.length = n → 0 ≤ beN xs ∧ beN xs < 256 ^ n := by
  intro n
  induction n with
  | zero =>
    intro xs _ hl
    have : xs = [] := List.eq_nil_of_length_eq_zero hl
    subst this
    simp [beN]
  | succ n ih =>
    intro xs hb hl
    have hne : xs ≠ [] := by intro e; subst e; simp at hl
    obtain ⟨ys, y, rfl⟩ : ∃ ys y, xs = ys ++ [y] := ⟨xs.dropLast, xs.getLast hne, (List.dropLast_concat_getLast hne).symm⟩
    have h1 := ih ys (fun x hx => hb x (by simp [hx])) (by simpa using hl)
    have h2 := hb y (by simp)
    rw [beN_snoc, Int.pow_succ]
    omega
theorem take_snoc' (xs : List Int) (k : Nat) (h : k < xs.length) : xs.take (k + 1) = xs.take k ++ [xs.getD k 0] := by
  rw [List.take_succ_eq_append_getElem h]
  simp [List.getD_eq_getElem?_getD, List.getElem?_eq_getElem h]
theorem beN_take_succ (xs : List Int) (k : Nat) (h : k < xs.length) : beN (xs.take (k + 1)) = beN (xs.take k) * 256 + xs.getD k 0 := by
  rw [take_snoc' xs k h, beN_snoc]
theorem pow_mono (a : Nat) : ∀ d : Nat, 0 ≤ (256 : Int) ^ a ∧ (256 : Int) ^ a ≤ 256 ^ (a + d) := by
  have h0 : ∀ n : Nat, 0 ≤ (256 : Int) ^ n := by
    intro n
    induction n with
    | zero => decide
    | succ n ih => rw [Int.pow_succ]; omega
  intro d
  refine ⟨h0 a, ?_⟩
  induction d with
  | zero => exact Int.le_refl _
  | succ d ih =>
    have := h0 (a + d)
    rw [← Nat.add_assoc, Int.pow_succ]
    omega
/-- Seven bytes at most tell less than 1<<56. -/
theorem beN_take_bd (xs : List Int) (hb : ∀ x ∈ xs, 0 ≤ x ∧ x ≤ 255) (k m : Nat) (hk : k ≤ m) : 0 ≤ beN (xs.take k) ∧ beN (xs.take k) < 256 ^ m := by
  have h := beN_bd (xs.take k).length (xs.take k) (fun x hx => hb x (List.mem_of_mem_take hx)) rfl
  have h2 : (xs.take k).length ≤ m := by simp; omega
  have h3 : (256 : Int) ^ (xs.take k).length ≤ 256 ^ m := by
    obtain ⟨d, hd⟩ := Nat.exists_eq_add_of_le h2
    rw [hd]
    exact (pow_mono _ d).2
  omega
theorem beN_take_le2 (xs : List Int) (hb : ∀ x ∈ xs, 0 ≤ x ∧ x ≤ 255) (k : Nat) (hk : k ≤ 2) : 0 ≤ beN (xs.take k) ∧ beN (xs.take k) ≤ 65535 := by
  have h := beN_take_bd xs hb k 2 hk
  have : (256 : Int) ^ 2 = 65536 := by decide
  omega
theorem beN_take_le3 (xs : List Int) (hb : ∀ x ∈ xs, 0 ≤ x ∧ x ≤ 255) (k : Nat) (hk : k ≤ 3) : 0 ≤ beN (xs.take k) ∧ beN (xs.take k) ≤ 16777215 := by
  have h := beN_take_bd xs hb k 3 hk
  have : (256 : Int) ^ 3 = 16777216 := by decide
  omega
end Go.Proofs.Ytndnglpehghmeaa

/-! ### The functions on tags: tagOk, Constructed, ContextSpecific: contracts. -/
namespace Go.Proofs.Ytndnglpehghmeaa
open Go.RowKit



/-- A tag with a bit set: what 'int(asn1.Tag(tag) | bit)' comes to. -/
def orTag (n b : Int) : Int := ((n.toNat ||| b.toNat : Nat) : Int)
theorem orTag_u8 (n : Int) (h0 : 0 ≤ n) (h1 : n ≤ 255) (b : Int) (b0 : 0 ≤ b) (b1 : b ≤ 255) : bits .or .u8 n b = orTag n b := u8_or n b h0 (by omega) b0 (by omega)
theorem orTag_lt (n : Int) (h0 : 0 ≤ n) (h1 : n ≤ 255) (b : Int) (b0 : 0 ≤ b) (b1 : b ≤ 255) : 0 ≤ orTag n b ∧ orTag n b ≤ 255 := by
  have : n.toNat ||| b.toNat < 2 ^ 8 := Nat.or_lt_two_pow (by omega) (by omega)
  unfold orTag; omega
theorem orTag_all : (∀ n : Nat, n < 256 → bits .or .i64 (n : Int) 128 = orTag n 128) ∧ (∀ n : Nat, n < 256 → orTag (orTag n 128) 32 = orTag (orTag n 32) 128) ∧ (∀ n : Nat, n < 256 → orTag (orTag (orTag n 128) 32) 32 = orTag (orTag n 128) 32) ∧
    (∀ n : Nat, n < 256 → orTag (orTag (orTag n 128) 32) 128 = orTag (orTag n 128) 32) ∧ (∀ n : Nat, n < 256 → orTag (orTag n 128) 32 % 32 = (n : Int) % 32) := by decide +kernel




end Go.Proofs.Ytndnglpehghmeaa

/-! ### The package's String: read as the callers meet it, Skip, ReadBytes, and the numbers: contracts. -/
namespace Go.Proofs.Ytndnglpehghmeaa
open Go.RowKit

/-- The variable's slice is not nil. -/
def NN (w : World) (b : Nat) : Prop := ∃ t ad n c, Var w b t (.slice (some ad) n c)
theorem NN.only {w w' : World} {l : List Nat} {b : Nat} (h : NN w b) (ho : Only l w w') (hb : b ∉ l) : NN w' b := by
  obtain ⟨t, ad, n, c, h⟩ := h
  exact ⟨t, ad, n, c, h.only ho hb⟩
/-- What 'read' of k bytes leaves: a slice of the first k, the variable at the rest. -/
def Took (t : TypeId) (w : World) (B b k : Nat) (xs : List Int) (e : Ending) (w' : World) : Prop :=
  ∃ A c, e = .returned (.slice A k c) ∧ k ≤ c ∧ c ≤ maxLen ∧ (0 < xs.length ∨ NN w b → (∃ ad, A = some ad) ∧ NN w' b) ∧ Rd w' B A (xs.take k) ∧ Sl w' B b t (xs.drop k) ∧ Only [b] w w'

theorem read_sl {t : TypeId} (b : Nat) (k : Int) (xs : List Int) (w : World) (B : Nat) (h : Sl w B b t xs) (h0 : 0 ≤ k) (h1 : k ≤ (xs.length : Int)) :
    Calls Try.prog 72 #[.pointer (some ⟨b, 0, none⟩), .int .i64 k] w (Took t w B b k.toNat xs) := by
  have hlow := h.low
  obtain ⟨hBb, A, c, hv, hc, hm, hr⟩ := h
  refine (read_ok b A xs.length c k w hv h0 h1 hc hm).mono ?_
  rintro e w' ⟨rfl, rfl⟩
  have hk : k.toNat ≤ xs.length := by omega
  have hset := hv.set (.slice (cutA A c k.toNat) (xs.length - k.toNat) (c - k.toNat))
  refine ⟨A, c, rfl, by omega, hm, fun hp => ?_, (hr.take _).setCell hBb _, ⟨hBb, cutA A c k.toNat, c - k.toNat, ?_, ?_, by unfold maxLen at *; omega, (hr.cut hc).setCell hBb _⟩, (Only.refl _ _).setCell (.inl (by simp)) _⟩
  · have hs : ∃ ad, A = some ad := by
      rcases hp with hp | ⟨_, ad, n, c', hv'⟩
      · obtain ⟨b', off, e, _⟩ := hr.2 hp
        exact ⟨_, e⟩
      · unfold Var at hv hv'
        rw [hv] at hv'
        simp only [Option.some.injEq, Obj.cells.injEq] at hv'
        have := hv'.1
        simp at this
        exact ⟨ad, this.1⟩
    obtain ⟨ad, rfl⟩ := hs
    refine ⟨⟨_, rfl⟩, ?_⟩
    have he : ∃ ad', cutA (some ad) c k.toNat = some ad' := by unfold cutA; split <;> exact ⟨_, rfl⟩
    obtain ⟨ad', he⟩ := he
    rw [he] at hset ⊢
    exact ⟨_, ad', _, _, hset⟩
  · simpa using hset
  · simp; omega

theorem read_sl_no {t : TypeId} (b : Nat) (k : Int) (xs : List Int) (w : World) (B : Nat) (h : Sl w B b t xs) (hk : k < 0 ∨ (xs.length : Int) < k) :
    Calls Try.prog 72 #[.pointer (some ⟨b, 0, none⟩), .int .i64 k] w fun e w' => e = .returned (.slice none 0 0) ∧ w = w' := by
  obtain ⟨_, A, c, hv, _⟩ := h
  exact read_no b A xs.length c k w hv hk

/-- The first bytes of a slice, cell by cell. -/
theorem Rd.cells {w : World} {B k : Nat} {A : Option Addr} {xs : List Int} (h : Rd w B A (xs.take k)) (hk : k ≤ xs.length) (h0 : 0 < k) : ∃ b off, A = some ⟨b, off, none⟩ ∧ b < B ∧ ∀ i, i < k → w.cell? ⟨b, off + i, none⟩ = some (.int .u8 (xs.getD i 0)) := by
  have hl : (xs.take k).length = k := by simp; omega
  obtain ⟨b, off, e, hb, hc⟩ := h.2 (by omega)
  refine ⟨b, off, e, hb, fun i hi => ?_⟩
  rw [hc i (by omega)]
  simp [List.getD_eq_getElem?_getD, hi]

/-! ### Skip, ReadBytes -/
theorem Sskip_ok {t : TypeId} (b : Nat) (k : Int) (xs : List Int) (w : World) (B : Nat) (h : Sl w B b t xs) (h0 : 0 ≤ k) (h1 : k ≤ (xs.length : Int)) (hp : 0 < xs.length ∨ NN w b) :
    Calls Try.prog 68 #[.pointer (some ⟨b, 0, none⟩), .int .i64 k] w fun e w' => e = .returned (.bool true) ∧ Sl w' B b t (xs.drop k.toNat) ∧ Only [b] w w' := by
  have H := Lib.hid (read_sl b k xs w B h h0 h1)
  clear h h0 h1
  go_enter Try.func68, Try.ntmps68
  go_wp2_with fail
  refine H.out.mono ?_
  rintro e w1 ⟨A, c, rfl, _, _, hA, _, hs, ho⟩
  obtain ⟨ad, rfl⟩ := (hA hp).1
  have K1 := Lib.hid hs
  have K2 := Lib.hid ho
  clear hs ho H
  go_wp2
  go_ret
  exact ⟨rfl, K1.out, K2.out⟩

theorem Sskip_no {t : TypeId} (b : Nat) (k : Int) (xs : List Int) (w : World) (B : Nat) (h : Sl w B b t xs) (hk : k < 0 ∨ (xs.length : Int) < k) :
    Calls Try.prog 68 #[.pointer (some ⟨b, 0, none⟩), .int .i64 k] w fun e w' => e = .returned (.bool false) ∧ w = w' := by
  have H := Lib.hid (read_sl_no b k xs w B h hk)
  clear h hk
  go_enter Try.func68, Try.ntmps68
  go_wp2_with fail
  refine H.out.mono ?_
  rintro e w1 ⟨rfl, rfl⟩
  go_wp2
  go_ret
  exact ⟨rfl, rfl⟩

theorem SreadBytes_ok (b bo : Nat) (k : Int) (to : TypeId) (vo : Value) (xs : List Int) (w : World) (B : Nat) (h : Sl w B b 53 xs) (ho : Var w bo to vo) (hne : bo ≠ b) (hB : B ≤ bo) (h0 : 0 ≤ k) (h1 : k ≤ (xs.length : Int)) (hp : 0 < xs.length ∨ NN w b) :
    Calls Try.prog 67 #[.pointer (some ⟨b, 0, none⟩), .pointer (some ⟨bo, 0, none⟩), .int .i64 k] w fun e w' => e = .returned (.bool true) ∧ Sl w' B bo to (xs.take k.toNat) ∧ Sl w' B b 53 (xs.drop k.toNat) ∧ Only [b, bo] w w' := by
  have H := Lib.hid (read_sl b k xs w B h h0 h1)
  have hk : k.toNat ≤ xs.length := by omega
  have HK := Lib.hid hk
  clear h h0 h1 hk
  go_enter Try.func67, Try.ntmps67
  go_wp2_with fail
  refine H.out.mono ?_
  rintro e w1 ⟨A, c, rfl, hc, hm, hA, hr, hs, hk⟩
  obtain ⟨ad, rfl⟩ := (hA hp).1
  have hv := ho.only hk (by simpa using hne)
  have hcell := hv.cell
  have hfree := hv.free
  have hfin : ∀ u, Only [b, bo] w (w1.setCell ⟨bo, 0, none⟩ u) := fun u => (hk.more (by simp)).setCell (.inl (by simp)) u
  have hfin2 : Sl (w1.setCell ⟨bo, 0, none⟩ (.slice (some ad) k.toNat c)) B bo to (xs.take k.toNat) := by
    have e : (xs.take k.toNat).length = k.toNat := by have := HK.out; simp; omega
    exact ⟨hB, some ad, c, by rw [e]; exact hv.set _, by omega, hm, hr.setCell hB _⟩
  have hfin3 : ∀ u, Sl (w1.setCell ⟨bo, 0, none⟩ u) B b 53 (xs.drop k.toNat) := fun u => hs.far (fun e => hne e.symm) hB u
  have K1 := Lib.hid hfin
  have K2 := Lib.hid hfin2
  have K3 := Lib.hid hfin3
  clear hfin hfin2 hfin3 hs hk hr hv ho H hA
  go_wp2
  go_ret
  exact ⟨rfl, K2.out, K3.out _, K1.out _⟩

theorem SreadBytes_no (b bo : Nat) (k : Int) (xs : List Int) (w : World) (B : Nat) (h : Sl w B b 53 xs) (hk : k < 0 ∨ (xs.length : Int) < k) :
    Calls Try.prog 67 #[.pointer (some ⟨b, 0, none⟩), .pointer (some ⟨bo, 0, none⟩), .int .i64 k] w fun e w' => e = .returned (.bool false) ∧ w = w' := by
  have H := Lib.hid (read_sl_no b k xs w B h hk)
  clear h hk
  go_enter Try.func67, Try.ntmps67
  go_wp2_with fail
  refine H.out.mono ?_
  rintro e w1 ⟨rfl, rfl⟩
  go_wp2
  go_ret
  exact ⟨rfl, rfl⟩

/-! ### numbers -/
/-- What reading a number leaves: the number in the variable, the rest. -/
def Told (w : World) (B b bo k : Nat) (to : TypeId) (v : Value) (xs : List Int) (e : Ending) (w' : World) : Prop :=
  e = .returned (.bool true) ∧ Var w' bo to v ∧ Sl w' B b 53 (xs.drop k) ∧ Only [b, bo] w w'

/-! Two numbers, the second below the first's lowest bit, joined by 'or'. -/
theorem or_join_u16 (a b : Int) (i m : Nat) (e : m = 2 ^ i) (ha : 0 ≤ a ∧ a < 65536) (hm : a % (m : Int) = 0) (hb : 0 ≤ b) (hb2 : b < (m : Int)) (hb3 : b < 65536) : bits .or .u16 a b = a + b := by
  obtain ⟨a, rfl⟩ := Int.eq_ofNat_of_zero_le ha.1
  obtain ⟨b, rfl⟩ := Int.eq_ofNat_of_zero_le hb
  have hm' : a % m = 0 := by omega
  rw [u16_or_nat a b (by omega) (by omega), nat_join i a b (e ▸ hm') (e ▸ (by omega))]
  omega
theorem or_join_u32 (a b : Int) (i m : Nat) (e : m = 2 ^ i) (ha : 0 ≤ a ∧ a < 4294967296) (hm : a % (m : Int) = 0) (hb : 0 ≤ b) (hb2 : b < (m : Int)) (hb3 : b < 4294967296) : bits .or .u32 a b = a + b := by
  obtain ⟨a, rfl⟩ := Int.eq_ofNat_of_zero_le ha.1
  obtain ⟨b, rfl⟩ := Int.eq_ofNat_of_zero_le hb
  have hm' : a % m = 0 := by omega
  rw [u32_or_nat a b (by omega) (by omega), nat_join i a b (e ▸ hm') (e ▸ (by omega))]
  omega
theorem or_join_u64 (a b : Int) (i m : Nat) (e : m = 2 ^ i) (ha : 0 ≤ a ∧ a < 18446744073709551616) (hm : a % (m : Int) = 0) (hb : 0 ≤ b) (hb2 : b < (m : Int)) (hb3 : b < 18446744073709551616) : bits .or .u64 a b = a + b := by
  obtain ⟨a, rfl⟩ := Int.eq_ofNat_of_zero_le ha.1
  obtain ⟨b, rfl⟩ := Int.eq_ofNat_of_zero_le hb
  have hm' : a % m = 0 := by omega
  rw [u64_or_nat a b (by omega) (by omega), nat_join i a b (e ▸ hm') (e ▸ (by omega))]
  omega

theorem wrap_id_u16 (x : Int) (h0 : 0 ≤ x) (h1 : x < 65536) : IntKind.u16.wrap x = x := by simp [IntKind.wrap, IntKind.bits, IntKind.signed]; omega
theorem wrap_id_u32 (x : Int) (h0 : 0 ≤ x) (h1 : x < 4294967296) : IntKind.u32.wrap x = x := by simp [IntKind.wrap, IntKind.bits, IntKind.signed]; omega
theorem wrap_id_u64 (x : Int) (h0 : 0 ≤ x) (h1 : x < 18446744073709551616) : IntKind.u64.wrap x = x := by simp [IntKind.wrap, IntKind.bits, IntKind.signed]; omega














end Go.Proofs.Ytndnglpehghmeaa

/-! ### DER elements over lists of bytes: plain definitions and laws. No program. -/
namespace Go.Proofs.Ytndnglpehghmeaa

/-- Header's length and contents' length, as bytes tell them (two bytes at least). -/
def lenOf (xs : List Int) : Option (Nat × Nat) :=
  if xs.getD 1 0 < 128 then some (2, (xs.getD 1 0).toNat) else
  let m := (xs.getD 1 0 - 128).toNat
  if m = 0 ∨ 4 < m ∨ xs.length < 2 + m then none else
  if beN ((xs.drop 2).take m) < 128 ∨ xs.getD 2 0 = 0 then none else some (2 + m, (beN ((xs.drop 2).take m)).toNat)
/-- The element at the beginning: its tag, where its contents begin, where it ends. -/
def first (xs : List Int) : Option (Int × Nat × Nat) :=
  if xs.length < 2 ∨ xs.getD 0 0 % 32 = 31 then none else
  match lenOf xs with
  | none => none
  | some (h, n) => if xs.length < h + n then none else some (xs.getD 0 0, h, h + n)

theorem beN_cons (x : Int) (xs : List Int) : beN (x :: xs) = x * 256 ^ xs.length + beN xs := by
  have gen : ∀ (xs : List Int) (a : Int), xs.foldl (fun a x => a * 256 + x) a = a * 256 ^ xs.length + xs.foldl (fun a x => a * 256 + x) 0 := by
    intro xs
    induction xs with
    | nil => intro a; simp
    | cons y ys ih =>
      intro a
      simp only [List.foldl_cons, List.length_cons]
      rw [ih (a * 256 + y), ih (0 * 256 + y), Int.pow_succ, Int.add_mul]
      simp only [Int.zero_mul, Int.zero_add]
      have : a * 256 * 256 ^ ys.length = a * (256 ^ ys.length * 256) := by rw [Int.mul_assoc, Int.mul_comm 256]
      omega
  unfold beN
  simp only [List.foldl_cons]
  rw [gen xs (0 * 256 + x)]
  simp
/-- The highest byte is 0 just if the number is below 256 to the power of how many stand behind it. -/
theorem beN_top (x : Int) (xs : List Int) (hx : 0 ≤ x) (hb : ∀ y ∈ xs, 0 ≤ y ∧ y ≤ 255) : (beN (x :: xs) < 256 ^ xs.length ↔ x = 0) := by
  have h := beN_bd xs.length xs hb rfl
  rw [beN_cons]
  have hp := (pow_mono xs.length 0).1
  constructor
  · intro hlt
    rcases Int.lt_or_eq_of_le hx with h1 | h1
    · exfalso
      have : 1 * (256 : Int) ^ xs.length ≤ x * 256 ^ xs.length := Int.mul_le_mul_of_nonneg_right (by omega) hp
      omega
    · exact h1.symm
  · rintro rfl
    omega
theorem first_long {xs : List Int} {m : Nat} {v : Int} (hl : 2 ≤ xs.length) (h31 : xs.getD 0 0 % 32 ≠ 31) (hs : xs.getD 1 0 = ((m + 128 : Nat) : Int)) (hm1 : 1 ≤ m) (hm4 : m ≤ 4) (hml : 2 + m ≤ xs.length) (hv : beN ((xs.drop 2).take m) = v) :
    first xs = if v < 128 ∨ xs.getD 2 0 = 0 then none else if xs.length < 2 + m + v.toNat then none else some (xs.getD 0 0, 2 + m, 2 + m + v.toNat) := by
  have hm : (xs.getD 1 0 - 128).toNat = m := by omega
  have hle : lenOf xs = if v < 128 ∨ xs.getD 2 0 = 0 then none else some (2 + m, v.toNat) := by
    unfold lenOf
    rw [if_neg (by omega)]
    simp only [hm]
    rw [if_neg (by omega), hv]
  unfold first
  rw [if_neg (by omega), hle]
  by_cases h : v < 128 ∨ xs.getD 2 0 = 0
  · rw [if_pos h, if_pos h]
  · rw [if_neg h, if_neg h]
theorem two_pow_eight (k : Nat) : (2 : Int) ^ (8 * k) = 256 ^ k := by rw [Int.pow_mul]; rfl
/-- The highest byte of a length is 0 just if shifting it down to its lowest place leaves 0. -/
theorem long_top {xs : List Int} {m : Nat} {v : Int} (hb : ∀ x ∈ xs, 0 ≤ x ∧ x ≤ 255) (hm1 : 1 ≤ m) (hm4 : m ≤ 4) (hml : 2 + m ≤ xs.length) (hv : beN ((xs.drop 2).take m) = v) :
    (v / 2 ^ (((m : Int) - 1) % 256 * 8 % 256).toNat == 0) = decide (xs.getD 2 0 = 0) := by
  obtain ⟨k, rfl⟩ : ∃ k, m = k + 1 := ⟨m - 1, by omega⟩
  have he : ((((k + 1 : Nat) : Int) - 1) % 256 * 8 % 256).toNat = 8 * k := by omega
  rw [he, two_pow_eight]
  obtain ⟨a, b, y, ys, rfl⟩ : ∃ a b y ys, xs = a :: b :: y :: ys := by
    match xs, hml with
    | a :: b :: y :: ys, _ => exact ⟨a, b, y, ys, rfl⟩
    | [], h => exact absurd h (by simp)
    | [_], h => exact absurd h (by simp; omega)
    | [_, _], h => exact absurd h (by simp)
  have hg : (a :: b :: y :: ys).getD 2 0 = y := rfl
  rw [hg]
  have hl : (ys.take k).length = k := by simp at hml ⊢; omega
  have hv' : beN (y :: ys.take k) = v := by rw [← hv]; rfl
  have htop := beN_top y (ys.take k) (hb y (by simp)).1 (fun z hz => hb z (by simp [List.mem_of_mem_take hz]))
  rw [hl, hv'] at htop
  have hp := pow_mono k 0
  have hp1 : (0 : Int) < 256 ^ k := Int.pow_pos (by decide)
  have hv0 : 0 ≤ v := by
    rw [← hv']
    exact (beN_bd _ _ (by
      intro z hz
      simp only [List.mem_cons] at hz
      rcases hz with rfl | hz
      · exact hb z (by simp)
      · exact hb z (by simp [List.mem_of_mem_take hz])) rfl).1
  rw [Bool.eq_iff_iff]
  simp only [beq_iff_eq, decide_eq_true_eq]
  rw [← htop]
  constructor
  · intro h
    have := Int.emod_add_mul_ediv v (256 ^ k)
    rw [h] at this
    have h2 := Int.emod_lt_of_pos v hp1
    simp at this
    omega
  · intro h
    exact Int.ediv_eq_zero_of_lt hv0 h
theorem first_le {xs : List Int} {t : Int} {h e : Nat} (hf : first xs = some (t, h, e)) : 2 ≤ h ∧ h ≤ e ∧ e ≤ xs.length ∧ h ≤ 6 ∧ t = xs.getD 0 0 ∧ t % 32 ≠ 31 := by
  unfold first at hf
  split at hf
  · cases hf
  · rename_i h1
    split at hf
    · cases hf
    · rename_i h' n hl
      split at hf
      · cases hf
      · simp only [Option.some.injEq, Prod.mk.injEq] at hf
        obtain ⟨rfl, rfl, rfl⟩ := hf
        unfold lenOf at hl
        simp only at hl
        split at hl
        · simp only [Option.some.injEq, Prod.mk.injEq] at hl
          omega
        · split at hl
          · cases hl
          · split at hl
            · cases hl
            · simp only [Option.some.injEq, Prod.mk.injEq] at hl
              omega

/-- What the reference's 'long' tells. -/
def longVal (ys : List Int) (m : Nat) : Int :=
  if m = 0 ∨ 4 < m ∨ ys.length < m ∨ ys.getD 0 0 = 0 then -1 else if beN (ys.take m) < 128 then -1 else beN (ys.take m)
theorem lenOf_long {xs : List Int} {m : Nat} (h2 : 2 ≤ xs.length) (hs : xs.getD 1 0 = ((m + 128 : Nat) : Int)) : lenOf xs = if longVal (xs.drop 2) m < 0 then none else some (2 + m, (longVal (xs.drop 2) m).toNat) := by
  have hm : (xs.getD 1 0 - 128).toNat = m := by omega
  have hg : (xs.drop 2).getD 0 0 = xs.getD 2 0 := by simp [List.getD_eq_getElem?_getD]
  unfold lenOf longVal
  rw [if_neg (by omega)]
  simp only [hm, hg, List.length_drop]
  by_cases h1 : m = 0 ∨ 4 < m ∨ xs.length < 2 + m
  · have h1' : m = 0 ∨ 4 < m ∨ xs.length - 2 < m ∨ xs.getD 2 0 = 0 := by omega
    rw [if_pos h1, if_pos h1', if_pos (by decide)]
  · rw [if_neg h1]
    by_cases h3 : xs.getD 2 0 = 0
    · have h1' : m = 0 ∨ 4 < m ∨ xs.length - 2 < m ∨ xs.getD 2 0 = 0 := by omega
      rw [if_pos h1', if_pos (.inr h3), if_pos (by decide)]
    · have h1' : ¬ (m = 0 ∨ 4 < m ∨ xs.length - 2 < m ∨ xs.getD 2 0 = 0) := by omega
      rw [if_neg h1']
      by_cases h4 : beN ((xs.drop 2).take m) < 128
      · rw [if_pos (.inl h4), if_pos h4, if_pos (by decide)]
      · rw [if_neg (by omega), if_neg h4, if_neg (by omega)]
theorem first_of_len {xs : List Int} {h : Nat} {z : Int} (h2 : 2 ≤ xs.length) (h31 : xs.getD 0 0 % 32 ≠ 31) (hl : lenOf xs = if z < 0 then none else some (h, z.toNat)) :
    first xs = if z < 0 ∨ (xs.length : Int) < h + z then none else some (xs.getD 0 0, h, h + z.toNat) := by
  unfold first
  rw [if_neg (by omega), hl]
  by_cases hz : z < 0
  · rw [if_pos hz, if_pos (.inl hz)]
  · rw [if_neg hz]
    simp only
    by_cases hf : xs.length < h + z.toNat
    · rw [if_pos hf, if_pos (by omega)]
    · rw [if_neg hf, if_neg (by omega)]

/-- An element stands where its own bytes stand: what comes behind does not matter. -/
theorem first_prefix {xs zs : List Int} {t : Int} {h n : Nat} (hf : first xs = some (t, h, n)) (hz : zs.take n = xs.take n) (hn : n ≤ zs.length) : first zs = some (t, h, n) := by
  obtain ⟨f1, f2, f3, f4, f5, f6⟩ := first_le hf
  have hg : ∀ i, i < n → zs.getD i 0 = xs.getD i 0 := by
    intro i hi
    have := congrArg (fun l => l.getD i 0) hz
    simpa [List.getD_eq_getElem?_getD, hi] using this
  have h0 := hg 0 (by omega)
  have h1 := hg 1 (by omega)
  unfold first at hf ⊢
  rw [if_neg (by omega)] at hf
  rw [h0, if_neg (by omega)]
  have hl : lenOf zs = lenOf xs := by
    unfold lenOf
    rw [h1]
    by_cases hs : xs.getD 1 0 < 128
    · rw [if_pos hs, if_pos hs]
    · rw [if_neg hs, if_neg hs]
      simp only
      obtain ⟨m, hm⟩ : ∃ m, (xs.getD 1 0 - 128).toNat = m := ⟨_, rfl⟩
      rw [hm]
      have hx : lenOf xs = some (h, n - h) := by
        revert hf
        cases hlx : lenOf xs with
        | none => intro hf; simp at hf
        | some q =>
          obtain ⟨a, b⟩ := q
          intro hf
          simp only at hf
          split at hf
          · cases hf
          · simp only [Option.some.injEq, Prod.mk.injEq] at hf
            obtain ⟨_, rfl, rfl⟩ := hf
            simp
      unfold lenOf at hx
      rw [if_neg hs] at hx
      simp only [hm] at hx
      by_cases hb : m = 0 ∨ 4 < m ∨ xs.length < 2 + m
      · rw [if_pos hb] at hx; cases hx
      · rw [if_neg hb] at hx ⊢
        by_cases hb2 : beN ((xs.drop 2).take m) < 128 ∨ xs.getD 2 0 = 0
        · rw [if_pos hb2] at hx; cases hx
        · rw [if_neg hb2] at hx
          simp only [Option.some.injEq, Prod.mk.injEq] at hx
          have e : (zs.drop 2).take m = (xs.drop 2).take m := by
            have h2 := congrArg (fun l => (l.drop 2).take m) hz
            simp only [List.drop_take] at h2
            rwa [List.take_take, List.take_take, Nat.min_eq_left (by omega)] at h2
          have h3 := hg 2 (by omega)
          rw [if_neg (by omega), e, h3]
  rw [hl]
  revert hf
  cases lenOf xs with
  | none => intro hf; simp at hf
  | some q =>
    obtain ⟨a, b⟩ := q
    intro hf
    simp only at hf ⊢
    split at hf
    · cases hf
    · simp only [Option.some.injEq, Prod.mk.injEq] at hf
      obtain ⟨_, rfl, rfl⟩ := hf
      rw [if_neg (by omega), ← f5]
theorem first_take {xs : List Int} {t : Int} {h n : Nat} (hf : first xs = some (t, h, n)) : first (xs.take n) = some (t, h, n) := by
  have := first_le hf
  exact first_prefix hf (by rw [List.take_take, Nat.min_self]) (by simp; omega)
theorem first_append {xs ys : List Int} {t : Int} {h n : Nat} (hf : first xs = some (t, h, n)) : first (xs ++ ys) = some (t, h, n) := by
  have := first_le hf
  exact first_prefix hf (by rw [List.take_append_of_le_length (by omega)]) (by simp; omega)

/-- The contents of the element of a tag at the beginning, and what stands behind it. -/
def firstOf (xs : List Int) (tag : Int) : Option (List Int × List Int) :=
  match first xs with
  | some (t, h, n) => if t = tag then some ((xs.take n).drop h, xs.drop n) else none
  | none => none
theorem firstOf_le {xs c r : List Int} {tag : Int} (h : firstOf xs tag = some (c, r)) : c.length ≤ xs.length ∧ r.length ≤ xs.length ∧ ((∀ x ∈ xs, 0 ≤ x ∧ x ≤ 255) → (∀ x ∈ c, 0 ≤ x ∧ x ≤ 255) ∧ (∀ x ∈ r, 0 ≤ x ∧ x ≤ 255)) := by
  unfold firstOf at h
  split at h
  · split at h
    · simp only [Option.some.injEq, Prod.mk.injEq] at h
      obtain ⟨rfl, rfl⟩ := h
      refine ⟨by simp; omega, by simp, fun hb => ⟨fun x hx => hb x (List.mem_of_mem_take (List.mem_of_mem_drop hx)), fun x hx => hb x (List.mem_of_mem_drop hx)⟩⟩
    · cases h
  · cases h
end Go.Proofs.Ytndnglpehghmeaa

/-! ### Integers, truths, bits as DER's contents tell them: plain definitions and laws. No program. -/
namespace Go.Proofs.Ytndnglpehghmeaa
open Go.RowKit

/-- The truth that contents tell. -/
def boolOf (c : List Int) : Option Bool := if c.length ≠ 1 then none else if c.getD 0 0 = 0 then some false else if c.getD 0 0 = 255 then some true else none
/-- Contents are an integer's: a byte at least, and the first nine bits not alike. -/
def intRight (c : List Int) : Bool := decide (c.length = 1 ∨ (2 ≤ c.length ∧ ¬ (c.getD 0 0 = 0 ∧ c.getD 1 0 < 128) ∧ ¬ (c.getD 0 0 = 255 ∧ 128 ≤ c.getD 1 0)))
/-- The first i bytes with their sign. -/
def sg (c : List Int) (i : Nat) : Int := beN (c.take i) - if 128 ≤ c.getD 0 0 then 256 ^ i else 0
def intOf' (c : List Int) : Option Int := if intRight c = true ∧ c.length ≤ 8 then some (sg c c.length) else none
def uintOf (c : List Int) : Option Int := if intRight c = true ∧ c.getD 0 0 < 128 ∧ (c.length ≤ 8 ∨ c.length = 9 ∧ c.getD 0 0 = 0) then some (beN c) else none
def magOf (c : List Int) : Option (List Int) := if intRight c = true ∧ c.getD 0 0 < 128 then some (if 1 < c.length ∧ c.getD 0 0 = 0 then c.drop 1 else c) else none
def bitsOf (c : List Int) : Option (List Int × Int) :=
  if c.length = 0 ∨ 7 < c.getD 0 0 ∨ (c.length = 1 ∧ c.getD 0 0 ≠ 0) then none
  else if 1 < c.length ∧ c.getD (c.length - 1) 0 % 2 ^ (c.getD 0 0).toNat ≠ 0 then none
  else some (c.drop 1, 8 * ((c.length : Int) - 1) - c.getD 0 0)

theorem intRight_pos {c : List Int} (h : intRight c = true) : 1 ≤ c.length := by
  unfold intRight at h
  simp only [decide_eq_true_eq] at h
  omega
theorem sg_zero (c : List Int) : sg c 0 = if 128 ≤ c.getD 0 0 then -1 else 0 := by
  unfold sg
  simp [beN_nil]
  split <;> rfl
theorem sg_succ (c : List Int) (i : Nat) (h : i < c.length) : sg c (i + 1) = sg c i * 256 + c.getD i 0 := by
  unfold sg
  rw [beN_take_succ c i h]
  split
  · rw [Int.pow_succ]; omega
  · omega
theorem sg_eq (c : List Int) (i : Nat) (hb : Byt c) (hi : i < c.length) : ∃ r p : Int, 0 ≤ r ∧ r < p ∧ p = 256 ^ i ∧ beN (c.take (i + 1)) = c.getD 0 0 * p + r := by
  obtain ⟨x, cs, rfl⟩ : ∃ x cs, c = x :: cs := by
    cases c with
    | nil => simp at hi
    | cons x cs => exact ⟨x, cs, rfl⟩
  have hl : (cs.take i).length = i := by simp at hi ⊢; omega
  obtain ⟨h0, h1⟩ := beN_bd i (cs.take i) (fun z hz => hb z (by simp [List.mem_of_mem_take hz])) hl
  refine ⟨_, _, h0, h1, rfl, ?_⟩
  rw [List.take_succ_cons, beN_cons, hl]
  rfl
theorem sg_bd (c : List Int) (i : Nat) (hb : Byt c) (hi : i ≤ c.length) (h8 : i ≤ 8) : -9223372036854775808 ≤ sg c i ∧ sg c i ≤ 9223372036854775807 := by
  rcases Nat.eq_zero_or_pos i with rfl | hp
  · rw [sg_zero]
    split <;> omega
  · obtain ⟨j, rfl⟩ : ∃ j, i = j + 1 := ⟨i - 1, by omega⟩
    obtain ⟨r, p, h0, h1, h2, h3⟩ := sg_eq c j hb (by omega)
    obtain ⟨x0, x1⟩ := Byt.getD hb 0
    obtain ⟨p0, p1⟩ := pow_mono j (7 - j)
    have e7 : (256 : Int) ^ (j + (7 - j)) = 72057594037927936 := by rw [show j + (7 - j) = 7 by omega]; rfl
    rw [← h2] at p0 p1
    rw [e7] at p1
    unfold sg
    rw [h3, Int.pow_succ, ← h2]
    have m1 : c.getD 0 0 * p ≤ 255 * p := Int.mul_le_mul_of_nonneg_right x1 p0
    have m0 : 0 * p ≤ c.getD 0 0 * p := Int.mul_le_mul_of_nonneg_right x0 p0
    split
    · rename_i h
      have m2 : 128 * p ≤ c.getD 0 0 * p := Int.mul_le_mul_of_nonneg_right h p0
      omega
    · rename_i h
      have m2 : c.getD 0 0 * p ≤ 127 * p := Int.mul_le_mul_of_nonneg_right (by omega) p0
      omega
/-- The first bit is the sign's. -/
theorem beN_sign (c : List Int) (i : Nat) (hb : Byt c) (hi : i < c.length) : (128 ≤ c.getD 0 0 ↔ 128 * 256 ^ i ≤ beN (c.take (i + 1))) := by
  obtain ⟨r, p, h0, h1, h2, h3⟩ := sg_eq c i hb hi
  have p0 : 0 ≤ p := by omega
  rw [h3, ← h2]
  constructor
  · intro h
    have m2 : 128 * p ≤ c.getD 0 0 * p := Int.mul_le_mul_of_nonneg_right h p0
    omega
  · intro h
    rcases Int.lt_or_le (c.getD 0 0) 128 with h4 | h4
    · have m2 : c.getD 0 0 * p ≤ 127 * p := Int.mul_le_mul_of_nonneg_right (by omega) p0
      omega
    · exact h4
theorem i64_or_byte (V x : Nat) (hV : V < 18446744073709551616) (hm : V % 256 = 0) (hx : x < 256) : bits .or .i64 (IntKind.i64.wrap (V : Int)) (x : Int) = IntKind.i64.wrap ((V : Int) + x) := by
  show IntKind.i64.wrap ((BitVec.ofInt 64 (IntKind.i64.wrap (V : Int)) ||| BitVec.ofInt 64 (x : Int)).toNat : Int) = _
  have e1 : (BitVec.ofInt 64 (IntKind.i64.wrap (V : Int))).toNat = V := by
    simp only [BitVec.toNat_ofInt, IntKind.wrap, IntKind.bits, IntKind.signed]
    simp
    omega
  have e2 : (BitVec.ofInt 64 (x : Int)).toNat = x := ofInt_u64 x (by omega)
  rw [BitVec.toNat_or, e1, e2, nat_join 8 V x hm hx]
  congr 1
theorem i64_wrap_mul (a : Int) (k : Int) : IntKind.i64.wrap (IntKind.i64.wrap a * k) = IntKind.i64.wrap (a * k) := by
  have h : ∃ q : Int, IntKind.i64.wrap a = a + 18446744073709551616 * q := by
    refine ⟨(IntKind.i64.wrap a - a) / 18446744073709551616, ?_⟩
    simp [IntKind.wrap, IntKind.bits, IntKind.signed]
    omega
  obtain ⟨q, hq⟩ := h
  rw [hq, Int.add_mul]
  have : 18446744073709551616 * q * k = 18446744073709551616 * (q * k) := by rw [Int.mul_assoc]
  rw [this]
  generalize a * k = u
  generalize q * k = v
  simp [IntKind.wrap, IntKind.bits, IntKind.signed]
/-- Shifting up and down brings the sign. -/
theorem sign_shift (c : List Int) (hb : Byt c) (L : Nat) (hL : c.length = L) (h1 : 1 ≤ L) (h8 : L ≤ 8) : IntKind.i64.wrap (beN c * 2 ^ (64 - 8 * L)) / 2 ^ (64 - 8 * L) = sg c L := by
  have hs := beN_sign c (L - 1) hb (by omega)
  have e : c.take (L - 1 + 1) = c := List.take_of_length_le (by omega)
  have e' : c.take L = c := List.take_of_length_le (by omega)
  obtain ⟨b0, b1⟩ := beN_bd L c hb hL
  unfold sg
  rw [e] at hs
  rw [e']
  generalize beN c = v at *
  generalize c.getD 0 0 = x at *
  obtain rfl | rfl | rfl | rfl | rfl | rfl | rfl | rfl : L = 1 ∨ L = 2 ∨ L = 3 ∨ L = 4 ∨ L = 5 ∨ L = 6 ∨ L = 7 ∨ L = 8 := by omega
  all_goals
    simp [IntKind.wrap, IntKind.bits, IntKind.signed] at *
    split <;> omega
theorem or_byte64 (V x : Nat) (hV : V < 18446744073709551616) (hm : V % 256 = 0) (hx : x < 256) : bits .or .i64 (wrap64 (V : Int)) (x : Int) = wrap64 ((V : Int) + x) := by
  rw [← IntWalk.i64_left, ← IntWalk.i64_left]
  exact i64_or_byte V x hV hm hx
theorem sign_shift64 (c : List Int) (hb : Byt c) (L : Nat) (hL : c.length = L) (h1 : 1 ≤ L) (h8 : L ≤ 8) : wrap64 (wrap64 (beN c) * 2 ^ (64 - 8 * L)) / 2 ^ (64 - 8 * L) = sg c L := by
  rw [← IntWalk.i64_left, ← IntWalk.i64_left, i64_wrap_mul]
  exact sign_shift c hb L hL h1 h8
theorem and_low : ∀ p : Nat, p < 8 → ∀ x : Nat, x < 256 → bits .and .u8 (x : Int) ((2 : Int) ^ p - 1) = (x : Int) % 2 ^ p := by decide +kernel
theorem and128_lo : ∀ k : Nat, k < 128 → bits .and .u8 (k : Int) 128 = 0 := by decide +kernel
theorem and128_hi' : ∀ k : Nat, k < 256 → 128 ≤ k → bits .and .u8 (k : Int) 128 = 128 := by decide +kernel
theorem u8_and128 (x : Int) (h0 : 0 ≤ x) (h1 : x ≤ 255) : bits .and .u8 x 128 = if x < 128 then 0 else 128 := by
  obtain ⟨k, rfl⟩ := Int.eq_ofNat_of_zero_le h0
  split
  · exact and128_lo k (by omega)
  · exact and128_hi' k (by omega) (by omega)
end Go.Proofs.Ytndnglpehghmeaa

/-! ### Bytes as they are built: numbers, lengths, elements of DER: plain definitions and laws. No program. -/
namespace Go.Proofs.Ytndnglpehghmeaa

/-- A number in k bytes, the highest first; what does not fit is left out. -/
def bigB (v : Int) : Nat → List Int
  | 0 => []
  | k + 1 => bigB (v / 256) k ++ [v % 256]
theorem bigB_succ (v : Int) (k : Nat) : bigB v (k + 1) = bigB (v / 256) k ++ [v % 256] := rfl
theorem bigB_len : ∀ (k : Nat) (v : Int), (bigB v k).length = k
  | 0, _ => rfl
  | k + 1, v => by rw [bigB_succ, List.length_append, bigB_len k]; rfl
theorem bigB_byt : ∀ (k : Nat) (v : Int), ∀ x ∈ bigB v k, 0 ≤ x ∧ x ≤ 255
  | 0, _ => by intro x hx; cases hx
  | k + 1, v => by
    intro x hx
    rw [bigB_succ] at hx
    rcases List.mem_append.1 hx with h | h
    · exact bigB_byt k _ x h
    · simp only [List.mem_singleton] at h
      omega
theorem bigB_cons : ∀ (k : Nat) (v : Int), bigB v (k + 1) = (v / 256 ^ k % 256) :: bigB v k
  | 0, v => by simp [bigB]
  | k + 1, v => by
    rw [bigB_succ, bigB_cons k (v / 256), bigB_succ v k]
    have e : v / 256 / 256 ^ k = v / 256 ^ (k + 1) := by
      rw [Int.ediv_ediv_of_nonneg (by decide), Int.pow_succ, Int.mul_comm]
    rw [e]
    rfl
theorem beN_bigB : ∀ (k : Nat) (v : Int), beN (bigB v k) = v % 256 ^ k
  | 0, v => by simp [bigB, beN, Int.emod_one]
  | k + 1, v => by
    rw [bigB_succ, beN_snoc, beN_bigB k, Int.pow_succ]
    have hp : (0 : Int) < 256 ^ k := Int.pow_pos (by decide)
    have h1 := Int.emod_add_mul_ediv (v / 256) (256 ^ k)
    have h2 := Int.emod_lt_of_pos (v / 256) hp
    have h3 := Int.emod_nonneg (v / 256) (Int.ne_of_gt hp)
    generalize (v / 256) % 256 ^ k = r at *
    generalize v / 256 / 256 ^ k = q at *
    generalize (256 : Int) ^ k = p at *
    have h4 : v = (r * 256 + v % 256) + p * 256 * q := by
      have : p * 256 * q = 256 * (p * q) := by rw [Int.mul_assoc, Int.mul_comm, Int.mul_assoc, Int.mul_comm q p]
      omega
    have h5 : v % (p * 256) = (r * 256 + v % 256) % (p * 256) := by
      conv => lhs; rw [h4]
      rw [Int.add_mul_emod_self_left]
    rw [h5, Int.emod_eq_of_lt (a := r * 256 + v % 256) (b := p * 256) (by omega) (by omega)]
theorem bigB_beN : ∀ (n : Nat) (xs : List Int), (∀ x ∈ xs, 0 ≤ x ∧ x ≤ 255) → xs.length = n → bigB (beN xs) n = xs := by
  intro n
  induction n with
  | zero =>
    intro xs _ hl
    rw [List.eq_nil_of_length_eq_zero hl]
    rfl
  | succ n ih =>
    intro xs hb hl
    have hne : xs ≠ [] := by intro e; subst e; simp at hl
    obtain ⟨ys, y, rfl⟩ : ∃ ys y, xs = ys ++ [y] := ⟨xs.dropLast, xs.getLast hne, (List.dropLast_concat_getLast hne).symm⟩
    have h1 := ih ys (fun x hx => hb x (by simp [hx])) (by simpa using hl)
    have h2 := hb y (by simp)
    rw [beN_snoc, bigB_succ, show (beN ys * 256 + y) / 256 = beN ys by omega, show (beN ys * 256 + y) % 256 = y by omega, h1]
/-- Only the lowest bytes count. -/
theorem bigB_add : ∀ (k : Nat) (v q : Int), bigB (v + 256 ^ k * q) k = bigB v k
  | 0, _, _ => rfl
  | k + 1, v, q => by
    have e : (256 : Int) ^ (k + 1) * q = 256 * (256 ^ k * q) := by rw [Int.pow_succ, Int.mul_comm (256 ^ k) 256, Int.mul_assoc]
    rw [bigB_succ, bigB_succ, e]
    have e1 : (v + 256 * (256 ^ k * q)) / 256 = v / 256 + 256 ^ k * q := by omega
    have e2 : (v + 256 * (256 ^ k * q)) % 256 = v % 256 := by omega
    rw [e1, e2, bigB_add k]
theorem bigB_one (v : Int) : bigB v 1 = [v % 256] := rfl

/-! ### lengths and elements -/
/-- How many bytes a length takes. -/
def nb (n : Nat) : Nat := if n < 256 then 1 else if n < 65536 then 2 else if n < 16777216 then 3 else 4
theorem nb_bd (n : Nat) : 1 ≤ nb n ∧ nb n ≤ 4 := by
  unfold nb
  repeat' split
  all_goals omega
def hdr (t : Int) (n : Nat) : List Int := if n < 128 then [t, n] else [t, (128 + nb n : Nat)] ++ bigB n (nb n)
/-- An element of a tag and contents. -/
def wrapped (t : Int) (c : List Int) : List Int := hdr t c.length ++ c
theorem hdr_short {t : Int} {n : Nat} (h : n < 128) : hdr t n = [t, n] := by unfold hdr; rw [if_pos h]
theorem hdr_long {t : Int} {n : Nat} (h : 128 ≤ n) : hdr t n = [t, (128 + nb n : Nat)] ++ bigB n (nb n) := by unfold hdr; rw [if_neg (by omega)]
theorem hdr_len (t : Int) (n : Nat) : (hdr t n).length = if n < 128 then 2 else 2 + nb n := by
  by_cases h : n < 128
  · rw [hdr_short h, if_pos h]; rfl
  · rw [hdr_long (by omega), if_neg h, List.length_append, bigB_len]; rfl
theorem hdr_len_le (t : Int) (n : Nat) : 2 ≤ (hdr t n).length ∧ (hdr t n).length ≤ 6 := by
  rw [hdr_len]
  have := nb_bd n
  split <;> omega
theorem hdr_byt {t : Int} {n : Nat} (ht : 0 ≤ t ∧ t ≤ 255) : ∀ x ∈ hdr t n, 0 ≤ x ∧ x ≤ 255 := by
  intro x hx
  by_cases h : n < 128
  · rw [hdr_short h] at hx
    simp only [List.mem_cons, List.not_mem_nil, or_false] at hx
    rcases hx with rfl | rfl <;> omega
  · rw [hdr_long (by omega)] at hx
    have := nb_bd n
    simp only [List.mem_append, List.mem_cons, List.not_mem_nil, or_false] at hx
    rcases hx with (rfl | rfl) | hx
    · omega
    · omega
    · exact bigB_byt _ _ x hx
theorem nb_val (n : Nat) (hn : n < 4294967296) : (n : Int) % 256 ^ nb n = n ∧ (0 < n → (n : Int) / 256 ^ (nb n - 1) % 256 ≠ 0) := by
  have p1 : (256 : Int) ^ 1 = 256 := by decide
  have p2 : (256 : Int) ^ 2 = 65536 := by decide
  have p3 : (256 : Int) ^ 3 = 16777216 := by decide
  have p4 : (256 : Int) ^ 4 = 4294967296 := by decide
  unfold nb
  split
  · rw [p1, show (1 : Nat) - 1 = 0 from rfl, Int.pow_zero]
    exact ⟨by omega, fun _ => by omega⟩
  · split
    · rw [p2, show (2 : Nat) - 1 = 1 from rfl, p1]
      exact ⟨by omega, fun _ => by omega⟩
    · split
      · rw [p3, show (3 : Nat) - 1 = 2 from rfl, p2]
        exact ⟨by omega, fun _ => by omega⟩
      · rw [p4, show (4 : Nat) - 1 = 3 from rfl, p3]
        exact ⟨by omega, fun _ => by omega⟩
/-- The bytes of a length, as many as it takes, are told only so. -/
theorem nb_unique {n m : Nat} (h1 : 1 ≤ m) (h4 : m ≤ 4) (hlo : (256 : Int) ^ (m - 1) ≤ n) (hhi : (n : Int) < 256 ^ m) : nb n = m := by
  obtain rfl | rfl | rfl | rfl : m = 1 ∨ m = 2 ∨ m = 3 ∨ m = 4 := by omega
  all_goals
    unfold nb
    simp only [show (1 : Nat) - 1 = 0 from rfl, show (2 : Nat) - 1 = 1 from rfl, show (3 : Nat) - 1 = 2 from rfl, show (4 : Nat) - 1 = 3 from rfl, show (256 : Int) ^ 0 = 1 from by decide, show (256 : Int) ^ 1 = 256 from by decide, show (256 : Int) ^ 2 = 65536 from by decide, show (256 : Int) ^ 3 = 16777216 from by decide, show (256 : Int) ^ 4 = 4294967296 from by decide] at hlo hhi
    repeat' split
    all_goals omega
theorem getD_append_hd (a b : Int) (l : List Int) : (a :: b :: l).getD 0 0 = a ∧ (a :: b :: l).getD 1 0 = b := ⟨rfl, rfl⟩
theorem first_hdr {t : Int} {n : Nat} {c : List Int} (h31 : t % 32 ≠ 31) (hn : n < 4294967296) (hc : n ≤ c.length) :
    first (hdr t n ++ c) = some (t, (hdr t n).length, (hdr t n).length + n) := by
  by_cases h : n < 128
  · rw [hdr_short h]
    have hl : lenOf ([t, (n : Int)] ++ c) = some (2, n) := by
      unfold lenOf
      rw [show ([t, (n : Int)] ++ c).getD 1 0 = n from rfl, if_pos (by omega), Int.toNat_natCast]
    unfold first
    rw [show ([t, (n : Int)] ++ c).getD 0 0 = t from rfl, if_neg (by simp; omega), hl]
    simp only [List.length_append, List.length_cons, List.length_nil]
    rw [if_neg (by omega)]
  · have hb := nb_bd n
    obtain ⟨v1, v2⟩ := nb_val n hn
    rw [hdr_long (by omega)]
    generalize hm : nb n = m at *
    have hxs : [t, ((128 + m : Nat) : Int)] ++ bigB n m ++ c = t :: ((128 + m : Nat) : Int) :: (bigB n m ++ c) := by simp
    have hlen : (t :: ((128 + m : Nat) : Int) :: (bigB n m ++ c)).length = 2 + m + c.length := by simp [bigB_len]; omega
    have hbe : beN (((t :: ((128 + m : Nat) : Int) :: (bigB n m ++ c)).drop 2).take m) = n := by
      have : ((t :: ((128 + m : Nat) : Int) :: (bigB n m ++ c)).drop 2).take m = bigB n m := by
        show (bigB n m ++ c).take m = _
        rw [List.take_append_of_le_length (by rw [bigB_len]; exact Nat.le_refl _), List.take_of_length_le (by rw [bigB_len]; exact Nat.le_refl _)]
      rw [this, beN_bigB, v1]
    have htop : (t :: ((128 + m : Nat) : Int) :: (bigB n m ++ c)).getD 2 0 ≠ 0 := by
      obtain ⟨k, rfl⟩ : ∃ k, m = k + 1 := ⟨m - 1, by omega⟩
      rw [bigB_cons]
      exact v2 (by omega)
    have hf := first_long (xs := t :: ((128 + m : Nat) : Int) :: (bigB n m ++ c)) (m := m) (by omega) (by simpa using h31) (by show ((128 + m : Nat) : Int) = _; omega) hb.1 hb.2 (by omega) hbe
    rw [hxs, hf, if_neg (by omega), if_neg (by rw [hlen]; omega)]
    simp only [Option.some.injEq, Prod.mk.injEq, List.length_append, List.length_cons, List.length_nil, bigB_len]
    exact ⟨rfl, trivial, by omega⟩
theorem firstOf_wrapped {t tag : Int} {c r : List Int} (h31 : t % 32 ≠ 31) (hn : c.length < 4294967296) : firstOf (wrapped t c ++ r) tag = if t = tag then some (c, r) else none := by
  unfold firstOf wrapped
  rw [List.append_assoc, first_hdr h31 hn (by simp)]
  simp only
  by_cases e : t = tag
  · rw [if_pos e, if_pos e]
    congr 2
    · rw [← List.append_assoc, List.take_append_of_le_length (by simp), List.take_of_length_le (by simp)]
      rw [List.drop_append_of_le_length (by simp), List.drop_of_length_le (by simp)]
      rfl
    · rw [← List.append_assoc]
      rw [List.drop_append_of_le_length (by simp), List.drop_of_length_le (by simp)]
      rfl
  · rw [if_neg e, if_neg e]
theorem firstOf_high {xs : List Int} {tag : Int} (h : tag % 32 = 31) : firstOf xs tag = none := by
  unfold firstOf
  split
  · rename_i t hd n hf
    have := first_le hf
    rw [if_neg (by rintro rfl; omega)]
  · rfl
/-- What an element is, and only that. -/
theorem first_split {xs : List Int} {t : Int} {h e : Nat} (hb : ∀ x ∈ xs, 0 ≤ x ∧ x ≤ 255) (hf : first xs = some (t, h, e)) : xs.take h = hdr t (e - h) ∧ (hdr t (e - h)).length = h := by
  obtain ⟨f1, f2, f3, f4, f5, f6⟩ := first_le hf
  have hl : lenOf xs = some (h, e - h) := by
    unfold first at hf
    rw [if_neg (by omega)] at hf
    revert hf
    cases lenOf xs with
    | none => intro hf; simp at hf
    | some q =>
      obtain ⟨a, b⟩ := q
      intro hf
      simp only at hf
      split at hf
      · cases hf
      · simp only [Option.some.injEq, Prod.mk.injEq] at hf
        obtain ⟨_, rfl, rfl⟩ := hf
        simp
  obtain ⟨x0, x1, ys, rfl⟩ : ∃ x0 x1 ys, xs = x0 :: x1 :: ys := by
    match xs, (show 2 ≤ xs.length by omega) with
    | a :: b :: ys, _ => exact ⟨a, b, ys, rfl⟩
    | [], h => exact absurd h (by simp)
    | [_], h => exact absurd h (by simp)
  have hx1 := hb x1 (by simp)
  unfold lenOf at hl
  rw [show (x0 :: x1 :: ys).getD 1 0 = x1 from rfl, show (x0 :: x1 :: ys).getD 2 0 = ys.getD 0 0 from rfl] at hl
  have f5' : t = x0 := f5
  subst f5'
  by_cases hs : x1 < 128
  · rw [if_pos hs] at hl
    simp only [Option.some.injEq, Prod.mk.injEq] at hl
    obtain ⟨rfl, he⟩ := hl
    rw [hdr_short (by omega)]
    refine ⟨?_, rfl⟩
    show [t, x1] = _
    rw [show x1 = ((e - 2 : Nat) : Int) by omega]
  · rw [if_neg hs] at hl
    simp only at hl
    generalize hm : (x1 - 128).toNat = m at hl
    by_cases hc : m = 0 ∨ 4 < m ∨ (t :: x1 :: ys).length < 2 + m
    · rw [if_pos hc] at hl; cases hl
    · rw [if_neg hc] at hl
      have hd2 : ((t :: x1 :: ys).drop 2).take m = ys.take m := rfl
      rw [hd2] at hl
      by_cases hc2 : beN (ys.take m) < 128 ∨ ys.getD 0 0 = 0
      · rw [if_pos hc2] at hl; cases hl
      · rw [if_neg hc2] at hl
        simp only [Option.some.injEq, Prod.mk.injEq] at hl
        obtain ⟨rfl, he⟩ := hl
        have hlen : (ys.take m).length = m := by simp at hc ⊢; omega
        have hby : ∀ x ∈ ys.take m, 0 ≤ x ∧ x ≤ 255 := fun x hx => hb x (by simp [List.mem_of_mem_take hx])
        have hbd := beN_bd m _ hby hlen
        have hbb := bigB_beN m _ hby hlen
        have htop : 256 ^ (m - 1) ≤ beN (ys.take m) := by
          obtain ⟨y, zs, rfl⟩ : ∃ y zs, ys = y :: zs := by
            match ys, (show 0 < ys.length by simp at hlen; omega) with
            | a :: b, _ => exact ⟨a, b, rfl⟩
          obtain ⟨k, rfl⟩ : ∃ k, m = k + 1 := ⟨m - 1, by omega⟩
          have hy := hb y (by simp)
          have := beN_top y (zs.take k) hy.1 (fun z hz => hb z (by simp [List.mem_of_mem_take hz]))
          have hk : (zs.take k).length = k := by simp at hlen ⊢; omega
          rw [hk] at this
          rw [show (y :: zs).take (k + 1) = y :: zs.take k from rfl] at hc2 ⊢
          rw [show (y :: zs).getD 0 0 = y from rfl] at hc2
          show (256 : Int) ^ k ≤ _
          rcases Int.lt_or_le (beN (y :: zs.take k)) (256 ^ k) with h5 | h5
          · exact absurd (this.1 h5) (by omega)
          · exact h5
        generalize hv : beN (ys.take m) = v at *
        obtain ⟨n, rfl⟩ := Int.eq_ofNat_of_zero_le (show 0 ≤ v by omega)
        have hen : e - (2 + m) = n := by omega
        have hnb : nb n = m := nb_unique (by omega) (by omega) htop hbd.2
        rw [hen, hdr_long (by omega), hnb, hbb]
        refine ⟨?_, by simp [hlen]; omega⟩
        rw [Nat.add_comm 2 m]
        show t :: x1 :: ys.take m = _
        rw [show x1 = ((128 + m : Nat) : Int) by omega]
        rfl
theorem firstOf_split {xs c r : List Int} {tag : Int} (hb : ∀ x ∈ xs, 0 ≤ x ∧ x ≤ 255) (h : firstOf xs tag = some (c, r)) : wrapped tag c ++ r = xs ∧ tag % 32 ≠ 31 := by
  unfold firstOf at h
  split at h
  · rename_i t hd n hf
    obtain ⟨f1, f2, f3, f4, f5, f6⟩ := first_le hf
    obtain ⟨s1, s2⟩ := first_split hb hf
    split at h
    · rename_i e
      subst e
      simp only [Option.some.injEq, Prod.mk.injEq] at h
      obtain ⟨rfl, rfl⟩ := h
      refine ⟨?_, f6⟩
      have hl : ((xs.take n).drop hd).length = n - hd := by simp; omega
      unfold wrapped
      rw [hl, ← s1]
      have e1 : xs.take hd = (xs.take n).take hd := by rw [List.take_take, Nat.min_eq_left f2]
      rw [e1, List.take_append_drop, List.take_append_drop]
    · cases h
  · cases h
/-- A length that is told in more bytes than it takes is none. -/
theorem first_longer {t : Int} {n m : Nat} {c : List Int} (h1 : 1 ≤ m) (h4 : m ≤ 4) (hc : n = c.length) (hs : if m = 1 then n < 128 else n < 256 ^ (m - 1)) :
    first ([t, (128 + m : Nat)] ++ bigB n m ++ c) = none := by
  by_cases h31 : t % 32 = 31
  · unfold first
    rw [show ([t, ((128 + m : Nat) : Int)] ++ bigB n m ++ c).getD 0 0 = t by simp, if_pos (.inr h31)]
  · have hxs : [t, ((128 + m : Nat) : Int)] ++ bigB n m ++ c = t :: ((128 + m : Nat) : Int) :: (bigB n m ++ c) := by simp
    rw [hxs]
    have hlen : (t :: ((128 + m : Nat) : Int) :: (bigB n m ++ c)).length = 2 + m + c.length := by simp [bigB_len]; omega
    have hbe : beN (((t :: ((128 + m : Nat) : Int) :: (bigB n m ++ c)).drop 2).take m) = (n : Int) % 256 ^ m := by
      have : ((t :: ((128 + m : Nat) : Int) :: (bigB n m ++ c)).drop 2).take m = bigB n m := by
        show (bigB n m ++ c).take m = _
        rw [List.take_append_of_le_length (by rw [bigB_len]; exact Nat.le_refl _), List.take_of_length_le (by rw [bigB_len]; exact Nat.le_refl _)]
      rw [this, beN_bigB]
    have hf := first_long (xs := t :: ((128 + m : Nat) : Int) :: (bigB n m ++ c)) (m := m) (by omega) (by simpa using h31) (by show ((128 + m : Nat) : Int) = _; omega) h1 h4 (by omega) hbe
    rw [hf, if_pos]
    by_cases e : m = 1
    · subst e
      rw [if_pos rfl] at hs
      left
      rw [Int.pow_succ, Int.pow_zero]
      omega
    · rw [if_neg e] at hs
      right
      obtain ⟨k, rfl⟩ : ∃ k, m = k + 1 := ⟨m - 1, by omega⟩
      rw [bigB_cons]
      show (n : Int) / 256 ^ k % 256 = 0
      have : (n : Int) < 256 ^ k := by
        have h := Int.ofNat_lt.2 hs
        rwa [Int.natCast_pow] at h
      rw [Int.ediv_eq_zero_of_lt (by omega) this]
      rfl
end Go.Proofs.Ytndnglpehghmeaa

/-! ### The contents of integers as they are built, and that they are told so alone: plain definitions and laws. No program. -/
namespace Go.Proofs.Ytndnglpehghmeaa
open Go.RowKit

/-- How many bytes an integer takes. -/
def iL (v : Int) : Nat :=
  if -128 ≤ v ∧ v < 128 then 1 else if -32768 ≤ v ∧ v < 32768 then 2 else if -8388608 ≤ v ∧ v < 8388608 then 3 else if -2147483648 ≤ v ∧ v < 2147483648 then 4 else if -549755813888 ≤ v ∧ v < 549755813888 then 5 else if -140737488355328 ≤ v ∧ v < 140737488355328 then 6 else if -36028797018963968 ≤ v ∧ v < 36028797018963968 then 7 else 8
/-- How many bytes an integer takes that is not below 0. -/
def uL (v : Int) : Nat :=
  if v < 128 then 1 else if v < 32768 then 2 else if v < 8388608 then 3 else if v < 2147483648 then 4 else if v < 549755813888 then 5 else if v < 140737488355328 then 6 else if v < 36028797018963968 then 7 else if v < 9223372036854775808 then 8 else 9
def octs (v : Int) : List Int := bigB v (iL v)
def uocts (v : Int) : List Int := bigB v (uL v)
theorem p256 : (256 : Int) ^ 0 = 1 ∧ (256 : Int) ^ 1 = 256 ∧ (256 : Int) ^ 2 = 65536 ∧ (256 : Int) ^ 3 = 16777216 ∧ (256 : Int) ^ 4 = 4294967296 ∧ (256 : Int) ^ 5 = 1099511627776 ∧ (256 : Int) ^ 6 = 281474976710656 ∧ (256 : Int) ^ 7 = 72057594037927936 ∧ (256 : Int) ^ 8 = 18446744073709551616 ∧ (256 : Int) ^ 9 = 4722366482869645213696 := by decide
theorem iL_is (v : Int) (h0 : -9223372036854775808 ≤ v) (h1 : v ≤ 9223372036854775807) :
    (1 ≤ iL v ∧ iL v ≤ 8) ∧ (-(128 * 256 ^ (iL v - 1)) ≤ v ∧ v < 128 * 256 ^ (iL v - 1)) ∧ (2 ≤ iL v → ¬ (-(128 * 256 ^ (iL v - 2)) ≤ v ∧ v < 128 * 256 ^ (iL v - 2))) := by
  obtain ⟨p0, p1, p2, p3, p4, p5, p6, p7, _, _⟩ := p256
  unfold iL
  by_cases c1 : -128 ≤ v ∧ v < 128
  · rw [if_pos c1]
    simp only [Nat.reduceSub, p0]
    exact ⟨by omega, by omega, fun _ => by omega⟩
  rw [if_neg c1]
  by_cases c2 : -32768 ≤ v ∧ v < 32768
  · rw [if_pos c2]
    simp only [Nat.reduceSub, p1, p0]
    exact ⟨by omega, by omega, fun _ => by omega⟩
  rw [if_neg c2]
  by_cases c3 : -8388608 ≤ v ∧ v < 8388608
  · rw [if_pos c3]
    simp only [Nat.reduceSub, p2, p1]
    exact ⟨by omega, by omega, fun _ => by omega⟩
  rw [if_neg c3]
  by_cases c4 : -2147483648 ≤ v ∧ v < 2147483648
  · rw [if_pos c4]
    simp only [Nat.reduceSub, p3, p2]
    exact ⟨by omega, by omega, fun _ => by omega⟩
  rw [if_neg c4]
  by_cases c5 : -549755813888 ≤ v ∧ v < 549755813888
  · rw [if_pos c5]
    simp only [Nat.reduceSub, p4, p3]
    exact ⟨by omega, by omega, fun _ => by omega⟩
  rw [if_neg c5]
  by_cases c6 : -140737488355328 ≤ v ∧ v < 140737488355328
  · rw [if_pos c6]
    simp only [Nat.reduceSub, p5, p4]
    exact ⟨by omega, by omega, fun _ => by omega⟩
  rw [if_neg c6]
  by_cases c7 : -36028797018963968 ≤ v ∧ v < 36028797018963968
  · rw [if_pos c7]
    simp only [Nat.reduceSub, p6, p5]
    exact ⟨by omega, by omega, fun _ => by omega⟩
  rw [if_neg c7]
  simp only [Nat.reduceSub, p7, p6]
  exact ⟨by omega, by omega, fun _ => by omega⟩
theorem iL_eq {v : Int} {L : Nat} (h1 : 1 ≤ L) (h8 : L ≤ 8) (hr : -(128 * 256 ^ (L - 1)) ≤ v ∧ v < 128 * 256 ^ (L - 1)) (hn : 2 ≤ L → ¬ (-(128 * 256 ^ (L - 2)) ≤ v ∧ v < 128 * 256 ^ (L - 2))) : iL v = L := by
  obtain ⟨p0, p1, p2, p3, p4, p5, p6, p7, _, _⟩ := p256
  obtain rfl | rfl | rfl | rfl | rfl | rfl | rfl | rfl : L = 1 ∨ L = 2 ∨ L = 3 ∨ L = 4 ∨ L = 5 ∨ L = 6 ∨ L = 7 ∨ L = 8 := by omega
  · simp only [Nat.reduceSub, p0] at hr
    clear hn
    unfold iL
    rw [if_pos (by omega)]
  · simp only [Nat.reduceSub, p1] at hr
    have hn := hn (by omega)
    simp only [Nat.reduceSub, p0] at hn
    unfold iL
    rw [if_neg (by omega), if_pos (by omega)]
  · simp only [Nat.reduceSub, p2] at hr
    have hn := hn (by omega)
    simp only [Nat.reduceSub, p1] at hn
    unfold iL
    rw [if_neg (by omega), if_neg (by omega), if_pos (by omega)]
  · simp only [Nat.reduceSub, p3] at hr
    have hn := hn (by omega)
    simp only [Nat.reduceSub, p2] at hn
    unfold iL
    rw [if_neg (by omega), if_neg (by omega), if_neg (by omega), if_pos (by omega)]
  · simp only [Nat.reduceSub, p4] at hr
    have hn := hn (by omega)
    simp only [Nat.reduceSub, p3] at hn
    unfold iL
    rw [if_neg (by omega), if_neg (by omega), if_neg (by omega), if_neg (by omega), if_pos (by omega)]
  · simp only [Nat.reduceSub, p5] at hr
    have hn := hn (by omega)
    simp only [Nat.reduceSub, p4] at hn
    unfold iL
    rw [if_neg (by omega), if_neg (by omega), if_neg (by omega), if_neg (by omega), if_neg (by omega), if_pos (by omega)]
  · simp only [Nat.reduceSub, p6] at hr
    have hn := hn (by omega)
    simp only [Nat.reduceSub, p5] at hn
    unfold iL
    rw [if_neg (by omega), if_neg (by omega), if_neg (by omega), if_neg (by omega), if_neg (by omega), if_neg (by omega), if_pos (by omega)]
  · simp only [Nat.reduceSub, p7] at hr
    have hn := hn (by omega)
    simp only [Nat.reduceSub, p6] at hn
    unfold iL
    rw [if_neg (by omega), if_neg (by omega), if_neg (by omega), if_neg (by omega), if_neg (by omega), if_neg (by omega), if_neg (by omega)]
theorem uL_is (v : Int) (h0 : 0 ≤ v) (h1 : v ≤ 18446744073709551615) :
    (1 ≤ uL v ∧ uL v ≤ 9) ∧ v < 128 * 256 ^ (uL v - 1) ∧ (2 ≤ uL v → 128 * 256 ^ (uL v - 2) ≤ v) := by
  obtain ⟨p0, p1, p2, p3, p4, p5, p6, p7, p8, _⟩ := p256
  unfold uL
  by_cases c1 : v < 128
  · rw [if_pos c1]
    simp only [Nat.reduceSub, p0]
    exact ⟨by omega, by omega, fun _ => by omega⟩
  rw [if_neg c1]
  by_cases c2 : v < 32768
  · rw [if_pos c2]
    simp only [Nat.reduceSub, p1, p0]
    exact ⟨by omega, by omega, fun _ => by omega⟩
  rw [if_neg c2]
  by_cases c3 : v < 8388608
  · rw [if_pos c3]
    simp only [Nat.reduceSub, p2, p1]
    exact ⟨by omega, by omega, fun _ => by omega⟩
  rw [if_neg c3]
  by_cases c4 : v < 2147483648
  · rw [if_pos c4]
    simp only [Nat.reduceSub, p3, p2]
    exact ⟨by omega, by omega, fun _ => by omega⟩
  rw [if_neg c4]
  by_cases c5 : v < 549755813888
  · rw [if_pos c5]
    simp only [Nat.reduceSub, p4, p3]
    exact ⟨by omega, by omega, fun _ => by omega⟩
  rw [if_neg c5]
  by_cases c6 : v < 140737488355328
  · rw [if_pos c6]
    simp only [Nat.reduceSub, p5, p4]
    exact ⟨by omega, by omega, fun _ => by omega⟩
  rw [if_neg c6]
  by_cases c7 : v < 36028797018963968
  · rw [if_pos c7]
    simp only [Nat.reduceSub, p6, p5]
    exact ⟨by omega, by omega, fun _ => by omega⟩
  rw [if_neg c7]
  by_cases c8 : v < 9223372036854775808
  · rw [if_pos c8]
    simp only [Nat.reduceSub, p7, p6]
    exact ⟨by omega, by omega, fun _ => by omega⟩
  rw [if_neg c8]
  simp only [Nat.reduceSub, p8, p7]
  exact ⟨by omega, by omega, fun _ => by omega⟩
theorem uL_eq {v : Int} {L : Nat} (h1 : 1 ≤ L) (h9 : L ≤ 9) (hr : v < 128 * 256 ^ (L - 1)) (hn : 2 ≤ L → 128 * 256 ^ (L - 2) ≤ v) : uL v = L := by
  obtain ⟨p0, p1, p2, p3, p4, p5, p6, p7, p8, _⟩ := p256
  obtain rfl | rfl | rfl | rfl | rfl | rfl | rfl | rfl | rfl : L = 1 ∨ L = 2 ∨ L = 3 ∨ L = 4 ∨ L = 5 ∨ L = 6 ∨ L = 7 ∨ L = 8 ∨ L = 9 := by omega
  · simp only [Nat.reduceSub, p0] at hr
    clear hn
    unfold uL
    rw [if_pos (by omega)]
  · simp only [Nat.reduceSub, p1] at hr
    have hn := hn (by omega)
    simp only [Nat.reduceSub, p0] at hn
    unfold uL
    rw [if_neg (by omega), if_pos (by omega)]
  · simp only [Nat.reduceSub, p2] at hr
    have hn := hn (by omega)
    simp only [Nat.reduceSub, p1] at hn
    unfold uL
    rw [if_neg (by omega), if_neg (by omega), if_pos (by omega)]
  · simp only [Nat.reduceSub, p3] at hr
    have hn := hn (by omega)
    simp only [Nat.reduceSub, p2] at hn
    unfold uL
    rw [if_neg (by omega), if_neg (by omega), if_neg (by omega), if_pos (by omega)]
  · simp only [Nat.reduceSub, p4] at hr
    have hn := hn (by omega)
    simp only [Nat.reduceSub, p3] at hn
    unfold uL
    rw [if_neg (by omega), if_neg (by omega), if_neg (by omega), if_neg (by omega), if_pos (by omega)]
  · simp only [Nat.reduceSub, p5] at hr
    have hn := hn (by omega)
    simp only [Nat.reduceSub, p4] at hn
    unfold uL
    rw [if_neg (by omega), if_neg (by omega), if_neg (by omega), if_neg (by omega), if_neg (by omega), if_pos (by omega)]
  · simp only [Nat.reduceSub, p6] at hr
    have hn := hn (by omega)
    simp only [Nat.reduceSub, p5] at hn
    unfold uL
    rw [if_neg (by omega), if_neg (by omega), if_neg (by omega), if_neg (by omega), if_neg (by omega), if_neg (by omega), if_pos (by omega)]
  · simp only [Nat.reduceSub, p7] at hr
    have hn := hn (by omega)
    simp only [Nat.reduceSub, p6] at hn
    unfold uL
    rw [if_neg (by omega), if_neg (by omega), if_neg (by omega), if_neg (by omega), if_neg (by omega), if_neg (by omega), if_neg (by omega), if_pos (by omega)]
  · simp only [Nat.reduceSub, p8] at hr
    have hn := hn (by omega)
    simp only [Nat.reduceSub, p7] at hn
    unfold uL
    rw [if_neg (by omega), if_neg (by omega), if_neg (by omega), if_neg (by omega), if_neg (by omega), if_neg (by omega), if_neg (by omega), if_neg (by omega)]
theorem pow_le256 {a b : Nat} (h : a ≤ b) : (256 : Int) ^ a ≤ 256 ^ b := by
  have := (pow_mono a (b - a)).2
  rwa [show a + (b - a) = b by omega] at this
theorem iL_le (v : Int) (h0 : -9223372036854775808 ≤ v) (h1 : v ≤ 9223372036854775807) (j : Nat) : (-128 ≤ v / 256 ^ j ∧ v / 256 ^ j ≤ 127) ↔ iL v ≤ j + 1 := by
  obtain ⟨hb, hr, hn⟩ := iL_is v h0 h1
  have hp : (0 : Int) < 256 ^ j := Int.pow_pos (by decide)
  have e1 : (-128 ≤ v / 256 ^ j ↔ -(128 * 256 ^ j) ≤ v) := by
    rw [Int.le_ediv_iff_mul_le hp, show -128 * (256 : Int) ^ j = -(128 * 256 ^ j) by omega]
  have e2 : (v / 256 ^ j ≤ 127 ↔ v < 128 * 256 ^ j) := by
    rw [show (v / 256 ^ j ≤ 127 ↔ v / 256 ^ j < 128) by omega, Int.ediv_lt_iff_lt_mul hp]
  rw [e1, e2]
  constructor
  · intro h
    rcases Nat.lt_or_ge (j + 1) (iL v) with hlt | hle
    · exfalso
      have := hn (by omega)
      have hm := pow_le256 (show j ≤ iL v - 2 by omega)
      omega
    · exact hle
  · intro h
    have hm := pow_le256 (show iL v - 1 ≤ j by omega)
    omega
theorem uL_le (v : Int) (h0 : 0 ≤ v) (h1 : v ≤ 18446744073709551615) (j : Nat) : v / 256 ^ j < 128 ↔ uL v ≤ j + 1 := by
  obtain ⟨hb, hr, hn⟩ := uL_is v h0 h1
  have hp : (0 : Int) < 256 ^ j := Int.pow_pos (by decide)
  rw [Int.ediv_lt_iff_lt_mul hp]
  constructor
  · intro h
    rcases Nat.lt_or_ge (j + 1) (uL v) with hlt | hle
    · exfalso
      have := hn (by omega)
      have hm := pow_le256 (show j ≤ uL v - 2 by omega)
      omega
    · exact hle
  · intro h
    have hm := pow_le256 (show uL v - 1 ≤ j by omega)
    omega
theorem uL_iL (v : Int) (h0 : 0 ≤ v) (h1 : v ≤ 9223372036854775807) : uL v = iL v := by
  obtain ⟨hb, hr, hn⟩ := iL_is v (by omega) h1
  refine uL_eq hb.1 (by omega) hr.2 fun h2 => ?_
  have := hn h2
  have hp : (0 : Int) < 256 ^ (iL v - 2) := Int.pow_pos (by decide)
  omega
theorem octs_len (v : Int) : (octs v).length = iL v := bigB_len _ _
theorem uocts_len (v : Int) : (uocts v).length = uL v := bigB_len _ _
theorem octs_byt (v : Int) : Byt (octs v) := bigB_byt _ _
theorem uocts_byt (v : Int) : Byt (uocts v) := bigB_byt _ _
theorem bigB_take_drop (k m : Nat) (v : Int) : bigB v (m + k) = bigB (v / 256 ^ k) m ++ bigB v k := by
  induction k generalizing v with
  | zero => simp [bigB]
  | succ k ih =>
    rw [← Nat.add_assoc, bigB_succ, ih, bigB_succ v k, ← List.append_assoc, Int.ediv_ediv_of_nonneg (by decide), Int.pow_succ, Int.mul_comm 256]
/-- The two highest bytes, and what the others come to. -/
theorem bytes_two {c : List Int} {L : Nat} (hb : Byt c) (hL : c.length = L + 2) : ∃ r : Int, 0 ≤ r ∧ r < 256 ^ L ∧ beN c = c.getD 0 0 * 256 ^ (L + 1) + c.getD 1 0 * 256 ^ L + r := by
  obtain ⟨a, b, d, rfl⟩ : ∃ a b d, c = a :: b :: d := by
    match c, (show 2 ≤ c.length by omega) with
    | a :: b :: ys, _ => exact ⟨a, b, ys, rfl⟩
    | [], h => exact absurd h (by simp)
    | [_], h => exact absurd h (by simp)
  have hd : d.length = L := by simpa using hL
  have hbd := beN_bd L d (fun x hx => hb x (by simp [hx])) hd
  refine ⟨beN d, hbd.1, hbd.2, ?_⟩
  rw [beN_cons, beN_cons, List.length_cons, hd]
  show a * 256 ^ (L + 1) + (b * 256 ^ L + beN d) = a * 256 ^ (L + 1) + b * 256 ^ L + beN d
  omega
/-- An integer's contents as they are told: the bounds of its value. -/
theorem int_range {c : List Int} {v : Int} {L : Nat} (hL : c.length = L) (hb : Byt c) (hr : intRight c = true) (h8 : L ≤ 8) (hv : beN c = v + 256 ^ L * (if 128 ≤ c.getD 0 0 then 1 else 0)) :
    (-(128 * 256 ^ (L - 1)) ≤ v ∧ v < 128 * 256 ^ (L - 1)) ∧ (2 ≤ L → ¬ (-(128 * 256 ^ (L - 2)) ≤ v ∧ v < 128 * 256 ^ (L - 2))) := by
  have h1 := intRight_pos hr
  have hg0 := Byt.getD hb 0
  have hg1 := Byt.getD hb 1
  unfold intRight at hr
  simp only [decide_eq_true_eq] at hr
  obtain ⟨p0, p1, p2, p3, p4, p5, p6, p7, p8, _⟩ := p256
  by_cases e1 : c.length = 1
  · obtain ⟨a, rfl⟩ : ∃ a, c = [a] := by
      match c, e1 with
      | [a], _ => exact ⟨a, rfl⟩
    obtain rfl : L = 1 := by simpa using hL.symm
    have : beN [a] = a := by simp [beN]
    rw [this] at hv
    have e : [a].getD 0 0 = a := rfl
    rw [e] at hv hg0
    simp only [p1, p0, Nat.reduceSub] at hv ⊢
    split at hv
    · exact ⟨by omega, by omega⟩
    · exact ⟨by omega, by omega⟩
  · obtain ⟨r, r0, r1, h2⟩ := bytes_two (L := L - 2) hb (by omega)
    rw [hv] at h2
    rw [hL] at hr h1 e1
    clear hb hL hv
    generalize c.getD 0 0 = a at *
    generalize c.getD 1 0 = b at *
    obtain rfl | rfl | rfl | rfl | rfl | rfl | rfl : L = 2 ∨ L = 3 ∨ L = 4 ∨ L = 5 ∨ L = 6 ∨ L = 7 ∨ L = 8 := by omega
    · simp only [Nat.reduceSub, Nat.reduceAdd, p0, p1, p2] at h2 r1 ⊢
      split at h2
      · exact ⟨⟨by omega, by omega⟩, fun _ => by omega⟩
      · exact ⟨⟨by omega, by omega⟩, fun _ => by omega⟩
    · simp only [Nat.reduceSub, Nat.reduceAdd, p1, p2, p3] at h2 r1 ⊢
      split at h2
      · exact ⟨⟨by omega, by omega⟩, fun _ => by omega⟩
      · exact ⟨⟨by omega, by omega⟩, fun _ => by omega⟩
    · simp only [Nat.reduceSub, Nat.reduceAdd, p2, p3, p4] at h2 r1 ⊢
      split at h2
      · exact ⟨⟨by omega, by omega⟩, fun _ => by omega⟩
      · exact ⟨⟨by omega, by omega⟩, fun _ => by omega⟩
    · simp only [Nat.reduceSub, Nat.reduceAdd, p3, p4, p5] at h2 r1 ⊢
      split at h2
      · exact ⟨⟨by omega, by omega⟩, fun _ => by omega⟩
      · exact ⟨⟨by omega, by omega⟩, fun _ => by omega⟩
    · simp only [Nat.reduceSub, Nat.reduceAdd, p4, p5, p6] at h2 r1 ⊢
      split at h2
      · exact ⟨⟨by omega, by omega⟩, fun _ => by omega⟩
      · exact ⟨⟨by omega, by omega⟩, fun _ => by omega⟩
    · simp only [Nat.reduceSub, Nat.reduceAdd, p5, p6, p7] at h2 r1 ⊢
      split at h2
      · exact ⟨⟨by omega, by omega⟩, fun _ => by omega⟩
      · exact ⟨⟨by omega, by omega⟩, fun _ => by omega⟩
    · simp only [Nat.reduceSub, Nat.reduceAdd, p6, p7, p8] at h2 r1 ⊢
      split at h2
      · exact ⟨⟨by omega, by omega⟩, fun _ => by omega⟩
      · exact ⟨⟨by omega, by omega⟩, fun _ => by omega⟩
theorem octs_of {c : List Int} {v : Int} (hb : Byt c) (h : intOf' c = some v) : octs v = c ∧ -9223372036854775808 ≤ v ∧ v ≤ 9223372036854775807 := by
  unfold intOf' at h
  split at h
  · rename_i hr
    obtain ⟨hr, h8⟩ := hr
    simp only [Option.some.injEq] at h
    have h1 := intRight_pos hr
    have hbd := sg_bd c c.length hb (Nat.le_refl _) h8
    rw [h] at hbd
    refine ⟨?_, hbd⟩
    have hsg : beN c = v + 256 ^ c.length * (if 128 ≤ c.getD 0 0 then 1 else 0) := by
      rw [← h]
      unfold sg
      rw [List.take_of_length_le (Nat.le_refl _)]
      split <;> omega
    have hbig : bigB v c.length = c := by
      have := bigB_beN c.length c hb rfl
      rw [hsg, bigB_add] at this
      exact this
    obtain ⟨i1, i2⟩ := int_range rfl hb hr h8 hsg
    unfold octs
    rw [iL_eq h1 h8 i1 i2, hbig]
  · cases h
theorem uint_range {c : List Int} {v : Int} {L : Nat} (hL : c.length = L) (hb : Byt c) (hr : intRight c = true) (hlt : c.getD 0 0 < 128) (h9 : L ≤ 8 ∨ L = 9 ∧ c.getD 0 0 = 0) (hv : beN c = v) :
    (0 ≤ v ∧ v ≤ 18446744073709551615) ∧ v < 128 * 256 ^ (L - 1) ∧ (2 ≤ L → 128 * 256 ^ (L - 2) ≤ v) := by
  have h1 := intRight_pos hr
  have hg0 := Byt.getD hb 0
  have hg1 := Byt.getD hb 1
  unfold intRight at hr
  simp only [decide_eq_true_eq] at hr
  obtain ⟨p0, p1, p2, p3, p4, p5, p6, p7, p8, _⟩ := p256
  by_cases e1 : c.length = 1
  · obtain ⟨a, rfl⟩ : ∃ a, c = [a] := by
      match c, e1 with
      | [a], _ => exact ⟨a, rfl⟩
    obtain rfl : L = 1 := by simpa using hL.symm
    have : beN [a] = a := by simp [beN]
    rw [this] at hv
    have e : [a].getD 0 0 = a := rfl
    rw [e] at hlt hg0
    simp only [p0, Nat.reduceSub]
    exact ⟨by omega, by omega, by omega⟩
  · obtain ⟨r, r0, r1, h2⟩ := bytes_two (L := L - 2) hb (by omega)
    rw [hv] at h2
    rw [hL] at hr h1 e1
    clear hb hL hv
    generalize c.getD 0 0 = a at *
    generalize c.getD 1 0 = b at *
    obtain rfl | rfl | rfl | rfl | rfl | rfl | rfl | rfl : L = 2 ∨ L = 3 ∨ L = 4 ∨ L = 5 ∨ L = 6 ∨ L = 7 ∨ L = 8 ∨ L = 9 := by omega
    · simp only [Nat.reduceSub, Nat.reduceAdd, p0, p1] at h2 r1 ⊢
      exact ⟨⟨by omega, by omega⟩, by omega, fun _ => by omega⟩
    · simp only [Nat.reduceSub, Nat.reduceAdd, p1, p2] at h2 r1 ⊢
      exact ⟨⟨by omega, by omega⟩, by omega, fun _ => by omega⟩
    · simp only [Nat.reduceSub, Nat.reduceAdd, p2, p3] at h2 r1 ⊢
      exact ⟨⟨by omega, by omega⟩, by omega, fun _ => by omega⟩
    · simp only [Nat.reduceSub, Nat.reduceAdd, p3, p4] at h2 r1 ⊢
      exact ⟨⟨by omega, by omega⟩, by omega, fun _ => by omega⟩
    · simp only [Nat.reduceSub, Nat.reduceAdd, p4, p5] at h2 r1 ⊢
      exact ⟨⟨by omega, by omega⟩, by omega, fun _ => by omega⟩
    · simp only [Nat.reduceSub, Nat.reduceAdd, p5, p6] at h2 r1 ⊢
      exact ⟨⟨by omega, by omega⟩, by omega, fun _ => by omega⟩
    · simp only [Nat.reduceSub, Nat.reduceAdd, p6, p7] at h2 r1 ⊢
      exact ⟨⟨by omega, by omega⟩, by omega, fun _ => by omega⟩
    · simp only [Nat.reduceSub, Nat.reduceAdd, p7, p8] at h2 r1 ⊢
      exact ⟨⟨by omega, by omega⟩, by omega, fun _ => by omega⟩
theorem uocts_of {c : List Int} {v : Int} (hb : Byt c) (h : uintOf c = some v) : uocts v = c ∧ 0 ≤ v ∧ v ≤ 18446744073709551615 := by
  unfold uintOf at h
  split at h
  · rename_i hr
    obtain ⟨hr, hlt, h9⟩ := hr
    simp only [Option.some.injEq] at h
    have h1 := intRight_pos hr
    have hbig := bigB_beN c.length c hb rfl
    rw [h] at hbig
    obtain ⟨i0, i1, i2⟩ := uint_range rfl hb hr hlt h9 h
    refine ⟨?_, i0⟩
    unfold uocts
    rw [uL_eq h1 (by omega) i1 i2, hbig]
  · cases h
end Go.Proofs.Ytndnglpehghmeaa

/-! ### Object identifiers: numbers in base 128, read and built: plain definitions and laws. No program. -/
namespace Go.Proofs.Ytndnglpehghmeaa

/-- The numbers that bytes tell in base 128, as the package reads them: i bytes of a number are read, they come to n. -/
def ra : Nat → Int → List Int → Option (List Int)
  | i, _, [] => if i = 0 then some [] else none
  | i, n, b :: bs => if i = 5 ∨ 16777216 ≤ n ∨ (i = 0 ∧ b = 128) then none else if b < 128 then (ra 0 0 bs).map (fun l => (n * 128 + b % 128) :: l) else ra (i + 1) (n * 128 + b % 128) bs
/-- The same, as the reference reads them. -/
def sa : List Int → List Int → Bool → Int → Bool → List Int × Bool × Bool
  | [], l, g, _, ins => (l, g, !ins)
  | b :: bs, l, g, n, ins =>
    if ins = false ∧ b = 128 then ([], false, false) else
    let m := n * 128 + b % 128
    let g' := g || decide (2147483647 < m)
    let m' := if 2147483647 < m then 2147483648 else m
    if b < 128 then sa bs (l ++ [m']) g' 0 false else sa bs l g' m' true
theorem sa_large : ∀ (xs l : List Int) (n : Int) (ins : Bool), (sa xs l true n ins).2.1 = true ∨ (sa xs l true n ins).2.2 = false := by
  intro xs
  induction xs with
  | nil => intro l n ins; left; rfl
  | cons b bs ih =>
    intro l n ins
    unfold sa
    split
    · right; rfl
    · simp only [Bool.true_or]
      split
      · exact ih _ _ _
      · exact ih _ _ _
/-- Where no number is too large, the two read alike. -/
theorem sa_ra : ∀ (xs l : List Int) (i : Nat) (n : Int) (ins : Bool), Byt xs → (ins = false ↔ i = 0) → 0 ≤ n → n ≤ 2147483647 → (i = 0 → n = 0) → (0 < i → (128 : Int) ^ (i - 1) ≤ n) → i ≤ 5 →
    (sa xs l false n ins).2.1 = true ∨ ((sa xs l false n ins).2.2 = true ∧ ∃ m, ra i n xs = some m ∧ (sa xs l false n ins).1 = l ++ m) ∨ ((sa xs l false n ins).2.2 = false ∧ ra i n xs = none) := by
  intro xs
  induction xs with
  | nil =>
    intro l i n ins _ hins _ _ _ _ _
    right
    cases ins with
    | true =>
      right
      refine ⟨rfl, ?_⟩
      unfold ra
      rw [if_neg (fun e => by have := hins.2 e; cases this)]
    | false =>
      left
      refine ⟨rfl, [], ?_, (List.append_nil l).symm⟩
      unfold ra
      rw [if_pos (hins.1 rfl)]
  | cons b bs ih =>
    intro l i n ins hb hins h0 h1 hi hp h5
    have hbb := hb b (by simp)
    have hbs : Byt bs := fun x hx => hb x (by simp [hx])
    unfold sa
    by_cases hbad : ins = false ∧ b = 128
    · rw [if_pos hbad]
      right; right
      refine ⟨rfl, ?_⟩
      unfold ra
      rw [if_pos (.inr (.inr ⟨hins.1 hbad.1, hbad.2⟩))]
    · rw [if_neg hbad]
      simp only [Bool.false_or]
      by_cases hm : 2147483647 < n * 128 + b % 128
      · rw [if_pos hm, decide_eq_true hm]
        have hra : ra i n (b :: bs) = none := by
          unfold ra
          rw [if_pos (.inr (.inl (by omega)))]
        rw [hra]
        split
        · rcases sa_large bs (l ++ [2147483648]) 0 false with h | h
          · exact .inl h
          · exact .inr (.inr ⟨h, rfl⟩)
        · rcases sa_large bs l 2147483648 true with h | h
          · exact .inl h
          · exact .inr (.inr ⟨h, rfl⟩)
      · rw [if_neg hm, decide_eq_false hm]
        have hi5 : i ≠ 5 := by
          rintro rfl
          have : (128 : Int) ^ 4 = 268435456 := by decide
          have := hp (by omega)
          simp only [show (5 : Nat) - 1 = 4 from rfl] at this
          omega
        have hra : ra i n (b :: bs) = if b < 128 then (ra 0 0 bs).map (fun l => (n * 128 + b % 128) :: l) else ra (i + 1) (n * 128 + b % 128) bs := by
          conv => lhs; unfold ra
          rw [if_neg]
          rintro (h | h | ⟨h, h'⟩)
          · exact hi5 h
          · omega
          · exact hbad ⟨hins.2 h, h'⟩
        rw [hra]
        by_cases hlt : b < 128
        · rw [if_pos hlt, if_pos hlt]
          rcases ih (l ++ [n * 128 + b % 128]) 0 0 false hbs (by simp) (by omega) (by omega) (fun _ => rfl) (by omega) (by omega) with h | ⟨h, m, h2, h3⟩ | ⟨h, h2⟩
          · exact .inl h
          · exact .inr (.inl ⟨h, (n * 128 + b % 128) :: m, by rw [h2]; rfl, by rw [h3]; simp⟩)
          · exact .inr (.inr ⟨h, by rw [h2]; rfl⟩)
        · rw [if_neg hlt, if_neg hlt]
          refine ih l (i + 1) (n * 128 + b % 128) true hbs (by simp) (by omega) (by omega) (by omega) ?_ (by omega)
          intro _
          rw [Nat.add_sub_cancel]
          rcases Nat.eq_zero_or_pos i with e | e
          · subst e
            have hins' := hins.2 rfl
            have : b ≠ 128 := fun e => hbad ⟨hins', e⟩
            rw [Int.pow_zero]
            omega
          · obtain ⟨k, rfl⟩ : ∃ k, i = k + 1 := ⟨i - 1, by omega⟩
            have := hp (by omega)
            rw [Nat.add_sub_cancel] at this
            rw [Int.pow_succ]
            omega

/-! ### building -/
/-- k digits in base 128, each with the highest bit. -/
def big7 (n : Int) : Nat → List Int
  | 0 => []
  | k + 1 => big7 (n / 128) k ++ [128 + n % 128]
/-- How many bytes a number below 1<<35 takes in base 128. -/
def l7 (n : Int) : Nat := if n < 128 then 1 else if n < 16384 then 2 else if n < 2097152 then 3 else if n < 268435456 then 4 else 5
def b128 (n : Int) : List Int := big7 (n / 128) (l7 n - 1) ++ [n % 128]
def b128s : List Int → List Int
  | [] => []
  | v :: vs => b128 v ++ b128s vs
theorem l7_bd (n : Int) : 1 ≤ l7 n ∧ l7 n ≤ 5 := by
  unfold l7
  repeat' split
  all_goals omega
theorem big7_succ (n : Int) (k : Nat) : big7 n (k + 1) = big7 (n / 128) k ++ [128 + n % 128] := rfl
theorem big7_len : ∀ (k : Nat) (n : Int), (big7 n k).length = k
  | 0, _ => rfl
  | k + 1, n => by rw [big7_succ, List.length_append, big7_len k]; rfl
theorem big7_byt : ∀ (k : Nat) (n : Int), Byt (big7 n k)
  | 0, _ => Byt.nil
  | k + 1, n => by
    rw [big7_succ]
    refine (big7_byt k _).append ?_
    intro x hx
    simp only [List.mem_singleton] at hx
    omega
theorem big7_cons : ∀ (k : Nat) (n : Int), big7 n (k + 1) = (128 + n / 128 ^ k % 128) :: big7 n k
  | 0, n => by simp [big7]
  | k + 1, n => by
    rw [big7_succ, big7_cons k (n / 128), big7_succ n k, Int.ediv_ediv_of_nonneg (by decide), Int.pow_succ, Int.mul_comm 128]
    rfl
theorem b128_len (n : Int) : (b128 n).length = l7 n := by
  have := l7_bd n
  unfold b128
  rw [List.length_append, big7_len]
  simp only [List.length_cons, List.length_nil]
  omega
theorem b128_byt (n : Int) : Byt (b128 n) := by
  unfold b128
  refine (big7_byt _ _).append ?_
  intro x hx
  simp only [List.mem_singleton] at hx
  omega
theorem b128s_byt : ∀ vs, Byt (b128s vs)
  | [] => Byt.nil
  | v :: vs => (b128_byt v).append (b128s_byt vs)
theorem b128s_len : ∀ vs, (b128s vs).length ≤ 5 * vs.length
  | [] => by simp [b128s]
  | v :: vs => by
    have := b128s_len vs
    have := l7_bd v
    have := b128_len v
    simp only [b128s, List.length_append, List.length_cons]
    omega
theorem b128s_snoc : ∀ (vs : List Int) (v : Int), b128s (vs ++ [v]) = b128s vs ++ b128 v
  | [], v => by simp [b128s]
  | u :: us, v => by simp only [List.cons_append, b128s, b128s_snoc us v, List.append_assoc]
theorem p128 : (128 : Int) ^ 0 = 1 ∧ (128 : Int) ^ 1 = 128 ∧ (128 : Int) ^ 2 = 16384 ∧ (128 : Int) ^ 3 = 2097152 ∧ (128 : Int) ^ 4 = 268435456 ∧ (128 : Int) ^ 5 = 34359738368 := by decide
theorem l7_le (n : Int) (h0 : 0 ≤ n) (h1 : n < 34359738368) (j : Nat) (hj : j < 5) : n / 128 ^ (j + 1) = 0 ↔ l7 n ≤ j + 1 := by
  obtain ⟨_, p1, p2, p3, p4, p5⟩ := p128
  unfold l7
  obtain rfl | rfl | rfl | rfl | rfl : j = 0 ∨ j = 1 ∨ j = 2 ∨ j = 3 ∨ j = 4 := by omega
  all_goals
    simp only [Nat.reduceAdd, p1, p2, p3, p4, p5]
    repeat' split
    all_goals omega
/-- The bytes that tell numbers are the ones that are built of them. -/
theorem ra_b128 : ∀ (xs : List Int) (i : Nat) (n : Int) (m : List Int), Byt xs → ra i n xs = some m → 0 ≤ n → (i = 0 → n = 0) → (0 < i → (128 : Int) ^ (i - 1) ≤ n) → n < 128 ^ i → big7 n i ++ xs = b128s m ∧ ∀ v ∈ m, 0 ≤ v ∧ v ≤ 2147483647 := by
  intro xs
  induction xs with
  | nil =>
    intro i n m _ h h0 hi hp hq
    unfold ra at h
    split at h
    · rename_i e
      subst e
      simp only [Option.some.injEq] at h
      subst h
      exact ⟨rfl, by simp⟩
    · cases h
  | cons b bs ih =>
    intro i n m hb h h0 hi hp hq
    have hbb := hb b (by simp)
    have hbs : Byt bs := fun x hx => hb x (by simp [hx])
    unfold ra at h
    split at h
    · cases h
    · rename_i hn
      split at h
      · rename_i hlt
        cases hr : ra 0 0 bs with
        | none => rw [hr] at h; cases h
        | some l =>
          rw [hr] at h
          simp only [Option.map_some, Option.some.injEq] at h
          subst h
          obtain ⟨e1, e2⟩ := ih 0 0 l hbs hr (by omega) (fun _ => rfl) (by omega) (by decide)
          rw [show big7 0 0 = [] from rfl, List.nil_append] at e1
          have hl : l7 (n * 128 + b % 128) = i + 1 := by
            obtain ⟨p0, p1, p2, p3, p4, p5⟩ := p128
            unfold l7
            obtain rfl | rfl | rfl | rfl | rfl : i = 0 ∨ i = 1 ∨ i = 2 ∨ i = 3 ∨ i = 4 := by
              rcases Nat.lt_or_ge i 5 with h5 | h5
              · omega
              · exfalso
                have : (128 : Int) ^ (i - 1) = 128 ^ 4 * 128 ^ (i - 5) := by rw [← Int.pow_add]; congr 1; omega
                have h6 := hp (by omega)
                have h7 : (1 : Int) ≤ 128 ^ (i - 5) := by have : (0 : Int) < 128 ^ (i - 5) := Int.pow_pos (by decide); omega
                omega
            all_goals
              simp only [Nat.reduceSub, p0, p1, p2, p3, p4] at hp hq
              repeat' split
              all_goals first | rfl | (have := hi; omega)
          refine ⟨?_, ?_⟩
          · unfold b128s
            rw [← e1]
            unfold b128
            rw [hl, Nat.add_sub_cancel, show (n * 128 + b % 128) / 128 = n by omega, show (n * 128 + b % 128) % 128 = b by omega]
            simp
          · intro v hv
            rcases List.mem_cons.1 hv with rfl | hv
            · omega
            · exact e2 v hv
      · rename_i hge
        have hi1 : 0 < i + 1 := by omega
        obtain ⟨e1, e2⟩ := ih (i + 1) (n * 128 + b % 128) m hbs h (by omega) (by omega) (fun _ => by
          rw [Nat.add_sub_cancel]
          rcases Nat.eq_zero_or_pos i with e | e
          · subst e
            have := hi rfl
            rw [Int.pow_zero]
            omega
          · obtain ⟨k, rfl⟩ : ∃ k, i = k + 1 := ⟨i - 1, by omega⟩
            have := hp (by omega)
            rw [Nat.add_sub_cancel] at this
            rw [Int.pow_succ]
            omega) (by rw [Int.pow_succ]; omega)
        refine ⟨?_, e2⟩
        rw [← e1, big7_succ, show (n * 128 + b % 128) / 128 = n by omega, show 128 + (n * 128 + b % 128) % 128 = b by omega]
        simp
/-- The arcs of the object identifier that contents tell. -/
def oidOfList : List Int → List Int
  | [] => []
  | v :: vs => (if v < 40 then [0, v] else if v < 80 then [1, v - 40] else [2, v - 80]) ++ vs
def oidOf (c : List Int) : Option (List Int) := if c = [] then none else (ra 0 0 c).map oidOfList
/-- Arcs that are an object identifier's, whose numbers are at most 1<<31 - 1. -/
def oidRight (o : List Int) : Bool := decide (2 ≤ o.length ∧ 0 ≤ o.getD 0 0 ∧ o.getD 0 0 ≤ 2 ∧ (o.getD 0 0 < 2 → o.getD 1 0 < 40) ∧ (o.getD 0 0 = 2 → o.getD 1 0 ≤ 2147483567) ∧ ∀ v ∈ o.drop 1, 0 ≤ v ∧ v ≤ 2147483647)
def oidC (o : List Int) : List Int := b128 (o.getD 0 0 * 40 + o.getD 1 0) ++ b128s (o.drop 2)
theorem oidC_of {c o : List Int} (hb : Byt c) (h : oidOf c = some o) : oidC o = c := by
  unfold oidOf at h
  split at h
  · cases h
  · rename_i hne
    cases hr : ra 0 0 c with
    | none => rw [hr] at h; cases h
    | some m =>
      rw [hr] at h
      simp only [Option.map_some, Option.some.injEq] at h
      obtain ⟨e1, e2⟩ := ra_b128 c 0 0 m hb hr (by omega) (fun _ => rfl) (by omega) (by decide)
      rw [show big7 0 0 = [] from rfl, List.nil_append] at e1
      cases m with
      | nil => exact absurd e1 hne
      | cons v vs =>
        have hv := e2 v (by simp)
        subst h
        rw [e1]
        show oidC ((if v < 40 then [0, v] else if v < 80 then [1, v - 40] else [2, v - 80]) ++ vs) = b128 v ++ b128s vs
        by_cases h40 : v < 40
        · rw [if_pos h40]
          show b128 (0 * 40 + v) ++ b128s vs = _
          rw [show 0 * 40 + v = v by omega]
        · rw [if_neg h40]
          by_cases h80 : v < 80
          · rw [if_pos h80]
            show b128 (1 * 40 + (v - 40)) ++ b128s vs = _
            rw [show 1 * 40 + (v - 40) = v by omega]
          · rw [if_neg h80]
            show b128 (2 * 40 + (v - 80)) ++ b128s vs = _
            rw [show 2 * 40 + (v - 80) = v by omega]
end Go.Proofs.Ytndnglpehghmeaa

/-! ### A slice that reads as ints: its laws. -/
namespace Go.Proofs.Ytndnglpehghmeaa
open Go.RowKit

def Sml (xs : List Int) : Prop := ∀ x ∈ xs, -9223372036854775808 ≤ x ∧ x ≤ 9223372036854775807
def RdI (w : World) (B : Nat) (A : Option Addr) (xs : List Int) : Prop :=
  Sml xs ∧ (0 < xs.length → ∃ b off, A = some ⟨b, off, none⟩ ∧ b < B ∧ ∀ i, i < xs.length → w.cell? ⟨b, off + i, none⟩ = some (.int .i64 (xs.getD i 0)))

section
variable {w w' : World} {B B' : Nat} {A : Option Addr} {xs : List Int}
theorem Sml.getD (h : Sml xs) (i : Nat) : -9223372036854775808 ≤ xs.getD i 0 ∧ xs.getD i 0 ≤ 9223372036854775807 := by
  rcases Nat.lt_or_ge i xs.length with hi | hi
  · rw [List.getD_eq_getElem?_getD, List.getElem?_eq_getElem hi]
    exact h _ (List.getElem_mem hi)
  · simp [List.getD_eq_getElem?_getD, List.getElem?_eq_none hi]
theorem Sml.take (h : Sml xs) (k : Nat) : Sml (xs.take k) := fun x hx => h x (List.mem_of_mem_take hx)
theorem Sml.drop (h : Sml xs) (k : Nat) : Sml (xs.drop k) := fun x hx => h x (List.mem_of_mem_drop hx)
theorem Sml.append {ys : List Int} (h : Sml xs) (k : Sml ys) : Sml (xs ++ ys) := fun x hx => (List.mem_append.1 hx).elim (h x) (k x)
theorem Sml.nil : Sml [] := fun _ h => by cases h
theorem RdI.nil (w : World) (B : Nat) (A : Option Addr) : RdI w B A [] := ⟨Sml.nil, fun h => absurd h (by simp)⟩
theorem RdI.keep (h : RdI w B A xs) (hk : ∀ p : Addr, p.block < B → w'.cell? p = w.cell? p) : RdI w' B A xs :=
  ⟨h.1, fun hn => by
    obtain ⟨b, off, e, hb, hc⟩ := h.2 hn
    exact ⟨b, off, e, hb, fun i hi => (hk _ hb).trans (hc i hi)⟩⟩
theorem RdI.more (h : RdI w B A xs) (hB : B ≤ B') : RdI w B' A xs :=
  ⟨h.1, fun hn => by
    obtain ⟨b, off, e, hb, hc⟩ := h.2 hn
    exact ⟨b, off, e, by omega, hc⟩⟩
theorem RdI.below (h : RdI w B A xs) (hb : Below B w w') : RdI w' B A xs := h.keep fun _ hp => hb.cell hp
theorem RdI.only {l : List Nat} (h : RdI w B A xs) (ho : Only l w w') (hl : ∀ k ∈ l, B ≤ k) (hB : B ≤ w.heap.size) : RdI w' B A xs := h.below (ho.below hl hB)
theorem RdI.alloc (h : RdI w B A xs) (hB : B ≤ w.heap.size) (o : Obj) : RdI (w.alloc o) B A xs := h.below ((Below.refl B w).alloc hB o)
theorem RdI.setCell (h : RdI w B A xs) {p : Addr} (hp : B ≤ p.block) (u : Value) : RdI (w.setCell p u) B A xs := h.below ((Below.refl B w).setCell hp u)
theorem RdI.drew (h : RdI w B A xs) : RdI w.drew B A xs := h
theorem RdI.drewN (h : RdI w B A xs) (n : Nat) : RdI (w.drewN n) B A xs := h
theorem RdI.take (h : RdI w B A xs) (k : Nat) : RdI w B A (xs.take k) :=
  ⟨h.1.take k, fun hn => by
    obtain ⟨b, off, e, hb, hc⟩ := h.2 (by simp at hn; omega)
    refine ⟨b, off, e, hb, fun i hi => ?_⟩
    simp at hi
    rw [hc i (by omega)]
    simp [List.getD_eq_getElem?_getD, show i < k by omega]⟩
theorem RdI.cut (h : RdI w B A xs) {k c : Nat} (hc : xs.length ≤ c) : RdI w B (cutA A c k) (xs.drop k) :=
  ⟨h.1.drop k, fun hn => by
    simp at hn
    obtain ⟨b, off, e, hb, hcell⟩ := h.2 (by omega)
    subst e
    refine ⟨b, off + k, ?_, hb, fun i hi => ?_⟩
    · unfold cutA
      rw [if_neg (by omega)]
      simp only [Option.map_some, Addr.add]
      split <;> simp_all
    · simp at hi
      rw [Nat.add_assoc, hcell (k + i) (by omega)]
      simp [List.getD_eq_getElem?_getD]⟩
theorem RdI.cutM (h : RdI w B A xs) (k : Nat) : RdI w B (Option.map (fun x => { block := x.block, off := x.off + k }) A) (xs.drop k) :=
  ⟨h.1.drop k, fun hn => by
    simp at hn
    obtain ⟨b, off, e, hb, hcell⟩ := h.2 (by omega)
    subst e
    refine ⟨b, off + k, rfl, hb, fun i hi => ?_⟩
    simp at hi
    rw [Nat.add_assoc, hcell (k + i) (by omega)]
    simp [List.getD_eq_getElem?_getD]⟩
theorem RdI.cutAdd (h : RdI w B A xs) (k : Nat) : RdI w B (Option.map (fun x => x.add k) A) (xs.drop k) := by
  have h1 := h.cut (k := k) (c := xs.length + k + 1) (by omega)
  unfold cutA at h1
  rwa [if_neg (by omega)] at h1
theorem RdI.empty (w : World) (B : Nat) (A : Option Addr) (h : xs = []) : RdI w B A xs := h ▸ RdI.nil w B A
end
theorem RdI.of_cells {w : World} {A : Option Addr} {x : Addr} {len : Nat} {zs : List Int} (hA : A = some x) (hx : x.spot = none) (hcell : ∀ i, i < zs.length → w.cell? (x.add i) = some (.int .i64 (zs.getD i 0))) (hb : Sml zs) :
    RdI w w.heap.size A (zs.take len) := by
  obtain ⟨b, off, spot⟩ := x
  simp only at hx
  subst hx
  refine RdI.take ⟨hb, fun hn => ⟨b, off, hA, ?_, fun i hi => ?_⟩⟩ len
  · exact World.block_lt_of_cell? w _ (hcell 0 hn)
  · have := hcell i hi
    rwa [show (⟨b, off, none⟩ : Addr).add i = ⟨b, off + i, none⟩ by unfold Addr.add; split <;> simp_all] at this

/-- A slice of bytes that came in, as the row's shell tells it. -/
theorem rdI_of_row {w : World} {a : Option Addr} {len cap : Nat} {zs : List Int} (h : (a = none ∧ len = 0 ∧ cap = 0 ∧ zs = []) ∨
    ∃ x, a = some x ∧ len ≤ cap ∧ cap ≤ maxLen ∧ zs.length = cap ∧ (∀ i, i < zs.length → w.cell? (x.add i) = some (.int .i64 (zs.getD i 0))) ∧ ∀ n ∈ zs, (Lit.int .i64 n).wf = true) :
    ∃ xs, RdI w w.heap.size a xs ∧ len = xs.length ∧ len ≤ cap ∧ cap ≤ maxLen := by
  rcases h with ⟨rfl, rfl, rfl, rfl⟩ | ⟨x, rfl, hl, hm, hz, hc, hw⟩
  · exact ⟨[], RdI.nil _ _ _, rfl, Nat.le_refl _, Nat.zero_le _⟩
  · rcases Nat.eq_zero_or_pos len with h0 | h0
    · exact ⟨[], RdI.nil _ _ _, by simpa using h0, hl, hm⟩
    · refine ⟨zs.take len, RdI.of_cells rfl ?_ hc ?_, by simp; omega, hl, hm⟩
      · have h1 := hc 0 (by omega)
        have := World.cell?_spot h1
        simpa [Addr.add] using this
      · intro n hn
        have := hw n hn
        simp [Lit.wf, IntKind.min, IntKind.max, IntKind.bits, IntKind.signed] at this
        omega
end Go.Proofs.Ytndnglpehghmeaa

/-! ### The reference's Same and Number: contracts. -/
namespace Go.Proofs.Ytndnglpehghmeaa
open Go.RowKit

theorem conv_rd (w : World) (B : Nat) (A : Option Addr) (n c : Nat) (xs : List Int) (h : Rd w B A xs) (hn : n = xs.length) :
    (convert 24 9 (.slice A n c)).run Try.prog w = .ok (.string (strOfNums xs)) w := by
  subst hn
  rcases A with _ | ad
  · have h0 : xs = [] := by
      rcases xs with _ | ⟨x, xs⟩
      · rfl
      · obtain ⟨_, _, e, _⟩ := h.2 (by simp)
        cases e
    subst h0
    exact run_convert_bytes_nil w 24 5 Try.underlying24 Try.underlying5 _ _ 9 Try.underlying9
  · rcases xs with _ | ⟨x, xs⟩
    · show (convert 24 9 (.slice (some ad) 0 c)).run Try.prog w = _
      rw [run_convert_bytes_string w 24 9 5 (some ad) 0 c Try.underlying24 Try.underlying5 Try.underlying9]
      have := run_bytesToString (P := Try.prog) w ad 0 c [] (by simpa using run_loadCells_list (P := Try.prog) w ad [] (by simp))
      exact this
    · obtain ⟨b, off, e, _, hc⟩ := h.2 (by simp)
      replace e := Option.some.inj e
      subst e
      exact run_convert_bytes_arg w 24 5 Try.underlying24 Try.underlying5 b off _ c (x :: xs) rfl hc 9 Try.underlying9

theorem same_yes (A A' : Option Addr) (n n' c c' : Nat) (xs ys : List Int) (w : World) (B B' : Nat) (h : Rd w B A xs) (h' : Rd w B' A' ys) (hn : n = xs.length) (hn' : n' = ys.length) (e : xs = ys) :
    Calls Try.prog 13 #[.slice A n c, .slice A' n' c'] w fun e w' => e = .returned (.bool true) ∧ w = w' := by
  subst e
  have k1 := conv_rd w B A n c xs h hn
  have k2 := conv_rd w B' A' n' c' xs h' hn'
  clear h h' hn hn'
  generalize strOfNums xs = s at *
  go_enter Try.func13, Try.ntmps13
  go_wp2
  go_ret
  exact ⟨by simp, rfl⟩


end Go.Proofs.Ytndnglpehghmeaa
