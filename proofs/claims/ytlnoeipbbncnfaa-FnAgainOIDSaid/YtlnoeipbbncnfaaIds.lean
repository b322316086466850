/- A slice that reads as ints: its laws. -/
import Derived.Test.YtlnoeipbbncnfaaBase
namespace Go.Proofs.Ytlnoeipbbncnfaa
open Go.RowKit

def Sml (xs : List Int) : Prop := ∀ x ∈ xs, -9223372036854775808 ≤ x ∧ x ≤ 9223372036854775807
def RdI (w : World) (B : Nat) (A : Option Addr) (xs : List Int) : Prop :=
  Sml xs ∧ (0 < xs.length → ∃ b off, A = some ⟨b, off, none⟩ ∧ b < B ∧ ∀ i, i < xs.length → w.cell? ⟨b, off + i, none⟩ = some (.int .i64 (xs.getD i 0)))

section
variable {w w' : World} {B B' : Nat} {A : Option Addr} {xs : List Int}
theorem Sml.getD (h : Sml xs) (i : Nat) : -9223372036854775808 ≤ xs.getD i 0 ∧ xs.getD i 0 ≤ 9223372036854775807 := by
  rcases Nat.lt_or_ge i xs.length with hi | hi
  · rw [List.getD_eq_getElem?_getD, List.getElem?_eq_getElem hi]
    exact h _ (List.getElem_mem hi)
  · simp [List.getD_eq_getElem?_getD, List.getElem?_eq_none hi]
theorem Sml.take (h : Sml xs) (k : Nat) : Sml (xs.take k) := fun x hx => h x (List.mem_of_mem_take hx)
theorem Sml.drop (h : Sml xs) (k : Nat) : Sml (xs.drop k) := fun x hx => h x (List.mem_of_mem_drop hx)
theorem Sml.append {ys : List Int} (h : Sml xs) (k : Sml ys) : Sml (xs ++ ys) := fun x hx => (List.mem_append.1 hx).elim (h x) (k x)
theorem Sml.nil : Sml [] := fun _ h => by cases h
theorem RdI.nil (w : World) (B : Nat) (A : Option Addr) : RdI w B A [] := ⟨Sml.nil, fun h => absurd h (by simp)⟩
theorem RdI.keep (h : RdI w B A xs) (hk : ∀ p : Addr, p.block < B → w'.cell? p = w.cell? p) : RdI w' B A xs :=
  ⟨h.1, fun hn => by
    obtain ⟨b, off, e, hb, hc⟩ := h.2 hn
    exact ⟨b, off, e, hb, fun i hi => (hk _ hb).trans (hc i hi)⟩⟩
theorem RdI.more (h : RdI w B A xs) (hB : B ≤ B') : RdI w B' A xs :=
  ⟨h.1, fun hn => by
    obtain ⟨b, off, e, hb, hc⟩ := h.2 hn
    exact ⟨b, off, e, by omega, hc⟩⟩
theorem RdI.below (h : RdI w B A xs) (hb : Below B w w') : RdI w' B A xs := h.keep fun _ hp => hb.cell hp
theorem RdI.only {l : List Nat} (h : RdI w B A xs) (ho : Only l w w') (hl : ∀ k ∈ l, B ≤ k) (hB : B ≤ w.heap.size) : RdI w' B A xs := h.below (ho.below hl hB)
theorem RdI.alloc (h : RdI w B A xs) (hB : B ≤ w.heap.size) (o : Obj) : RdI (w.alloc o) B A xs := h.below ((Below.refl B w).alloc hB o)
theorem RdI.setCell (h : RdI w B A xs) {p : Addr} (hp : B ≤ p.block) (u : Value) : RdI (w.setCell p u) B A xs := h.below ((Below.refl B w).setCell hp u)
theorem RdI.drew (h : RdI w B A xs) : RdI w.drew B A xs := h
theorem RdI.drewN (h : RdI w B A xs) (n : Nat) : RdI (w.drewN n) B A xs := h
theorem RdI.take (h : RdI w B A xs) (k : Nat) : RdI w B A (xs.take k) :=
  ⟨h.1.take k, fun hn => by
    obtain ⟨b, off, e, hb, hc⟩ := h.2 (by simp at hn; omega)
    refine ⟨b, off, e, hb, fun i hi => ?_⟩
    simp at hi
    rw [hc i (by omega)]
    simp [List.getD_eq_getElem?_getD, show i < k by omega]⟩
theorem RdI.cut (h : RdI w B A xs) {k c : Nat} (hc : xs.length ≤ c) : RdI w B (cutA A c k) (xs.drop k) :=
  ⟨h.1.drop k, fun hn => by
    simp at hn
    obtain ⟨b, off, e, hb, hcell⟩ := h.2 (by omega)
    subst e
    refine ⟨b, off + k, ?_, hb, fun i hi => ?_⟩
    · unfold cutA
      rw [if_neg (by omega)]
      simp only [Option.map_some, Addr.add]
      split <;> simp_all
    · simp at hi
      rw [Nat.add_assoc, hcell (k + i) (by omega)]
      simp [List.getD_eq_getElem?_getD]⟩
theorem RdI.cutM (h : RdI w B A xs) (k : Nat) : RdI w B (Option.map (fun x => { block := x.block, off := x.off + k }) A) (xs.drop k) :=
  ⟨h.1.drop k, fun hn => by
    simp at hn
    obtain ⟨b, off, e, hb, hcell⟩ := h.2 (by omega)
    subst e
    refine ⟨b, off + k, rfl, hb, fun i hi => ?_⟩
    simp at hi
    rw [Nat.add_assoc, hcell (k + i) (by omega)]
    simp [List.getD_eq_getElem?_getD]⟩
theorem RdI.cutAdd (h : RdI w B A xs) (k : Nat) : RdI w B (Option.map (fun x => x.add k) A) (xs.drop k) := by
  have h1 := h.cut (k := k) (c := xs.length + k + 1) (by omega)
  unfold cutA at h1
  rwa [if_neg (by omega)] at h1
theorem RdI.empty (w : World) (B : Nat) (A : Option Addr) (h : xs = []) : RdI w B A xs := h ▸ RdI.nil w B A
end
theorem RdI.of_cells {w : World} {A : Option Addr} {x : Addr} {len : Nat} {zs : List Int} (hA : A = some x) (hx : x.spot = none) (hcell : ∀ i, i < zs.length → w.cell? (x.add i) = some (.int .i64 (zs.getD i 0))) (hb : Sml zs) :
    RdI w w.heap.size A (zs.take len) := by
  obtain ⟨b, off, spot⟩ := x
  simp only at hx
  subst hx
  refine RdI.take ⟨hb, fun hn => ⟨b, off, hA, ?_, fun i hi => ?_⟩⟩ len
  · exact World.block_lt_of_cell? w _ (hcell 0 hn)
  · have := hcell i hi
    rwa [show (⟨b, off, none⟩ : Addr).add i = ⟨b, off + i, none⟩ by unfold Addr.add; split <;> simp_all] at this

/-- A slice of bytes that came in, as the row's shell tells it. -/
theorem rdI_of_row {w : World} {a : Option Addr} {len cap : Nat} {zs : List Int} (h : (a = none ∧ len = 0 ∧ cap = 0 ∧ zs = []) ∨
    ∃ x, a = some x ∧ len ≤ cap ∧ cap ≤ maxLen ∧ zs.length = cap ∧ (∀ i, i < zs.length → w.cell? (x.add i) = some (.int .i64 (zs.getD i 0))) ∧ ∀ n ∈ zs, (Lit.int .i64 n).wf = true) :
    ∃ xs, RdI w w.heap.size a xs ∧ len = xs.length ∧ len ≤ cap ∧ cap ≤ maxLen := by
  rcases h with ⟨rfl, rfl, rfl, rfl⟩ | ⟨x, rfl, hl, hm, hz, hc, hw⟩
  · exact ⟨[], RdI.nil _ _ _, rfl, Nat.le_refl _, Nat.zero_le _⟩
  · rcases Nat.eq_zero_or_pos len with h0 | h0
    · exact ⟨[], RdI.nil _ _ _, by simpa using h0, hl, hm⟩
    · refine ⟨zs.take len, RdI.of_cells rfl ?_ hc ?_, by simp; omega, hl, hm⟩
      · have h1 := hc 0 (by omega)
        have := World.cell?_spot h1
        simpa [Addr.add] using this
      · intro n hn
        have := hw n hn
        simp [Lit.wf, IntKind.min, IntKind.max, IntKind.bits, IntKind.signed] at this
        omega
end Go.Proofs.Ytlnoeipbbncnfaa
