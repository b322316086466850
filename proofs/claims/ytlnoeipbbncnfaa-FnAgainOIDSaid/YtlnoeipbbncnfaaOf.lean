/- Readers of an element of a given tag, in one form: contracts. -/
import Derived.Test.YtlnoeipbbncnfaaRd5
namespace Go.Proofs.Ytlnoeipbbncnfaa
open Go.RowKit

/-- What a reader gave, by what it should give. -/
def Got {α : Type} (R : Option (α × List Int)) (ok : Bool) (x : α) (ys : List Int) : Prop :=
  match R with
  | some p => ok = true ∧ x = p.1 ∧ ys = p.2
  | none => ok = false
/-- The contents of the first element of a tag, read by a function. -/
def asOf {α : Type} (f : List Int → Option α) (xs : List Int) (tag : Int) : Option (α × List Int) :=
  match firstOf xs tag with
  | some (c, r) => (f c).map fun x => (x, r)
  | none => none
/-- What a reader of bytes leaves in its two variables. -/
def Gave (w : World) (B b bo : Nat) (to : TypeId) (R : Option (List Int × List Int)) (e : Ending) (w' : World) : Prop :=
  ∃ ok zs ys, e = .returned (.bool ok) ∧ Only [b, bo] w w' ∧ Sl w' B bo to zs ∧ Sl w' B b 39 ys ∧ zs.length ≤ 4194304 ∧ ys.length ≤ 4194304 ∧ Got R ok zs ys
/-- What a reader of a value leaves in its two variables. -/
def GaveV {α : Type} (mk : α → Value) (w : World) (B b bo : Nat) (to : TypeId) (R : Option (α × List Int)) (e : Ending) (w' : World) : Prop :=
  ∃ ok x ys, e = .returned (.bool ok) ∧ Only [b, bo] w w' ∧ Var w' bo to (mk x) ∧ Sl w' B b 39 ys ∧ ys.length ≤ 4194304 ∧ Got R ok x ys

theorem Sl.new (w : World) (B b : Nat) (t : TypeId) (hb : b = w.heap.size) (hB : B ≤ w.heap.size) : Sl (w.alloc (.cells #[.slice none 0 0] t)) B b t [] := by
  subst hb
  exact ⟨hB, none, 0, Var.new _ _ _, Nat.zero_le _, Nat.zero_le _, Rd.nil _ _ _⟩
theorem firstOf_byt {xs c r : List Int} {tag : Int} (h : firstOf xs tag = some (c, r)) (hb : Byt xs) : Byt c ∧ Byt r := (firstOf_le h).2.2 hb

theorem SReadASN1_of (b bo : Nat) (to : TypeId) (tag : Int) (ws xs : List Int) (w : World) (B : Nat) (h : Sl w B b 39 xs) (ho : Sl w B bo to ws) (hbo : bo ≠ b) (hn : xs.length ≤ 4194304) (hw : ws.length ≤ 4194304) :
    Calls Try.prog 27 #[.pointer (some ⟨b, 0, none⟩), .pointer (some ⟨bo, 0, none⟩), .int .u8 tag] w (Gave w B b bo to (firstOf xs tag)) := by
  have hlow := h.low
  have hBb := h.1
  obtain ⟨hB, A, c, hv, hc, hm, hr⟩ := ho
  refine (SReadASN1_any b bo to _ tag xs w B h hv hbo hB hn).mono ?_
  intro e w' hT
  unfold TookTag at hT
  obtain ⟨hk, hT⟩ := hT
  unfold Gave firstOf
  revert hT
  cases hf : first xs with
  | none =>
    rintro ⟨rfl, ⟨vo, h1, h2⟩, hs⟩
    have hvo : vo = .slice A ws.length c := by
      unfold Var at h1 hv
      rw [h1] at hv
      simpa using hv
    subst hvo
    exact ⟨false, ws, xs, rfl, hk, ⟨hB, A, c, h2, hc, hm, hr.only hk (by simp only [List.mem_cons, List.not_mem_nil, or_false]; rintro k (rfl | rfl) <;> assumption) hlow⟩, hs, hw, hn, rfl⟩
  | some q =>
    obtain ⟨t, hd, m⟩ := q
    rintro ⟨rfl, ho2, hs⟩
    simp only [if_true] at ho2
    refine ⟨_, _, _, rfl, hk, ho2, hs, by simp; omega, by simp; omega, ?_⟩
    by_cases e : t = tag
    · simp [Got, e]
    · simp [Got, e]


/-- Whether bytes begin with a tag. -/
def peek (xs : List Int) (tag : Int) : Bool := decide (0 < xs.length) && decide (xs.getD 0 0 = tag)
theorem peek_firstOf {xs : List Int} {tag : Int} {q : List Int × List Int} (h : firstOf xs tag = some q) : peek xs tag = true := by
  unfold firstOf at h
  split at h
  · rename_i t hd m hf
    obtain ⟨f1, f2, f3, f4, f5, f6⟩ := first_le hf
    split at h
    · rename_i ht
      unfold peek
      rw [decide_eq_true (show 0 < xs.length by omega), decide_eq_true (show xs.getD 0 0 = tag by omega)]
      rfl
    · cases h
  · cases h
end Go.Proofs.Ytlnoeipbbncnfaa
