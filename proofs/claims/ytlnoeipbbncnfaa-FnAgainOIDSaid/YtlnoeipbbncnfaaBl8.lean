/- Continuations that add bytes, and the thin package's functions over them: contracts. -/
import Derived.Test.YtlnoeipbbncnfaaBl7
namespace Go.Proofs.Ytlnoeipbbncnfaa
open Go.RowKit

theorem Outs.before {w w1 w' : World} {o : Option (List Int)} {e : Ending} (h : Outs w1 o e w') (hk : Only [] w w1) : Outs w o e w' := by
  obtain ⟨A, c, ys, ok, h1, h2, h3, h4⟩ := h
  exact ⟨A, c, ys, ok, h1, h2, hk.trans h3, h4⟩
theorem bytesOf_done {w W0 w1 : World} {base b : Nat} {o : Option (List Int)} {e1 : Ending} (hd : DoneR W0 base b Bv.zero [] o e1 w1) (h0 : Only [] w W0) (hb : w.heap.size ≤ b) (hlen : ∀ zs, o = some zs → zs.length ≤ 140737488355328) :
    Calls Try.prog 24 #[.pointer (some ⟨b, 0, none⟩)] w1 (Outs w o) := by
  obtain ⟨_, ho, hm⟩ := hd
  have hk : Only [] w w1 := h0.then ho (by
    intro i hi hlt
    simp [own, Bv.zero, Value.ownBlock] at hi
    omega)
  cases o with
  | none =>
    obtain ⟨T, u, r, i, hb1⟩ := hm
    exact (bytesOf_no b _ T u w1 hb1 rfl).mono fun e w' h => h.before hk
  | some zs =>
    obtain ⟨r, i, hb1, hr1⟩ := hm
    exact (bytesOf_ok b _ zs w1 base hb1 rfl rfl hr1 (hlen zs rfl)).mono fun e w' h => h.before hk
/-- An element of a tag, if the tag is one of one byte. -/
def elem (tag : Int) (xs : List Int) : Option (List Int) := if tag % 32 = 31 then none else some (wrapped tag xs)
theorem elem_len {tag : Int} {xs zs : List Int} (h : elem tag xs = some zs) : zs.length ≤ xs.length + 6 := by
  unfold elem at h
  split at h
  · cases h
  · simp only [Option.some.injEq] at h
    subst h
    unfold wrapped
    have := hdr_len_le tag xs.length
    rw [List.length_append]
    omega
/-- A variable that holds bytes, as a continuation finds it. -/
def Holds (w : World) (b : Nat) (vres : Value) (x : Nat) (A : Option Addr) (c : Nat) (xs : List Int) : Prop :=
  ∀ W, Only (b :: own vres) w W → Var W x 22 (.slice A xs.length c) ∧ Rd W W.heap.size A xs













theorem DoneR.of_alloc {w w' : World} {ob : Obj} {base b : Nat} {v : Bv} {ys : List Int} {o : Option (List Int)} {e : Ending} (h : DoneR (w.alloc ob) base b v ys o e w') : DoneR w base b v ys o e w' :=
  ⟨h.1, ((Only.refl _ _).alloc ob).trans h.2.1, h.2.2⟩



end Go.Proofs.Ytlnoeipbbncnfaa
