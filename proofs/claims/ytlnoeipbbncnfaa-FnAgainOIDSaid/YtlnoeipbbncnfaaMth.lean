/- Integers and truths read by the package: contracts. -/
import Derived.Test.YtlnoeipbbncnfaaOf
import Derived.Test.YtlnoeipbbncnfaaInt
namespace Go.Proofs.Ytlnoeipbbncnfaa
open Go.RowKit



/-- The number of contents that are no larger than a uint64. -/
def uintFits (c : List Int) : Bool := decide (c.getD 0 0 < 128 ∧ (c.length ≤ 8 ∨ c.length = 9 ∧ c.getD 0 0 = 0))
theorem uint_bd (xs : List Int) (hb : Byt xs) (hf : uintFits xs = true) (k : Nat) (hk : k < xs.length) : 0 ≤ beN (xs.take k) ∧ beN (xs.take k) ≤ 72057594037927935 := by
  unfold uintFits at hf
  simp only [decide_eq_true_eq] at hf
  have e7 : (256 : Int) ^ 7 = 72057594037927936 := by decide
  rcases Nat.lt_or_ge k 8 with h | h
  · obtain ⟨b0, b1⟩ := beN_take_bd xs hb k 7 (by omega)
    omega
  · have hk8 : k = 8 := by omega
    subst hk8
    obtain ⟨r, p, h0, h1, h2, h3⟩ := sg_eq xs 7 hb (by omega)
    have h9 : xs.getD 0 0 = 0 := by omega
    rw [h3, h9]
    omega
end Go.Proofs.Ytlnoeipbbncnfaa
