/- Integers added: their closures' contracts. -/
import Derived.Test.YtlnoeipbbncnfaaBl8
import Derived.Test.YtlnoeipbbncnfaaEnc2
namespace Go.Proofs.Ytlnoeipbbncnfaa
open Go.RowKit

theorem and255 (k : IntKind) (hk : k = .i64 ∨ k = .u64) (q : Int) : bits .and k q 255 = q % 256 := by
  have e1 : ((BitVec.ofInt 64 q) &&& (BitVec.ofInt 64 255)).toNat = (q % 256).toNat := by
    rw [BitVec.toNat_and]
    have h255 : (BitVec.ofInt 64 (255 : Int)).toNat = 2 ^ 8 - 1 := by decide
    rw [h255, Nat.and_two_pow_sub_one_eq_mod, BitVec.toNat_ofInt]
    simp
    omega
  have e2 : 0 ≤ q % 256 ∧ q % 256 < 256 := by omega
  rcases hk with rfl | rfl
  · show IntKind.i64.wrap (((BitVec.ofInt 64 q) &&& (BitVec.ofInt 64 255)).toNat : Int) = _
    rw [e1, Int.toNat_of_nonneg e2.1]
    exact IntWalk.i64_in _ (by omega)
  · show IntKind.u64.wrap (((BitVec.ofInt 64 q) &&& (BitVec.ofInt 64 255)).toNat : Int) = _
    rw [e1, Int.toNat_of_nonneg e2.1]
    simp [IntKind.wrap, IntKind.bits, IntKind.signed]
    omega

theorem mod3 (a : Int) : a % 256 % 256 % 256 = a % 256 := by omega



end Go.Proofs.Ytlnoeipbbncnfaa
