/- The functions on tags: tagOk, Constructed, ContextSpecific: contracts. -/
import Derived.Test.YtlnoeipbbncnfaaProg
import Derived.WalkKit
import Derived.WalkSpells
import Derived.WalkLawsBesides
import Derived.KernelRfl
import Derived.Laws.BitsAllLaws
import Derived.Lib.Hide
namespace Go.Proofs.Ytlnoeipbbncnfaa
open Go.RowKit



/-- A tag with a bit set: what 'int(asn1.Tag(tag) | bit)' comes to. -/
def orTag (n b : Int) : Int := ((n.toNat ||| b.toNat : Nat) : Int)
theorem orTag_u8 (n : Int) (h0 : 0 ≤ n) (h1 : n ≤ 255) (b : Int) (b0 : 0 ≤ b) (b1 : b ≤ 255) : bits .or .u8 n b = orTag n b := u8_or n b h0 (by omega) b0 (by omega)
theorem orTag_lt (n : Int) (h0 : 0 ≤ n) (h1 : n ≤ 255) (b : Int) (b0 : 0 ≤ b) (b1 : b ≤ 255) : 0 ≤ orTag n b ∧ orTag n b ≤ 255 := by
  have : n.toNat ||| b.toNat < 2 ^ 8 := Nat.or_lt_two_pow (by omega) (by omega)
  unfold orTag; omega
theorem orTag_all : (∀ n : Nat, n < 256 → bits .or .i64 (n : Int) 128 = orTag n 128) ∧ (∀ n : Nat, n < 256 → orTag (orTag n 128) 32 = orTag (orTag n 32) 128) ∧ (∀ n : Nat, n < 256 → orTag (orTag (orTag n 128) 32) 32 = orTag (orTag n 128) 32) ∧
    (∀ n : Nat, n < 256 → orTag (orTag (orTag n 128) 32) 128 = orTag (orTag n 128) 32) ∧ (∀ n : Nat, n < 256 → orTag (orTag n 128) 32 % 32 = (n : Int) % 32) := by decide +kernel




end Go.Proofs.Ytlnoeipbbncnfaa
