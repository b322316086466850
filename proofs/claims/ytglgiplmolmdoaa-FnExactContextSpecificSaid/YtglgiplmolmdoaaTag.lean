/- The functions on tags: tagOk, Constructed, ContextSpecific: contracts. -/
import Derived.Test.YtglgiplmolmdoaaProg
import Derived.WalkKit
import Derived.WalkSpells
import Derived.WalkLawsBesides
import Derived.KernelRfl
import Derived.Laws.BitsAllLaws
import Derived.Lib.Hide
namespace Go.Proofs.Ytglgiplmolmdoaa
open Go.RowKit

theorem tagOk_yes (n : Int) (w : World) (h0 : 0 ≤ n) (h1 : n ≤ 255) :
    Calls Try.prog 15 #[.int .i64 n] w fun e w' => e = .returned (.bool true) ∧ w = w' := by
  go_enter Try.func15, Try.ntmps15
  go_wp2
  go_ret
  exact ⟨rfl, rfl⟩

theorem tagOk_no (n : Int) (w : World) (h : n < 0 ∨ 255 < n) :
    Calls Try.prog 15 #[.int .i64 n] w fun e w' => e = .returned (.bool false) ∧ w = w' := by
  rcases h with h | h
  · go_enter Try.func15, Try.ntmps15
    go_wp2
    go_ret
    exact ⟨rfl, rfl⟩
  · have h0 : 0 ≤ n := by omega
    have h1 : decide (n ≤ 255) = false := by simp; omega
    go_enter Try.func15, Try.ntmps15
    go_wp2
    go_ret
    exact ⟨rfl, rfl⟩

/-- A tag with a bit set: what 'int(asn1.Tag(tag) | bit)' comes to. -/
def orTag (n b : Int) : Int := ((n.toNat ||| b.toNat : Nat) : Int)
theorem orTag_u8 (n : Int) (h0 : 0 ≤ n) (h1 : n ≤ 255) (b : Int) (b0 : 0 ≤ b) (b1 : b ≤ 255) : bits .or .u8 n b = orTag n b := u8_or n b h0 (by omega) b0 (by omega)
theorem orTag_lt (n : Int) (h0 : 0 ≤ n) (h1 : n ≤ 255) (b : Int) (b0 : 0 ≤ b) (b1 : b ≤ 255) : 0 ≤ orTag n b ∧ orTag n b ≤ 255 := by
  have : n.toNat ||| b.toNat < 2 ^ 8 := Nat.or_lt_two_pow (by omega) (by omega)
  unfold orTag; omega
theorem orTag_all : (∀ n : Nat, n < 256 → bits .or .i64 (n : Int) 128 = orTag n 128) ∧ (∀ n : Nat, n < 256 → orTag (orTag n 128) 32 = orTag (orTag n 32) 128) ∧ (∀ n : Nat, n < 256 → orTag (orTag (orTag n 128) 32) 32 = orTag (orTag n 128) 32) ∧
    (∀ n : Nat, n < 256 → orTag (orTag (orTag n 128) 32) 128 = orTag (orTag n 128) 32) ∧ (∀ n : Nat, n < 256 → orTag (orTag n 128) 32 % 32 = (n : Int) % 32) := by decide +kernel

theorem context_any (n : Int) (w : World) (h0 : 0 ≤ n) (h1 : n ≤ 255) :
    Calls Try.prog 16 #[.int .i64 n] w fun e w' => e = .returned (.int .i64 (orTag n 128)) ∧ w = w' := by
  have hb := orTag_u8 n h0 h1 128 (by decide) (by decide)
  have hl := orTag_lt n h0 h1 128 (by decide) (by decide)
  obtain ⟨l0, l1⟩ := hl
  go_enter Try.func16, Try.ntmps16
  go_wp2
  go_ret
  exact ⟨rfl, rfl⟩

theorem constructed_any (n : Int) (w : World) (h0 : 0 ≤ n) (h1 : n ≤ 255) :
    Calls Try.prog 17 #[.int .i64 n] w fun e w' => e = .returned (.int .i64 (orTag n 32)) ∧ w = w' := by
  have hb := orTag_u8 n h0 h1 32 (by decide) (by decide)
  have hl := orTag_lt n h0 h1 32 (by decide) (by decide)
  obtain ⟨l0, l1⟩ := hl
  go_enter Try.func17, Try.ntmps17
  go_wp2
  go_ret
  exact ⟨rfl, rfl⟩

theorem law_context (n : Int) (w : World) : Calls Try.prog 3 #[.int .i64 n] w fun e w' => e = .returned (.bool true) ∧ w = w' := by
  by_cases h : 0 ≤ n ∧ n ≤ 255
  · obtain ⟨h0, h1⟩ := h
    have hb : bits .or .i64 n 128 = orTag n 128 := by
      have := orTag_all.1 n.toNat (by omega)
      rwa [Int.toNat_of_nonneg h0] at this
    have hl := orTag_lt n h0 h1 128 (by decide) (by decide)
    obtain ⟨l0, l1⟩ := hl
    go_enter Try.func3, Try.ntmps3
    go_wp2_with (first | (go_at_call 15; refine (tagOk_yes _ _ h0 h1).mono ?_; rintro e w' ⟨rfl, rfl⟩) | (go_at_call 16; refine (context_any _ _ h0 h1).mono ?_; rintro e w' ⟨rfl, rfl⟩))
    go_ret
    exact ⟨rfl, rfl⟩
  · have h' : n < 0 ∨ 255 < n := by omega
    go_enter Try.func3, Try.ntmps3
    go_wp2_with (go_at_call 15; refine (tagOk_no _ _ h').mono ?_; rintro e w' ⟨rfl, rfl⟩)
    go_ret
    exact ⟨rfl, rfl⟩

theorem law_tags (n : Int) (w : World) : Calls Try.prog 4 #[.int .i64 n] w fun e w' => e = .returned (.bool true) ∧ w = w' := by
  by_cases h : 0 ≤ n ∧ n ≤ 255
  · obtain ⟨h0, h1⟩ := h
    obtain ⟨_, a2, a3, a4, a5⟩ := orTag_all
    have e2 := a2 n.toNat (by omega)
    have e3 := a3 n.toNat (by omega)
    have e4 := a4 n.toNat (by omega)
    have e5 := a5 n.toNat (by omega)
    clear a2 a3 a4 a5
    rw [Int.toNat_of_nonneg h0] at e2 e3 e4 e5
    obtain ⟨p0, p1⟩ := orTag_lt n h0 h1 128 (by decide) (by decide)
    obtain ⟨q0, q1⟩ := orTag_lt n h0 h1 32 (by decide) (by decide)
    obtain ⟨r0, r1⟩ := orTag_lt _ p0 p1 32 (by decide) (by decide)
    have c1 := fun w => constructed_any _ w p0 p1
    have c2 := fun w => context_any _ w q0 q1
    have c3 := fun w => constructed_any _ w r0 r1
    have c4 := fun w => context_any _ w r0 r1
    rw [← e2] at c2
    rw [e3] at c3
    rw [e4] at c4
    have k1 := fun w => context_any _ w h0 h1
    have k2 := fun w => constructed_any _ w h0 h1
    clear e2 e3 e4
    generalize orTag n 128 = x at *
    generalize orTag n 32 = y at *
    generalize orTag x 32 = z at *
    have e6 : (z % 32 == n % 32) = true := by rw [e5]; simp
    clear e5
    have K1 := Lib.hid k1; have K2 := Lib.hid k2; have C1 := Lib.hid c1; have C2 := Lib.hid c2; have C3 := Lib.hid c3; have C4 := Lib.hid c4
    clear k1 k2 c1 c2 c3 c4
    go_enter Try.func4, Try.ntmps4
    go_wp2_with fail
    refine (tagOk_yes _ _ h0 h1).mono ?_; rintro e w' ⟨rfl, rfl⟩
    go_wp2_with fail
    refine (K1.out _).mono ?_; rintro e w' ⟨rfl, rfl⟩
    go_wp2_with fail
    refine (C1.out _).mono ?_; rintro e w' ⟨rfl, rfl⟩
    go_wp2_with fail
    refine (K2.out _).mono ?_; rintro e w' ⟨rfl, rfl⟩
    go_wp2_with fail
    refine (C2.out _).mono ?_; rintro e w' ⟨rfl, rfl⟩
    go_wp2_with fail
    refine (C3.out _).mono ?_; rintro e w' ⟨rfl, rfl⟩
    go_wp2_with fail
    refine (C4.out _).mono ?_; rintro e w' ⟨rfl, rfl⟩
    go_wp2_with fail
    go_ret
    exact ⟨rfl, rfl⟩
  · have h' : n < 0 ∨ 255 < n := by omega
    go_enter Try.func4, Try.ntmps4
    go_wp2_with (go_at_call 15; refine (tagOk_no _ _ h').mono ?_; rintro e w' ⟨rfl, rfl⟩)
    go_ret
    exact ⟨rfl, rfl⟩
end Go.Proofs.Ytglgiplmolmdoaa
