/- Integers, truths, bits as DER's contents tell them: plain definitions and laws. No program. -/
import Derived.Test.YtlnoeipbbncnfaaDer
import Derived.Test.YtlnoeipbbncnfaaRd1
namespace Go.Proofs.Ytlnoeipbbncnfaa
open Go.RowKit

/-- The truth that contents tell. -/
def boolOf (c : List Int) : Option Bool := if c.length ≠ 1 then none else if c.getD 0 0 = 0 then some false else if c.getD 0 0 = 255 then some true else none
/-- Contents are an integer's: a byte at least, and the first nine bits not alike. -/
def intRight (c : List Int) : Bool := decide (c.length = 1 ∨ (2 ≤ c.length ∧ ¬ (c.getD 0 0 = 0 ∧ c.getD 1 0 < 128) ∧ ¬ (c.getD 0 0 = 255 ∧ 128 ≤ c.getD 1 0)))
/-- The first i bytes with their sign. -/
def sg (c : List Int) (i : Nat) : Int := beN (c.take i) - if 128 ≤ c.getD 0 0 then 256 ^ i else 0
def intOf' (c : List Int) : Option Int := if intRight c = true ∧ c.length ≤ 8 then some (sg c c.length) else none
def uintOf (c : List Int) : Option Int := if intRight c = true ∧ c.getD 0 0 < 128 ∧ (c.length ≤ 8 ∨ c.length = 9 ∧ c.getD 0 0 = 0) then some (beN c) else none
def magOf (c : List Int) : Option (List Int) := if intRight c = true ∧ c.getD 0 0 < 128 then some (if 1 < c.length ∧ c.getD 0 0 = 0 then c.drop 1 else c) else none
def bitsOf (c : List Int) : Option (List Int × Int) :=
  if c.length = 0 ∨ 7 < c.getD 0 0 ∨ (c.length = 1 ∧ c.getD 0 0 ≠ 0) then none
  else if 1 < c.length ∧ c.getD (c.length - 1) 0 % 2 ^ (c.getD 0 0).toNat ≠ 0 then none
  else some (c.drop 1, 8 * ((c.length : Int) - 1) - c.getD 0 0)

theorem intRight_pos {c : List Int} (h : intRight c = true) : 1 ≤ c.length := by
  unfold intRight at h
  simp only [decide_eq_true_eq] at h
  omega
theorem sg_zero (c : List Int) : sg c 0 = if 128 ≤ c.getD 0 0 then -1 else 0 := by
  unfold sg
  simp [beN_nil]
  split <;> rfl
theorem sg_succ (c : List Int) (i : Nat) (h : i < c.length) : sg c (i + 1) = sg c i * 256 + c.getD i 0 := by
  unfold sg
  rw [beN_take_succ c i h]
  split
  · rw [Int.pow_succ]; omega
  · omega
theorem sg_eq (c : List Int) (i : Nat) (hb : Byt c) (hi : i < c.length) : ∃ r p : Int, 0 ≤ r ∧ r < p ∧ p = 256 ^ i ∧ beN (c.take (i + 1)) = c.getD 0 0 * p + r := by
  obtain ⟨x, cs, rfl⟩ : ∃ x cs, c = x :: cs := by
    cases c with
    | nil => simp at hi
    | cons x cs => exact ⟨x, cs, rfl⟩
  have hl : (cs.take i).length = i := by simp at hi ⊢; omega
  obtain ⟨h0, h1⟩ := beN_bd i (cs.take i) (fun z hz => hb z (by simp [List.mem_of_mem_take hz])) hl
  refine ⟨_, _, h0, h1, rfl, ?_⟩
  rw [List.take_succ_cons, beN_cons, hl]
  rfl
theorem sg_bd (c : List Int) (i : Nat) (hb : Byt c) (hi : i ≤ c.length) (h8 : i ≤ 8) : -9223372036854775808 ≤ sg c i ∧ sg c i ≤ 9223372036854775807 := by
  rcases Nat.eq_zero_or_pos i with rfl | hp
  · rw [sg_zero]
    split <;> omega
  · obtain ⟨j, rfl⟩ : ∃ j, i = j + 1 := ⟨i - 1, by omega⟩
    obtain ⟨r, p, h0, h1, h2, h3⟩ := sg_eq c j hb (by omega)
    obtain ⟨x0, x1⟩ := Byt.getD hb 0
    obtain ⟨p0, p1⟩ := pow_mono j (7 - j)
    have e7 : (256 : Int) ^ (j + (7 - j)) = 72057594037927936 := by rw [show j + (7 - j) = 7 by omega]; rfl
    rw [← h2] at p0 p1
    rw [e7] at p1
    unfold sg
    rw [h3, Int.pow_succ, ← h2]
    have m1 : c.getD 0 0 * p ≤ 255 * p := Int.mul_le_mul_of_nonneg_right x1 p0
    have m0 : 0 * p ≤ c.getD 0 0 * p := Int.mul_le_mul_of_nonneg_right x0 p0
    split
    · rename_i h
      have m2 : 128 * p ≤ c.getD 0 0 * p := Int.mul_le_mul_of_nonneg_right h p0
      omega
    · rename_i h
      have m2 : c.getD 0 0 * p ≤ 127 * p := Int.mul_le_mul_of_nonneg_right (by omega) p0
      omega
/-- The first bit is the sign's. -/
theorem beN_sign (c : List Int) (i : Nat) (hb : Byt c) (hi : i < c.length) : (128 ≤ c.getD 0 0 ↔ 128 * 256 ^ i ≤ beN (c.take (i + 1))) := by
  obtain ⟨r, p, h0, h1, h2, h3⟩ := sg_eq c i hb hi
  have p0 : 0 ≤ p := by omega
  rw [h3, ← h2]
  constructor
  · intro h
    have m2 : 128 * p ≤ c.getD 0 0 * p := Int.mul_le_mul_of_nonneg_right h p0
    omega
  · intro h
    rcases Int.lt_or_le (c.getD 0 0) 128 with h4 | h4
    · have m2 : c.getD 0 0 * p ≤ 127 * p := Int.mul_le_mul_of_nonneg_right (by omega) p0
      omega
    · exact h4
theorem i64_or_byte (V x : Nat) (hV : V < 18446744073709551616) (hm : V % 256 = 0) (hx : x < 256) : bits .or .i64 (IntKind.i64.wrap (V : Int)) (x : Int) = IntKind.i64.wrap ((V : Int) + x) := by
  show IntKind.i64.wrap ((BitVec.ofInt 64 (IntKind.i64.wrap (V : Int)) ||| BitVec.ofInt 64 (x : Int)).toNat : Int) = _
  have e1 : (BitVec.ofInt 64 (IntKind.i64.wrap (V : Int))).toNat = V := by
    simp only [BitVec.toNat_ofInt, IntKind.wrap, IntKind.bits, IntKind.signed]
    simp
    omega
  have e2 : (BitVec.ofInt 64 (x : Int)).toNat = x := ofInt_u64 x (by omega)
  rw [BitVec.toNat_or, e1, e2, nat_join 8 V x hm hx]
  congr 1
theorem i64_wrap_mul (a : Int) (k : Int) : IntKind.i64.wrap (IntKind.i64.wrap a * k) = IntKind.i64.wrap (a * k) := by
  have h : ∃ q : Int, IntKind.i64.wrap a = a + 18446744073709551616 * q := by
    refine ⟨(IntKind.i64.wrap a - a) / 18446744073709551616, ?_⟩
    simp [IntKind.wrap, IntKind.bits, IntKind.signed]
    omega
  obtain ⟨q, hq⟩ := h
  rw [hq, Int.add_mul]
  have : 18446744073709551616 * q * k = 18446744073709551616 * (q * k) := by rw [Int.mul_assoc]
  rw [this]
  generalize a * k = u
  generalize q * k = v
  simp [IntKind.wrap, IntKind.bits, IntKind.signed]
/-- Shifting up and down brings the sign. -/
theorem sign_shift (c : List Int) (hb : Byt c) (L : Nat) (hL : c.length = L) (h1 : 1 ≤ L) (h8 : L ≤ 8) : IntKind.i64.wrap (beN c * 2 ^ (64 - 8 * L)) / 2 ^ (64 - 8 * L) = sg c L := by
  have hs := beN_sign c (L - 1) hb (by omega)
  have e : c.take (L - 1 + 1) = c := List.take_of_length_le (by omega)
  have e' : c.take L = c := List.take_of_length_le (by omega)
  obtain ⟨b0, b1⟩ := beN_bd L c hb hL
  unfold sg
  rw [e] at hs
  rw [e']
  generalize beN c = v at *
  generalize c.getD 0 0 = x at *
  obtain rfl | rfl | rfl | rfl | rfl | rfl | rfl | rfl : L = 1 ∨ L = 2 ∨ L = 3 ∨ L = 4 ∨ L = 5 ∨ L = 6 ∨ L = 7 ∨ L = 8 := by omega
  all_goals
    simp [IntKind.wrap, IntKind.bits, IntKind.signed] at *
    split <;> omega
theorem or_byte64 (V x : Nat) (hV : V < 18446744073709551616) (hm : V % 256 = 0) (hx : x < 256) : bits .or .i64 (wrap64 (V : Int)) (x : Int) = wrap64 ((V : Int) + x) := by
  rw [← IntWalk.i64_left, ← IntWalk.i64_left]
  exact i64_or_byte V x hV hm hx
theorem sign_shift64 (c : List Int) (hb : Byt c) (L : Nat) (hL : c.length = L) (h1 : 1 ≤ L) (h8 : L ≤ 8) : wrap64 (wrap64 (beN c) * 2 ^ (64 - 8 * L)) / 2 ^ (64 - 8 * L) = sg c L := by
  rw [← IntWalk.i64_left, ← IntWalk.i64_left, i64_wrap_mul]
  exact sign_shift c hb L hL h1 h8
theorem and_low : ∀ p : Nat, p < 8 → ∀ x : Nat, x < 256 → bits .and .u8 (x : Int) ((2 : Int) ^ p - 1) = (x : Int) % 2 ^ p := by decide +kernel
theorem and128_lo : ∀ k : Nat, k < 128 → bits .and .u8 (k : Int) 128 = 0 := by decide +kernel
theorem and128_hi' : ∀ k : Nat, k < 256 → 128 ≤ k → bits .and .u8 (k : Int) 128 = 128 := by decide +kernel
theorem u8_and128 (x : Int) (h0 : 0 ≤ x) (h1 : x ≤ 255) : bits .and .u8 x 128 = if x < 128 then 0 else 128 := by
  obtain ⟨k, rfl⟩ := Int.eq_ofNat_of_zero_le h0
  split
  · exact and128_lo k (by omega)
  · exact and128_hi' k (by omega) (by omega)
end Go.Proofs.Ytlnoeipbbncnfaa
