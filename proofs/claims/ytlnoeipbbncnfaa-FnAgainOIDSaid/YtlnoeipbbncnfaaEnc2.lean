/- The contents of integers as they are built, and that they are told so alone: plain definitions and laws. No program. -/
import Derived.Test.YtlnoeipbbncnfaaEnc
import Derived.Test.YtlnoeipbbncnfaaInt
namespace Go.Proofs.Ytlnoeipbbncnfaa
open Go.RowKit

/-- How many bytes an integer takes. -/
def iL (v : Int) : Nat :=
  if -128 ≤ v ∧ v < 128 then 1 else if -32768 ≤ v ∧ v < 32768 then 2 else if -8388608 ≤ v ∧ v < 8388608 then 3 else if -2147483648 ≤ v ∧ v < 2147483648 then 4 else if -549755813888 ≤ v ∧ v < 549755813888 then 5 else if -140737488355328 ≤ v ∧ v < 140737488355328 then 6 else if -36028797018963968 ≤ v ∧ v < 36028797018963968 then 7 else 8
/-- How many bytes an integer takes that is not below 0. -/
def uL (v : Int) : Nat :=
  if v < 128 then 1 else if v < 32768 then 2 else if v < 8388608 then 3 else if v < 2147483648 then 4 else if v < 549755813888 then 5 else if v < 140737488355328 then 6 else if v < 36028797018963968 then 7 else if v < 9223372036854775808 then 8 else 9
def octs (v : Int) : List Int := bigB v (iL v)
def uocts (v : Int) : List Int := bigB v (uL v)
theorem p256 : (256 : Int) ^ 0 = 1 ∧ (256 : Int) ^ 1 = 256 ∧ (256 : Int) ^ 2 = 65536 ∧ (256 : Int) ^ 3 = 16777216 ∧ (256 : Int) ^ 4 = 4294967296 ∧ (256 : Int) ^ 5 = 1099511627776 ∧ (256 : Int) ^ 6 = 281474976710656 ∧ (256 : Int) ^ 7 = 72057594037927936 ∧ (256 : Int) ^ 8 = 18446744073709551616 ∧ (256 : Int) ^ 9 = 4722366482869645213696 := by decide
theorem iL_is (v : Int) (h0 : -9223372036854775808 ≤ v) (h1 : v ≤ 9223372036854775807) :
    (1 ≤ iL v ∧ iL v ≤ 8) ∧ (-(128 * 256 ^ (iL v - 1)) ≤ v ∧ v < 128 * 256 ^ (iL v - 1)) ∧ (2 ≤ iL v → ¬ (-(128 * 256 ^ (iL v - 2)) ≤ v ∧ v < 128 * 256 ^ (iL v - 2))) := by
  obtain ⟨p0, p1, p2, p3, p4, p5, p6, p7, _, _⟩ := p256
  unfold iL
  by_cases c1 : -128 ≤ v ∧ v < 128
  · rw [if_pos c1]
    simp only [Nat.reduceSub, p0]
    exact ⟨by omega, by omega, fun _ => by omega⟩
  rw [if_neg c1]
  by_cases c2 : -32768 ≤ v ∧ v < 32768
  · rw [if_pos c2]
    simp only [Nat.reduceSub, p1, p0]
    exact ⟨by omega, by omega, fun _ => by omega⟩
  rw [if_neg c2]
  by_cases c3 : -8388608 ≤ v ∧ v < 8388608
  · rw [if_pos c3]
    simp only [Nat.reduceSub, p2, p1]
    exact ⟨by omega, by omega, fun _ => by omega⟩
  rw [if_neg c3]
  by_cases c4 : -2147483648 ≤ v ∧ v < 2147483648
  · rw [if_pos c4]
    simp only [Nat.reduceSub, p3, p2]
    exact ⟨by omega, by omega, fun _ => by omega⟩
  rw [if_neg c4]
  by_cases c5 : -549755813888 ≤ v ∧ v < 549755813888
  · rw [if_pos c5]
    simp only [Nat.reduceSub, p4, p3]
    exact ⟨by omega, by omega, fun _ => by omega⟩
  rw [if_neg c5]
  by_cases c6 : -140737488355328 ≤ v ∧ v < 140737488355328
  · rw [if_pos c6]
    simp only [Nat.reduceSub, p5, p4]
    exact ⟨by omega, by omega, fun _ => by omega⟩
  rw [if_neg c6]
  by_cases c7 : -36028797018963968 ≤ v ∧ v < 36028797018963968
  · rw [if_pos c7]
    simp only [Nat.reduceSub, p6, p5]
    exact ⟨by omega, by omega, fun _ => by omega⟩
  rw [if_neg c7]
  simp only [Nat.reduceSub, p7, p6]
  exact ⟨by omega, by omega, fun _ => by omega⟩
theorem iL_eq {v : Int} {L : Nat} (h1 : 1 ≤ L) (h8 : L ≤ 8) (hr : -(128 * 256 ^ (L - 1)) ≤ v ∧ v < 128 * 256 ^ (L - 1)) (hn : 2 ≤ L → ¬ (-(128 * 256 ^ (L - 2)) ≤ v ∧ v < 128 * 256 ^ (L - 2))) : iL v = L := by
  obtain ⟨p0, p1, p2, p3, p4, p5, p6, p7, _, _⟩ := p256
  obtain rfl | rfl | rfl | rfl | rfl | rfl | rfl | rfl : L = 1 ∨ L = 2 ∨ L = 3 ∨ L = 4 ∨ L = 5 ∨ L = 6 ∨ L = 7 ∨ L = 8 := by omega
  · simp only [Nat.reduceSub, p0] at hr
    clear hn
    unfold iL
    rw [if_pos (by omega)]
  · simp only [Nat.reduceSub, p1] at hr
    have hn := hn (by omega)
    simp only [Nat.reduceSub, p0] at hn
    unfold iL
    rw [if_neg (by omega), if_pos (by omega)]
  · simp only [Nat.reduceSub, p2] at hr
    have hn := hn (by omega)
    simp only [Nat.reduceSub, p1] at hn
    unfold iL
    rw [if_neg (by omega), if_neg (by omega), if_pos (by omega)]
  · simp only [Nat.reduceSub, p3] at hr
    have hn := hn (by omega)
    simp only [Nat.reduceSub, p2] at hn
    unfold iL
    rw [if_neg (by omega), if_neg (by omega), if_neg (by omega), if_pos (by omega)]
  · simp only [Nat.reduceSub, p4] at hr
    have hn := hn (by omega)
    simp only [Nat.reduceSub, p3] at hn
    unfold iL
    rw [if_neg (by omega), if_neg (by omega), if_neg (by omega), if_neg (by omega), if_pos (by omega)]
  · simp only [Nat.reduceSub, p5] at hr
    have hn := hn (by omega)
    simp only [Nat.reduceSub, p4] at hn
    unfold iL
    rw [if_neg (by omega), if_neg (by omega), if_neg (by omega), if_neg (by omega), if_neg (by omega), if_pos (by omega)]
  · simp only [Nat.reduceSub, p6] at hr
    have hn := hn (by omega)
    simp only [Nat.reduceSub, p5] at hn
    unfold iL
    rw [if_neg (by omega), if_neg (by omega), if_neg (by omega), if_neg (by omega), if_neg (by omega), if_neg (by omega), if_pos (by omega)]
  · simp only [Nat.reduceSub, p7] at hr
    have hn := hn (by omega)
    simp only [Nat.reduceSub, p6] at hn
    unfold iL
    rw [if_neg (by omega), if_neg (by omega), if_neg (by omega), if_neg (by omega), if_neg (by omega), if_neg (by omega), if_neg (by omega)]
theorem uL_is (v : Int) (h0 : 0 ≤ v) (h1 : v ≤ 18446744073709551615) :
    (1 ≤ uL v ∧ uL v ≤ 9) ∧ v < 128 * 256 ^ (uL v - 1) ∧ (2 ≤ uL v → 128 * 256 ^ (uL v - 2) ≤ v) := by
  obtain ⟨p0, p1, p2, p3, p4, p5, p6, p7, p8, _⟩ := p256
  unfold uL
  by_cases c1 : v < 128
  · rw [if_pos c1]
    simp only [Nat.reduceSub, p0]
    exact ⟨by omega, by omega, fun _ => by omega⟩
  rw [if_neg c1]
  by_cases c2 : v < 32768
  · rw [if_pos c2]
    simp only [Nat.reduceSub, p1, p0]
    exact ⟨by omega, by omega, fun _ => by omega⟩
  rw [if_neg c2]
  by_cases c3 : v < 8388608
  · rw [if_pos c3]
    simp only [Nat.reduceSub, p2, p1]
    exact ⟨by omega, by omega, fun _ => by omega⟩
  rw [if_neg c3]
  by_cases c4 : v < 2147483648
  · rw [if_pos c4]
    simp only [Nat.reduceSub, p3, p2]
    exact ⟨by omega, by omega, fun _ => by omega⟩
  rw [if_neg c4]
  by_cases c5 : v < 549755813888
  · rw [if_pos c5]
    simp only [Nat.reduceSub, p4, p3]
    exact ⟨by omega, by omega, fun _ => by omega⟩
  rw [if_neg c5]
  by_cases c6 : v < 140737488355328
  · rw [if_pos c6]
    simp only [Nat.reduceSub, p5, p4]
    exact ⟨by omega, by omega, fun _ => by omega⟩
  rw [if_neg c6]
  by_cases c7 : v < 36028797018963968
  · rw [if_pos c7]
    simp only [Nat.reduceSub, p6, p5]
    exact ⟨by omega, by omega, fun _ => by omega⟩
  rw [if_neg c7]
  by_cases c8 : v < 9223372036854775808
  · rw [if_pos c8]
    simp only [Nat.reduceSub, p7, p6]
    exact ⟨by omega, by omega, fun _ => by omega⟩
  rw [if_neg c8]
  simp only [Nat.reduceSub, p8, p7]
  exact ⟨by omega, by omega, fun _ => by omega⟩
theorem uL_eq {v : Int} {L : Nat} (h1 : 1 ≤ L) (h9 : L ≤ 9) (hr : v < 128 * 256 ^ (L - 1)) (hn : 2 ≤ L → 128 * 256 ^ (L - 2) ≤ v) : uL v = L := by
  obtain ⟨p0, p1, p2, p3, p4, p5, p6, p7, p8, _⟩ := p256
  obtain rfl | rfl | rfl | rfl | rfl | rfl | rfl | rfl | rfl : L = 1 ∨ L = 2 ∨ L = 3 ∨ L = 4 ∨ L = 5 ∨ L = 6 ∨ L = 7 ∨ L = 8 ∨ L = 9 := by omega
  · simp only [Nat.reduceSub, p0] at hr
    clear hn
    unfold uL
    rw [if_pos (by omega)]
  · simp only [Nat.reduceSub, p1] at hr
    have hn := hn (by omega)
    simp only [Nat.reduceSub, p0] at hn
    unfold uL
    rw [if_neg (by omega), if_pos (by omega)]
  · simp only [Nat.reduceSub, p2] at hr
    have hn := hn (by omega)
    simp only [Nat.reduceSub, p1] at hn
    unfold uL
    rw [if_neg (by omega), if_neg (by omega), if_pos (by omega)]
  · simp only [Nat.reduceSub, p3] at hr
    have hn := hn (by omega)
    simp only [Nat.reduceSub, p2] at hn
    unfold uL
    rw [if_neg (by omega), if_neg (by omega), if_neg (by omega), if_pos (by omega)]
  · simp only [Nat.reduceSub, p4] at hr
    have hn := hn (by omega)
    simp only [Nat.reduceSub, p3] at hn
    unfold uL
    rw [if_neg (by omega), if_neg (by omega), if_neg (by omega), if_neg (by omega), if_pos (by omega)]
  · simp only [Nat.reduceSub, p5] at hr
    have hn := hn (by omega)
    simp only [Nat.reduceSub, p4] at hn
    unfold uL
    rw [if_neg (by omega), if_neg (by omega), if_neg (by omega), if_neg (by omega), if_neg (by omega), if_pos (by omega)]
  · simp only [Nat.reduceSub, p6] at hr
    have hn := hn (by omega)
    simp only [Nat.reduceSub, p5] at hn
    unfold uL
    rw [if_neg (by omega), if_neg (by omega), if_neg (by omega), if_neg (by omega), if_neg (by omega), if_neg (by omega), if_pos (by omega)]
  · simp only [Nat.reduceSub, p7] at hr
    have hn := hn (by omega)
    simp only [Nat.reduceSub, p6] at hn
    unfold uL
    rw [if_neg (by omega), if_neg (by omega), if_neg (by omega), if_neg (by omega), if_neg (by omega), if_neg (by omega), if_neg (by omega), if_pos (by omega)]
  · simp only [Nat.reduceSub, p8] at hr
    have hn := hn (by omega)
    simp only [Nat.reduceSub, p7] at hn
    unfold uL
    rw [if_neg (by omega), if_neg (by omega), if_neg (by omega), if_neg (by omega), if_neg (by omega), if_neg (by omega), if_neg (by omega), if_neg (by omega)]
theorem pow_le256 {a b : Nat} (h : a ≤ b) : (256 : Int) ^ a ≤ 256 ^ b := by
  have := (pow_mono a (b - a)).2
  rwa [show a + (b - a) = b by omega] at this
theorem iL_le (v : Int) (h0 : -9223372036854775808 ≤ v) (h1 : v ≤ 9223372036854775807) (j : Nat) : (-128 ≤ v / 256 ^ j ∧ v / 256 ^ j ≤ 127) ↔ iL v ≤ j + 1 := by
  obtain ⟨hb, hr, hn⟩ := iL_is v h0 h1
  have hp : (0 : Int) < 256 ^ j := Int.pow_pos (by decide)
  have e1 : (-128 ≤ v / 256 ^ j ↔ -(128 * 256 ^ j) ≤ v) := by
    rw [Int.le_ediv_iff_mul_le hp, show -128 * (256 : Int) ^ j = -(128 * 256 ^ j) by omega]
  have e2 : (v / 256 ^ j ≤ 127 ↔ v < 128 * 256 ^ j) := by
    rw [show (v / 256 ^ j ≤ 127 ↔ v / 256 ^ j < 128) by omega, Int.ediv_lt_iff_lt_mul hp]
  rw [e1, e2]
  constructor
  · intro h
    rcases Nat.lt_or_ge (j + 1) (iL v) with hlt | hle
    · exfalso
      have := hn (by omega)
      have hm := pow_le256 (show j ≤ iL v - 2 by omega)
      omega
    · exact hle
  · intro h
    have hm := pow_le256 (show iL v - 1 ≤ j by omega)
    omega
theorem uL_le (v : Int) (h0 : 0 ≤ v) (h1 : v ≤ 18446744073709551615) (j : Nat) : v / 256 ^ j < 128 ↔ uL v ≤ j + 1 := by
  obtain ⟨hb, hr, hn⟩ := uL_is v h0 h1
  have hp : (0 : Int) < 256 ^ j := Int.pow_pos (by decide)
  rw [Int.ediv_lt_iff_lt_mul hp]
  constructor
  · intro h
    rcases Nat.lt_or_ge (j + 1) (uL v) with hlt | hle
    · exfalso
      have := hn (by omega)
      have hm := pow_le256 (show j ≤ uL v - 2 by omega)
      omega
    · exact hle
  · intro h
    have hm := pow_le256 (show uL v - 1 ≤ j by omega)
    omega
theorem uL_iL (v : Int) (h0 : 0 ≤ v) (h1 : v ≤ 9223372036854775807) : uL v = iL v := by
  obtain ⟨hb, hr, hn⟩ := iL_is v (by omega) h1
  refine uL_eq hb.1 (by omega) hr.2 fun h2 => ?_
  have := hn h2
  have hp : (0 : Int) < 256 ^ (iL v - 2) := Int.pow_pos (by decide)
  omega
theorem octs_len (v : Int) : (octs v).length = iL v := bigB_len _ _
theorem uocts_len (v : Int) : (uocts v).length = uL v := bigB_len _ _
theorem octs_byt (v : Int) : Byt (octs v) := bigB_byt _ _
theorem uocts_byt (v : Int) : Byt (uocts v) := bigB_byt _ _
theorem bigB_take_drop (k m : Nat) (v : Int) : bigB v (m + k) = bigB (v / 256 ^ k) m ++ bigB v k := by
  induction k generalizing v with
  | zero => simp [bigB]
  | succ k ih =>
    rw [← Nat.add_assoc, bigB_succ, ih, bigB_succ v k, ← List.append_assoc, Int.ediv_ediv_of_nonneg (by decide), Int.pow_succ, Int.mul_comm 256]
/-- The two highest bytes, and what the others come to. -/
theorem bytes_two {c : List Int} {L : Nat} (hb : Byt c) (hL : c.length = L + 2) : ∃ r : Int, 0 ≤ r ∧ r < 256 ^ L ∧ beN c = c.getD 0 0 * 256 ^ (L + 1) + c.getD 1 0 * 256 ^ L + r := by
  obtain ⟨a, b, d, rfl⟩ : ∃ a b d, c = a :: b :: d := by
    match c, (show 2 ≤ c.length by omega) with
    | a :: b :: ys, _ => exact ⟨a, b, ys, rfl⟩
    | [], h => exact absurd h (by simp)
    | [_], h => exact absurd h (by simp)
  have hd : d.length = L := by simpa using hL
  have hbd := beN_bd L d (fun x hx => hb x (by simp [hx])) hd
  refine ⟨beN d, hbd.1, hbd.2, ?_⟩
  rw [beN_cons, beN_cons, List.length_cons, hd]
  show a * 256 ^ (L + 1) + (b * 256 ^ L + beN d) = a * 256 ^ (L + 1) + b * 256 ^ L + beN d
  omega
/-- An integer's contents as they are told: the bounds of its value. -/
theorem int_range {c : List Int} {v : Int} {L : Nat} (hL : c.length = L) (hb : Byt c) (hr : intRight c = true) (h8 : L ≤ 8) (hv : beN c = v + 256 ^ L * (if 128 ≤ c.getD 0 0 then 1 else 0)) :
    (-(128 * 256 ^ (L - 1)) ≤ v ∧ v < 128 * 256 ^ (L - 1)) ∧ (2 ≤ L → ¬ (-(128 * 256 ^ (L - 2)) ≤ v ∧ v < 128 * 256 ^ (L - 2))) := by
  have h1 := intRight_pos hr
  have hg0 := Byt.getD hb 0
  have hg1 := Byt.getD hb 1
  unfold intRight at hr
  simp only [decide_eq_true_eq] at hr
  obtain ⟨p0, p1, p2, p3, p4, p5, p6, p7, p8, _⟩ := p256
  by_cases e1 : c.length = 1
  · obtain ⟨a, rfl⟩ : ∃ a, c = [a] := by
      match c, e1 with
      | [a], _ => exact ⟨a, rfl⟩
    obtain rfl : L = 1 := by simpa using hL.symm
    have : beN [a] = a := by simp [beN]
    rw [this] at hv
    have e : [a].getD 0 0 = a := rfl
    rw [e] at hv hg0
    simp only [p1, p0, Nat.reduceSub] at hv ⊢
    split at hv
    · exact ⟨by omega, by omega⟩
    · exact ⟨by omega, by omega⟩
  · obtain ⟨r, r0, r1, h2⟩ := bytes_two (L := L - 2) hb (by omega)
    rw [hv] at h2
    rw [hL] at hr h1 e1
    clear hb hL hv
    generalize c.getD 0 0 = a at *
    generalize c.getD 1 0 = b at *
    obtain rfl | rfl | rfl | rfl | rfl | rfl | rfl : L = 2 ∨ L = 3 ∨ L = 4 ∨ L = 5 ∨ L = 6 ∨ L = 7 ∨ L = 8 := by omega
    · simp only [Nat.reduceSub, Nat.reduceAdd, p0, p1, p2] at h2 r1 ⊢
      split at h2
      · exact ⟨⟨by omega, by omega⟩, fun _ => by omega⟩
      · exact ⟨⟨by omega, by omega⟩, fun _ => by omega⟩
    · simp only [Nat.reduceSub, Nat.reduceAdd, p1, p2, p3] at h2 r1 ⊢
      split at h2
      · exact ⟨⟨by omega, by omega⟩, fun _ => by omega⟩
      · exact ⟨⟨by omega, by omega⟩, fun _ => by omega⟩
    · simp only [Nat.reduceSub, Nat.reduceAdd, p2, p3, p4] at h2 r1 ⊢
      split at h2
      · exact ⟨⟨by omega, by omega⟩, fun _ => by omega⟩
      · exact ⟨⟨by omega, by omega⟩, fun _ => by omega⟩
    · simp only [Nat.reduceSub, Nat.reduceAdd, p3, p4, p5] at h2 r1 ⊢
      split at h2
      · exact ⟨⟨by omega, by omega⟩, fun _ => by omega⟩
      · exact ⟨⟨by omega, by omega⟩, fun _ => by omega⟩
    · simp only [Nat.reduceSub, Nat.reduceAdd, p4, p5, p6] at h2 r1 ⊢
      split at h2
      · exact ⟨⟨by omega, by omega⟩, fun _ => by omega⟩
      · exact ⟨⟨by omega, by omega⟩, fun _ => by omega⟩
    · simp only [Nat.reduceSub, Nat.reduceAdd, p5, p6, p7] at h2 r1 ⊢
      split at h2
      · exact ⟨⟨by omega, by omega⟩, fun _ => by omega⟩
      · exact ⟨⟨by omega, by omega⟩, fun _ => by omega⟩
    · simp only [Nat.reduceSub, Nat.reduceAdd, p6, p7, p8] at h2 r1 ⊢
      split at h2
      · exact ⟨⟨by omega, by omega⟩, fun _ => by omega⟩
      · exact ⟨⟨by omega, by omega⟩, fun _ => by omega⟩
theorem octs_of {c : List Int} {v : Int} (hb : Byt c) (h : intOf' c = some v) : octs v = c ∧ -9223372036854775808 ≤ v ∧ v ≤ 9223372036854775807 := by
  unfold intOf' at h
  split at h
  · rename_i hr
    obtain ⟨hr, h8⟩ := hr
    simp only [Option.some.injEq] at h
    have h1 := intRight_pos hr
    have hbd := sg_bd c c.length hb (Nat.le_refl _) h8
    rw [h] at hbd
    refine ⟨?_, hbd⟩
    have hsg : beN c = v + 256 ^ c.length * (if 128 ≤ c.getD 0 0 then 1 else 0) := by
      rw [← h]
      unfold sg
      rw [List.take_of_length_le (Nat.le_refl _)]
      split <;> omega
    have hbig : bigB v c.length = c := by
      have := bigB_beN c.length c hb rfl
      rw [hsg, bigB_add] at this
      exact this
    obtain ⟨i1, i2⟩ := int_range rfl hb hr h8 hsg
    unfold octs
    rw [iL_eq h1 h8 i1 i2, hbig]
  · cases h
theorem uint_range {c : List Int} {v : Int} {L : Nat} (hL : c.length = L) (hb : Byt c) (hr : intRight c = true) (hlt : c.getD 0 0 < 128) (h9 : L ≤ 8 ∨ L = 9 ∧ c.getD 0 0 = 0) (hv : beN c = v) :
    (0 ≤ v ∧ v ≤ 18446744073709551615) ∧ v < 128 * 256 ^ (L - 1) ∧ (2 ≤ L → 128 * 256 ^ (L - 2) ≤ v) := by
  have h1 := intRight_pos hr
  have hg0 := Byt.getD hb 0
  have hg1 := Byt.getD hb 1
  unfold intRight at hr
  simp only [decide_eq_true_eq] at hr
  obtain ⟨p0, p1, p2, p3, p4, p5, p6, p7, p8, _⟩ := p256
  by_cases e1 : c.length = 1
  · obtain ⟨a, rfl⟩ : ∃ a, c = [a] := by
      match c, e1 with
      | [a], _ => exact ⟨a, rfl⟩
    obtain rfl : L = 1 := by simpa using hL.symm
    have : beN [a] = a := by simp [beN]
    rw [this] at hv
    have e : [a].getD 0 0 = a := rfl
    rw [e] at hlt hg0
    simp only [p0, Nat.reduceSub]
    exact ⟨by omega, by omega, by omega⟩
  · obtain ⟨r, r0, r1, h2⟩ := bytes_two (L := L - 2) hb (by omega)
    rw [hv] at h2
    rw [hL] at hr h1 e1
    clear hb hL hv
    generalize c.getD 0 0 = a at *
    generalize c.getD 1 0 = b at *
    obtain rfl | rfl | rfl | rfl | rfl | rfl | rfl | rfl : L = 2 ∨ L = 3 ∨ L = 4 ∨ L = 5 ∨ L = 6 ∨ L = 7 ∨ L = 8 ∨ L = 9 := by omega
    · simp only [Nat.reduceSub, Nat.reduceAdd, p0, p1] at h2 r1 ⊢
      exact ⟨⟨by omega, by omega⟩, by omega, fun _ => by omega⟩
    · simp only [Nat.reduceSub, Nat.reduceAdd, p1, p2] at h2 r1 ⊢
      exact ⟨⟨by omega, by omega⟩, by omega, fun _ => by omega⟩
    · simp only [Nat.reduceSub, Nat.reduceAdd, p2, p3] at h2 r1 ⊢
      exact ⟨⟨by omega, by omega⟩, by omega, fun _ => by omega⟩
    · simp only [Nat.reduceSub, Nat.reduceAdd, p3, p4] at h2 r1 ⊢
      exact ⟨⟨by omega, by omega⟩, by omega, fun _ => by omega⟩
    · simp only [Nat.reduceSub, Nat.reduceAdd, p4, p5] at h2 r1 ⊢
      exact ⟨⟨by omega, by omega⟩, by omega, fun _ => by omega⟩
    · simp only [Nat.reduceSub, Nat.reduceAdd, p5, p6] at h2 r1 ⊢
      exact ⟨⟨by omega, by omega⟩, by omega, fun _ => by omega⟩
    · simp only [Nat.reduceSub, Nat.reduceAdd, p6, p7] at h2 r1 ⊢
      exact ⟨⟨by omega, by omega⟩, by omega, fun _ => by omega⟩
    · simp only [Nat.reduceSub, Nat.reduceAdd, p7, p8] at h2 r1 ⊢
      exact ⟨⟨by omega, by omega⟩, by omega, fun _ => by omega⟩
theorem uocts_of {c : List Int} {v : Int} (hb : Byt c) (h : uintOf c = some v) : uocts v = c ∧ 0 ≤ v ∧ v ≤ 18446744073709551615 := by
  unfold uintOf at h
  split at h
  · rename_i hr
    obtain ⟨hr, hlt, h9⟩ := hr
    simp only [Option.some.injEq] at h
    have h1 := intRight_pos hr
    have hbig := bigB_beN c.length c hb rfl
    rw [h] at hbig
    obtain ⟨i0, i1, i2⟩ := uint_range rfl hb hr hlt h9 h
    refine ⟨?_, i0⟩
    unfold uocts
    rw [uL_eq h1 (by omega) i1 i2, hbig]
  · cases h
end Go.Proofs.Ytlnoeipbbncnfaa
