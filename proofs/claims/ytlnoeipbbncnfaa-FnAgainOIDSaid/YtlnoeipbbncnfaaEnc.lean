/- Bytes as they are built: numbers, lengths, elements of DER: plain definitions and laws. No program. -/
import Derived.Test.YtlnoeipbbncnfaaDer
namespace Go.Proofs.Ytlnoeipbbncnfaa

/-- A number in k bytes, the highest first; what does not fit is left out. -/
def bigB (v : Int) : Nat → List Int
  | 0 => []
  | k + 1 => bigB (v / 256) k ++ [v % 256]
theorem bigB_succ (v : Int) (k : Nat) : bigB v (k + 1) = bigB (v / 256) k ++ [v % 256] := rfl
theorem bigB_len : ∀ (k : Nat) (v : Int), (bigB v k).length = k
  | 0, _ => rfl
  | k + 1, v => by rw [bigB_succ, List.length_append, bigB_len k]; rfl
theorem bigB_byt : ∀ (k : Nat) (v : Int), ∀ x ∈ bigB v k, 0 ≤ x ∧ x ≤ 255
  | 0, _ => by intro x hx; cases hx
  | k + 1, v => by
    intro x hx
    rw [bigB_succ] at hx
    rcases List.mem_append.1 hx with h | h
    · exact bigB_byt k _ x h
    · simp only [List.mem_singleton] at h
      omega
theorem bigB_cons : ∀ (k : Nat) (v : Int), bigB v (k + 1) = (v / 256 ^ k % 256) :: bigB v k
  | 0, v => by simp [bigB]
  | k + 1, v => by
    rw [bigB_succ, bigB_cons k (v / 256), bigB_succ v k]
    have e : v / 256 / 256 ^ k = v / 256 ^ (k + 1) := by
      rw [Int.ediv_ediv_of_nonneg (by decide), Int.pow_succ, Int.mul_comm]
    rw [e]
    rfl
theorem beN_bigB : ∀ (k : Nat) (v : Int), beN (bigB v k) = v % 256 ^ k
  | 0, v => by simp [bigB, beN, Int.emod_one]
  | k + 1, v => by
    rw [bigB_succ, beN_snoc, beN_bigB k, Int.pow_succ]
    have hp : (0 : Int) < 256 ^ k := Int.pow_pos (by decide)
    have h1 := Int.emod_add_mul_ediv (v / 256) (256 ^ k)
    have h2 := Int.emod_lt_of_pos (v / 256) hp
    have h3 := Int.emod_nonneg (v / 256) (Int.ne_of_gt hp)
    generalize (v / 256) % 256 ^ k = r at *
    generalize v / 256 / 256 ^ k = q at *
    generalize (256 : Int) ^ k = p at *
    have h4 : v = (r * 256 + v % 256) + p * 256 * q := by
      have : p * 256 * q = 256 * (p * q) := by rw [Int.mul_assoc, Int.mul_comm, Int.mul_assoc, Int.mul_comm q p]
      omega
    have h5 : v % (p * 256) = (r * 256 + v % 256) % (p * 256) := by
      conv => lhs; rw [h4]
      rw [Int.add_mul_emod_self_left]
    rw [h5, Int.emod_eq_of_lt (a := r * 256 + v % 256) (b := p * 256) (by omega) (by omega)]
theorem bigB_beN : ∀ (n : Nat) (xs : List Int), (∀ x ∈ xs, 0 ≤ x ∧ x ≤ 255) → xs.length = n → bigB (beN xs) n = xs := by
  intro n
  induction n with
  | zero =>
    intro xs _ hl
    rw [List.eq_nil_of_length_eq_zero hl]
    rfl
  | succ n ih =>
    intro xs hb hl
    have hne : xs ≠ [] := by intro e; subst e; simp at hl
    obtain ⟨ys, y, rfl⟩ : ∃ ys y, xs = ys ++ [y] := ⟨xs.dropLast, xs.getLast hne, (List.dropLast_concat_getLast hne).symm⟩
    have h1 := ih ys (fun x hx => hb x (by simp [hx])) (by simpa using hl)
    have h2 := hb y (by simp)
    rw [beN_snoc, bigB_succ, show (beN ys * 256 + y) / 256 = beN ys by omega, show (beN ys * 256 + y) % 256 = y by omega, h1]
/-- Only the lowest bytes count. -/
theorem bigB_add : ∀ (k : Nat) (v q : Int), bigB (v + 256 ^ k * q) k = bigB v k
  | 0, _, _ => rfl
  | k + 1, v, q => by
    have e : (256 : Int) ^ (k + 1) * q = 256 * (256 ^ k * q) := by rw [Int.pow_succ, Int.mul_comm (256 ^ k) 256, Int.mul_assoc]
    rw [bigB_succ, bigB_succ, e]
    have e1 : (v + 256 * (256 ^ k * q)) / 256 = v / 256 + 256 ^ k * q := by omega
    have e2 : (v + 256 * (256 ^ k * q)) % 256 = v % 256 := by omega
    rw [e1, e2, bigB_add k]
theorem bigB_one (v : Int) : bigB v 1 = [v % 256] := rfl

/-! ### lengths and elements -/
/-- How many bytes a length takes. -/
def nb (n : Nat) : Nat := if n < 256 then 1 else if n < 65536 then 2 else if n < 16777216 then 3 else 4
theorem nb_bd (n : Nat) : 1 ≤ nb n ∧ nb n ≤ 4 := by
  unfold nb
  repeat' split
  all_goals omega
def hdr (t : Int) (n : Nat) : List Int := if n < 128 then [t, n] else [t, (128 + nb n : Nat)] ++ bigB n (nb n)
/-- An element of a tag and contents. -/
def wrapped (t : Int) (c : List Int) : List Int := hdr t c.length ++ c
theorem hdr_short {t : Int} {n : Nat} (h : n < 128) : hdr t n = [t, n] := by unfold hdr; rw [if_pos h]
theorem hdr_long {t : Int} {n : Nat} (h : 128 ≤ n) : hdr t n = [t, (128 + nb n : Nat)] ++ bigB n (nb n) := by unfold hdr; rw [if_neg (by omega)]
theorem hdr_len (t : Int) (n : Nat) : (hdr t n).length = if n < 128 then 2 else 2 + nb n := by
  by_cases h : n < 128
  · rw [hdr_short h, if_pos h]; rfl
  · rw [hdr_long (by omega), if_neg h, List.length_append, bigB_len]; rfl
theorem hdr_len_le (t : Int) (n : Nat) : 2 ≤ (hdr t n).length ∧ (hdr t n).length ≤ 6 := by
  rw [hdr_len]
  have := nb_bd n
  split <;> omega
theorem hdr_byt {t : Int} {n : Nat} (ht : 0 ≤ t ∧ t ≤ 255) : ∀ x ∈ hdr t n, 0 ≤ x ∧ x ≤ 255 := by
  intro x hx
  by_cases h : n < 128
  · rw [hdr_short h] at hx
    simp only [List.mem_cons, List.not_mem_nil, or_false] at hx
    rcases hx with rfl | rfl <;> omega
  · rw [hdr_long (by omega)] at hx
    have := nb_bd n
    simp only [List.mem_append, List.mem_cons, List.not_mem_nil, or_false] at hx
    rcases hx with (rfl | rfl) | hx
    · omega
    · omega
    · exact bigB_byt _ _ x hx
theorem nb_val (n : Nat) (hn : n < 4294967296) : (n : Int) % 256 ^ nb n = n ∧ (0 < n → (n : Int) / 256 ^ (nb n - 1) % 256 ≠ 0) := by
  have p1 : (256 : Int) ^ 1 = 256 := by decide
  have p2 : (256 : Int) ^ 2 = 65536 := by decide
  have p3 : (256 : Int) ^ 3 = 16777216 := by decide
  have p4 : (256 : Int) ^ 4 = 4294967296 := by decide
  unfold nb
  split
  · rw [p1, show (1 : Nat) - 1 = 0 from rfl, Int.pow_zero]
    exact ⟨by omega, fun _ => by omega⟩
  · split
    · rw [p2, show (2 : Nat) - 1 = 1 from rfl, p1]
      exact ⟨by omega, fun _ => by omega⟩
    · split
      · rw [p3, show (3 : Nat) - 1 = 2 from rfl, p2]
        exact ⟨by omega, fun _ => by omega⟩
      · rw [p4, show (4 : Nat) - 1 = 3 from rfl, p3]
        exact ⟨by omega, fun _ => by omega⟩
/-- The bytes of a length, as many as it takes, are told only so. -/
theorem nb_unique {n m : Nat} (h1 : 1 ≤ m) (h4 : m ≤ 4) (hlo : (256 : Int) ^ (m - 1) ≤ n) (hhi : (n : Int) < 256 ^ m) : nb n = m := by
  obtain rfl | rfl | rfl | rfl : m = 1 ∨ m = 2 ∨ m = 3 ∨ m = 4 := by omega
  all_goals
    unfold nb
    simp only [show (1 : Nat) - 1 = 0 from rfl, show (2 : Nat) - 1 = 1 from rfl, show (3 : Nat) - 1 = 2 from rfl, show (4 : Nat) - 1 = 3 from rfl, show (256 : Int) ^ 0 = 1 from by decide, show (256 : Int) ^ 1 = 256 from by decide, show (256 : Int) ^ 2 = 65536 from by decide, show (256 : Int) ^ 3 = 16777216 from by decide, show (256 : Int) ^ 4 = 4294967296 from by decide] at hlo hhi
    repeat' split
    all_goals omega
theorem getD_append_hd (a b : Int) (l : List Int) : (a :: b :: l).getD 0 0 = a ∧ (a :: b :: l).getD 1 0 = b := ⟨rfl, rfl⟩
theorem first_hdr {t : Int} {n : Nat} {c : List Int} (h31 : t % 32 ≠ 31) (hn : n < 4294967296) (hc : n ≤ c.length) :
    first (hdr t n ++ c) = some (t, (hdr t n).length, (hdr t n).length + n) := by
  by_cases h : n < 128
  · rw [hdr_short h]
    have hl : lenOf ([t, (n : Int)] ++ c) = some (2, n) := by
      unfold lenOf
      rw [show ([t, (n : Int)] ++ c).getD 1 0 = n from rfl, if_pos (by omega), Int.toNat_natCast]
    unfold first
    rw [show ([t, (n : Int)] ++ c).getD 0 0 = t from rfl, if_neg (by simp; omega), hl]
    simp only [List.length_append, List.length_cons, List.length_nil]
    rw [if_neg (by omega)]
  · have hb := nb_bd n
    obtain ⟨v1, v2⟩ := nb_val n hn
    rw [hdr_long (by omega)]
    generalize hm : nb n = m at *
    have hxs : [t, ((128 + m : Nat) : Int)] ++ bigB n m ++ c = t :: ((128 + m : Nat) : Int) :: (bigB n m ++ c) := by simp
    have hlen : (t :: ((128 + m : Nat) : Int) :: (bigB n m ++ c)).length = 2 + m + c.length := by simp [bigB_len]; omega
    have hbe : beN (((t :: ((128 + m : Nat) : Int) :: (bigB n m ++ c)).drop 2).take m) = n := by
      have : ((t :: ((128 + m : Nat) : Int) :: (bigB n m ++ c)).drop 2).take m = bigB n m := by
        show (bigB n m ++ c).take m = _
        rw [List.take_append_of_le_length (by rw [bigB_len]; exact Nat.le_refl _), List.take_of_length_le (by rw [bigB_len]; exact Nat.le_refl _)]
      rw [this, beN_bigB, v1]
    have htop : (t :: ((128 + m : Nat) : Int) :: (bigB n m ++ c)).getD 2 0 ≠ 0 := by
      obtain ⟨k, rfl⟩ : ∃ k, m = k + 1 := ⟨m - 1, by omega⟩
      rw [bigB_cons]
      exact v2 (by omega)
    have hf := first_long (xs := t :: ((128 + m : Nat) : Int) :: (bigB n m ++ c)) (m := m) (by omega) (by simpa using h31) (by show ((128 + m : Nat) : Int) = _; omega) hb.1 hb.2 (by omega) hbe
    rw [hxs, hf, if_neg (by omega), if_neg (by rw [hlen]; omega)]
    simp only [Option.some.injEq, Prod.mk.injEq, List.length_append, List.length_cons, List.length_nil, bigB_len]
    exact ⟨rfl, trivial, by omega⟩
theorem firstOf_wrapped {t tag : Int} {c r : List Int} (h31 : t % 32 ≠ 31) (hn : c.length < 4294967296) : firstOf (wrapped t c ++ r) tag = if t = tag then some (c, r) else none := by
  unfold firstOf wrapped
  rw [List.append_assoc, first_hdr h31 hn (by simp)]
  simp only
  by_cases e : t = tag
  · rw [if_pos e, if_pos e]
    congr 2
    · rw [← List.append_assoc, List.take_append_of_le_length (by simp), List.take_of_length_le (by simp)]
      rw [List.drop_append_of_le_length (by simp), List.drop_of_length_le (by simp)]
      rfl
    · rw [← List.append_assoc]
      rw [List.drop_append_of_le_length (by simp), List.drop_of_length_le (by simp)]
      rfl
  · rw [if_neg e, if_neg e]
theorem firstOf_high {xs : List Int} {tag : Int} (h : tag % 32 = 31) : firstOf xs tag = none := by
  unfold firstOf
  split
  · rename_i t hd n hf
    have := first_le hf
    rw [if_neg (by rintro rfl; omega)]
  · rfl
/-- What an element is, and only that. -/
theorem first_split {xs : List Int} {t : Int} {h e : Nat} (hb : ∀ x ∈ xs, 0 ≤ x ∧ x ≤ 255) (hf : first xs = some (t, h, e)) : xs.take h = hdr t (e - h) ∧ (hdr t (e - h)).length = h := by
  obtain ⟨f1, f2, f3, f4, f5, f6⟩ := first_le hf
  have hl : lenOf xs = some (h, e - h) := by
    unfold first at hf
    rw [if_neg (by omega)] at hf
    revert hf
    cases lenOf xs with
    | none => intro hf; simp at hf
    | some q =>
      obtain ⟨a, b⟩ := q
      intro hf
      simp only at hf
      split at hf
      · cases hf
      · simp only [Option.some.injEq, Prod.mk.injEq] at hf
        obtain ⟨_, rfl, rfl⟩ := hf
        simp
  obtain ⟨x0, x1, ys, rfl⟩ : ∃ x0 x1 ys, xs = x0 :: x1 :: ys := by
    match xs, (show 2 ≤ xs.length by omega) with
    | a :: b :: ys, _ => exact ⟨a, b, ys, rfl⟩
    | [], h => exact absurd h (by simp)
    | [_], h => exact absurd h (by simp)
  have hx1 := hb x1 (by simp)
  unfold lenOf at hl
  rw [show (x0 :: x1 :: ys).getD 1 0 = x1 from rfl, show (x0 :: x1 :: ys).getD 2 0 = ys.getD 0 0 from rfl] at hl
  have f5' : t = x0 := f5
  subst f5'
  by_cases hs : x1 < 128
  · rw [if_pos hs] at hl
    simp only [Option.some.injEq, Prod.mk.injEq] at hl
    obtain ⟨rfl, he⟩ := hl
    rw [hdr_short (by omega)]
    refine ⟨?_, rfl⟩
    show [t, x1] = _
    rw [show x1 = ((e - 2 : Nat) : Int) by omega]
  · rw [if_neg hs] at hl
    simp only at hl
    generalize hm : (x1 - 128).toNat = m at hl
    by_cases hc : m = 0 ∨ 4 < m ∨ (t :: x1 :: ys).length < 2 + m
    · rw [if_pos hc] at hl; cases hl
    · rw [if_neg hc] at hl
      have hd2 : ((t :: x1 :: ys).drop 2).take m = ys.take m := rfl
      rw [hd2] at hl
      by_cases hc2 : beN (ys.take m) < 128 ∨ ys.getD 0 0 = 0
      · rw [if_pos hc2] at hl; cases hl
      · rw [if_neg hc2] at hl
        simp only [Option.some.injEq, Prod.mk.injEq] at hl
        obtain ⟨rfl, he⟩ := hl
        have hlen : (ys.take m).length = m := by simp at hc ⊢; omega
        have hby : ∀ x ∈ ys.take m, 0 ≤ x ∧ x ≤ 255 := fun x hx => hb x (by simp [List.mem_of_mem_take hx])
        have hbd := beN_bd m _ hby hlen
        have hbb := bigB_beN m _ hby hlen
        have htop : 256 ^ (m - 1) ≤ beN (ys.take m) := by
          obtain ⟨y, zs, rfl⟩ : ∃ y zs, ys = y :: zs := by
            match ys, (show 0 < ys.length by simp at hlen; omega) with
            | a :: b, _ => exact ⟨a, b, rfl⟩
          obtain ⟨k, rfl⟩ : ∃ k, m = k + 1 := ⟨m - 1, by omega⟩
          have hy := hb y (by simp)
          have := beN_top y (zs.take k) hy.1 (fun z hz => hb z (by simp [List.mem_of_mem_take hz]))
          have hk : (zs.take k).length = k := by simp at hlen ⊢; omega
          rw [hk] at this
          rw [show (y :: zs).take (k + 1) = y :: zs.take k from rfl] at hc2 ⊢
          rw [show (y :: zs).getD 0 0 = y from rfl] at hc2
          show (256 : Int) ^ k ≤ _
          rcases Int.lt_or_le (beN (y :: zs.take k)) (256 ^ k) with h5 | h5
          · exact absurd (this.1 h5) (by omega)
          · exact h5
        generalize hv : beN (ys.take m) = v at *
        obtain ⟨n, rfl⟩ := Int.eq_ofNat_of_zero_le (show 0 ≤ v by omega)
        have hen : e - (2 + m) = n := by omega
        have hnb : nb n = m := nb_unique (by omega) (by omega) htop hbd.2
        rw [hen, hdr_long (by omega), hnb, hbb]
        refine ⟨?_, by simp [hlen]; omega⟩
        rw [Nat.add_comm 2 m]
        show t :: x1 :: ys.take m = _
        rw [show x1 = ((128 + m : Nat) : Int) by omega]
        rfl
theorem firstOf_split {xs c r : List Int} {tag : Int} (hb : ∀ x ∈ xs, 0 ≤ x ∧ x ≤ 255) (h : firstOf xs tag = some (c, r)) : wrapped tag c ++ r = xs ∧ tag % 32 ≠ 31 := by
  unfold firstOf at h
  split at h
  · rename_i t hd n hf
    obtain ⟨f1, f2, f3, f4, f5, f6⟩ := first_le hf
    obtain ⟨s1, s2⟩ := first_split hb hf
    split at h
    · rename_i e
      subst e
      simp only [Option.some.injEq, Prod.mk.injEq] at h
      obtain ⟨rfl, rfl⟩ := h
      refine ⟨?_, f6⟩
      have hl : ((xs.take n).drop hd).length = n - hd := by simp; omega
      unfold wrapped
      rw [hl, ← s1]
      have e1 : xs.take hd = (xs.take n).take hd := by rw [List.take_take, Nat.min_eq_left f2]
      rw [e1, List.take_append_drop, List.take_append_drop]
    · cases h
  · cases h
/-- A length that is told in more bytes than it takes is none. -/
theorem first_longer {t : Int} {n m : Nat} {c : List Int} (h1 : 1 ≤ m) (h4 : m ≤ 4) (hc : n = c.length) (hs : if m = 1 then n < 128 else n < 256 ^ (m - 1)) :
    first ([t, (128 + m : Nat)] ++ bigB n m ++ c) = none := by
  by_cases h31 : t % 32 = 31
  · unfold first
    rw [show ([t, ((128 + m : Nat) : Int)] ++ bigB n m ++ c).getD 0 0 = t by simp, if_pos (.inr h31)]
  · have hxs : [t, ((128 + m : Nat) : Int)] ++ bigB n m ++ c = t :: ((128 + m : Nat) : Int) :: (bigB n m ++ c) := by simp
    rw [hxs]
    have hlen : (t :: ((128 + m : Nat) : Int) :: (bigB n m ++ c)).length = 2 + m + c.length := by simp [bigB_len]; omega
    have hbe : beN (((t :: ((128 + m : Nat) : Int) :: (bigB n m ++ c)).drop 2).take m) = (n : Int) % 256 ^ m := by
      have : ((t :: ((128 + m : Nat) : Int) :: (bigB n m ++ c)).drop 2).take m = bigB n m := by
        show (bigB n m ++ c).take m = _
        rw [List.take_append_of_le_length (by rw [bigB_len]; exact Nat.le_refl _), List.take_of_length_le (by rw [bigB_len]; exact Nat.le_refl _)]
      rw [this, beN_bigB]
    have hf := first_long (xs := t :: ((128 + m : Nat) : Int) :: (bigB n m ++ c)) (m := m) (by omega) (by simpa using h31) (by show ((128 + m : Nat) : Int) = _; omega) h1 h4 (by omega) hbe
    rw [hf, if_pos]
    by_cases e : m = 1
    · subst e
      rw [if_pos rfl] at hs
      left
      rw [Int.pow_succ, Int.pow_zero]
      omega
    · rw [if_neg e] at hs
      right
      obtain ⟨k, rfl⟩ : ∃ k, m = k + 1 := ⟨m - 1, by omega⟩
      rw [bigB_cons]
      show (n : Int) / 256 ^ k % 256 = 0
      have : (n : Int) < 256 ^ k := by
        have h := Int.ofNat_lt.2 hs
        rwa [Int.natCast_pow] at h
      rw [Int.ediv_eq_zero_of_lt (by omega) this]
      rfl
end Go.Proofs.Ytlnoeipbbncnfaa
