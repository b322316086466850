/- DER elements over lists of bytes: plain definitions and laws. No program. -/
import Derived.Test.YtlnoeipbbncnfaaNum
namespace Go.Proofs.Ytlnoeipbbncnfaa

/-- Header's length and contents' length, as bytes tell them (two bytes at least). -/
def lenOf (xs : List Int) : Option (Nat × Nat) :=
  if xs.getD 1 0 < 128 then some (2, (xs.getD 1 0).toNat) else
  let m := (xs.getD 1 0 - 128).toNat
  if m = 0 ∨ 4 < m ∨ xs.length < 2 + m then none else
  if beN ((xs.drop 2).take m) < 128 ∨ xs.getD 2 0 = 0 then none else some (2 + m, (beN ((xs.drop 2).take m)).toNat)
/-- The element at the beginning: its tag, where its contents begin, where it ends. -/
def first (xs : List Int) : Option (Int × Nat × Nat) :=
  if xs.length < 2 ∨ xs.getD 0 0 % 32 = 31 then none else
  match lenOf xs with
  | none => none
  | some (h, n) => if xs.length < h + n then none else some (xs.getD 0 0, h, h + n)

theorem beN_cons (x : Int) (xs : List Int) : beN (x :: xs) = x * 256 ^ xs.length + beN xs := by
  have gen : ∀ (xs : List Int) (a : Int), xs.foldl (fun a x => a * 256 + x) a = a * 256 ^ xs.length + xs.foldl (fun a x => a * 256 + x) 0 := by
    intro xs
    induction xs with
    | nil => intro a; simp
    | cons y ys ih =>
      intro a
      simp only [List.foldl_cons, List.length_cons]
      rw [ih (a * 256 + y), ih (0 * 256 + y), Int.pow_succ, Int.add_mul]
      simp only [Int.zero_mul, Int.zero_add]
      have : a * 256 * 256 ^ ys.length = a * (256 ^ ys.length * 256) := by rw [Int.mul_assoc, Int.mul_comm 256]
      omega
  unfold beN
  simp only [List.foldl_cons]
  rw [gen xs (0 * 256 + x)]
  simp
/-- The highest byte is 0 just if the number is below 256 to the power of how many stand behind it. -/
theorem beN_top (x : Int) (xs : List Int) (hx : 0 ≤ x) (hb : ∀ y ∈ xs, 0 ≤ y ∧ y ≤ 255) : (beN (x :: xs) < 256 ^ xs.length ↔ x = 0) := by
  have h := beN_bd xs.length xs hb rfl
  rw [beN_cons]
  have hp := (pow_mono xs.length 0).1
  constructor
  · intro hlt
    rcases Int.lt_or_eq_of_le hx with h1 | h1
    · exfalso
      have : 1 * (256 : Int) ^ xs.length ≤ x * 256 ^ xs.length := Int.mul_le_mul_of_nonneg_right (by omega) hp
      omega
    · exact h1.symm
  · rintro rfl
    omega
theorem first_long {xs : List Int} {m : Nat} {v : Int} (hl : 2 ≤ xs.length) (h31 : xs.getD 0 0 % 32 ≠ 31) (hs : xs.getD 1 0 = ((m + 128 : Nat) : Int)) (hm1 : 1 ≤ m) (hm4 : m ≤ 4) (hml : 2 + m ≤ xs.length) (hv : beN ((xs.drop 2).take m) = v) :
    first xs = if v < 128 ∨ xs.getD 2 0 = 0 then none else if xs.length < 2 + m + v.toNat then none else some (xs.getD 0 0, 2 + m, 2 + m + v.toNat) := by
  have hm : (xs.getD 1 0 - 128).toNat = m := by omega
  have hle : lenOf xs = if v < 128 ∨ xs.getD 2 0 = 0 then none else some (2 + m, v.toNat) := by
    unfold lenOf
    rw [if_neg (by omega)]
    simp only [hm]
    rw [if_neg (by omega), hv]
  unfold first
  rw [if_neg (by omega), hle]
  by_cases h : v < 128 ∨ xs.getD 2 0 = 0
  · rw [if_pos h, if_pos h]
  · rw [if_neg h, if_neg h]
theorem two_pow_eight (k : Nat) : (2 : Int) ^ (8 * k) = 256 ^ k := by rw [Int.pow_mul]; rfl
/-- The highest byte of a length is 0 just if shifting it down to its lowest place leaves 0. -/
theorem long_top {xs : List Int} {m : Nat} {v : Int} (hb : ∀ x ∈ xs, 0 ≤ x ∧ x ≤ 255) (hm1 : 1 ≤ m) (hm4 : m ≤ 4) (hml : 2 + m ≤ xs.length) (hv : beN ((xs.drop 2).take m) = v) :
    (v / 2 ^ (((m : Int) - 1) % 256 * 8 % 256).toNat == 0) = decide (xs.getD 2 0 = 0) := by
  obtain ⟨k, rfl⟩ : ∃ k, m = k + 1 := ⟨m - 1, by omega⟩
  have he : ((((k + 1 : Nat) : Int) - 1) % 256 * 8 % 256).toNat = 8 * k := by omega
  rw [he, two_pow_eight]
  obtain ⟨a, b, y, ys, rfl⟩ : ∃ a b y ys, xs = a :: b :: y :: ys := by
    match xs, hml with
    | a :: b :: y :: ys, _ => exact ⟨a, b, y, ys, rfl⟩
    | [], h => exact absurd h (by simp)
    | [_], h => exact absurd h (by simp; omega)
    | [_, _], h => exact absurd h (by simp)
  have hg : (a :: b :: y :: ys).getD 2 0 = y := rfl
  rw [hg]
  have hl : (ys.take k).length = k := by simp at hml ⊢; omega
  have hv' : beN (y :: ys.take k) = v := by rw [← hv]; rfl
  have htop := beN_top y (ys.take k) (hb y (by simp)).1 (fun z hz => hb z (by simp [List.mem_of_mem_take hz]))
  rw [hl, hv'] at htop
  have hp := pow_mono k 0
  have hp1 : (0 : Int) < 256 ^ k := Int.pow_pos (by decide)
  have hv0 : 0 ≤ v := by
    rw [← hv']
    exact (beN_bd _ _ (by
      intro z hz
      simp only [List.mem_cons] at hz
      rcases hz with rfl | hz
      · exact hb z (by simp)
      · exact hb z (by simp [List.mem_of_mem_take hz])) rfl).1
  rw [Bool.eq_iff_iff]
  simp only [beq_iff_eq, decide_eq_true_eq]
  rw [← htop]
  constructor
  · intro h
    have := Int.emod_add_mul_ediv v (256 ^ k)
    rw [h] at this
    have h2 := Int.emod_lt_of_pos v hp1
    simp at this
    omega
  · intro h
    exact Int.ediv_eq_zero_of_lt hv0 h
theorem first_le {xs : List Int} {t : Int} {h e : Nat} (hf : first xs = some (t, h, e)) : 2 ≤ h ∧ h ≤ e ∧ e ≤ xs.length ∧ h ≤ 6 ∧ t = xs.getD 0 0 ∧ t % 32 ≠ 31 := by
  unfold first at hf
  split at hf
  · cases hf
  · rename_i h1
    split at hf
    · cases hf
    · rename_i h' n hl
      split at hf
      · cases hf
      · simp only [Option.some.injEq, Prod.mk.injEq] at hf
        obtain ⟨rfl, rfl, rfl⟩ := hf
        unfold lenOf at hl
        simp only at hl
        split at hl
        · simp only [Option.some.injEq, Prod.mk.injEq] at hl
          omega
        · split at hl
          · cases hl
          · split at hl
            · cases hl
            · simp only [Option.some.injEq, Prod.mk.injEq] at hl
              omega

/-- What the reference's 'long' tells. -/
def longVal (ys : List Int) (m : Nat) : Int :=
  if m = 0 ∨ 4 < m ∨ ys.length < m ∨ ys.getD 0 0 = 0 then -1 else if beN (ys.take m) < 128 then -1 else beN (ys.take m)
theorem lenOf_long {xs : List Int} {m : Nat} (h2 : 2 ≤ xs.length) (hs : xs.getD 1 0 = ((m + 128 : Nat) : Int)) : lenOf xs = if longVal (xs.drop 2) m < 0 then none else some (2 + m, (longVal (xs.drop 2) m).toNat) := by
  have hm : (xs.getD 1 0 - 128).toNat = m := by omega
  have hg : (xs.drop 2).getD 0 0 = xs.getD 2 0 := by simp [List.getD_eq_getElem?_getD]
  unfold lenOf longVal
  rw [if_neg (by omega)]
  simp only [hm, hg, List.length_drop]
  by_cases h1 : m = 0 ∨ 4 < m ∨ xs.length < 2 + m
  · have h1' : m = 0 ∨ 4 < m ∨ xs.length - 2 < m ∨ xs.getD 2 0 = 0 := by omega
    rw [if_pos h1, if_pos h1', if_pos (by decide)]
  · rw [if_neg h1]
    by_cases h3 : xs.getD 2 0 = 0
    · have h1' : m = 0 ∨ 4 < m ∨ xs.length - 2 < m ∨ xs.getD 2 0 = 0 := by omega
      rw [if_pos h1', if_pos (.inr h3), if_pos (by decide)]
    · have h1' : ¬ (m = 0 ∨ 4 < m ∨ xs.length - 2 < m ∨ xs.getD 2 0 = 0) := by omega
      rw [if_neg h1']
      by_cases h4 : beN ((xs.drop 2).take m) < 128
      · rw [if_pos (.inl h4), if_pos h4, if_pos (by decide)]
      · rw [if_neg (by omega), if_neg h4, if_neg (by omega)]
theorem first_of_len {xs : List Int} {h : Nat} {z : Int} (h2 : 2 ≤ xs.length) (h31 : xs.getD 0 0 % 32 ≠ 31) (hl : lenOf xs = if z < 0 then none else some (h, z.toNat)) :
    first xs = if z < 0 ∨ (xs.length : Int) < h + z then none else some (xs.getD 0 0, h, h + z.toNat) := by
  unfold first
  rw [if_neg (by omega), hl]
  by_cases hz : z < 0
  · rw [if_pos hz, if_pos (.inl hz)]
  · rw [if_neg hz]
    simp only
    by_cases hf : xs.length < h + z.toNat
    · rw [if_pos hf, if_pos (by omega)]
    · rw [if_neg hf, if_neg (by omega)]

/-- An element stands where its own bytes stand: what comes behind does not matter. -/
theorem first_prefix {xs zs : List Int} {t : Int} {h n : Nat} (hf : first xs = some (t, h, n)) (hz : zs.take n = xs.take n) (hn : n ≤ zs.length) : first zs = some (t, h, n) := by
  obtain ⟨f1, f2, f3, f4, f5, f6⟩ := first_le hf
  have hg : ∀ i, i < n → zs.getD i 0 = xs.getD i 0 := by
    intro i hi
    have := congrArg (fun l => l.getD i 0) hz
    simpa [List.getD_eq_getElem?_getD, hi] using this
  have h0 := hg 0 (by omega)
  have h1 := hg 1 (by omega)
  unfold first at hf ⊢
  rw [if_neg (by omega)] at hf
  rw [h0, if_neg (by omega)]
  have hl : lenOf zs = lenOf xs := by
    unfold lenOf
    rw [h1]
    by_cases hs : xs.getD 1 0 < 128
    · rw [if_pos hs, if_pos hs]
    · rw [if_neg hs, if_neg hs]
      simp only
      obtain ⟨m, hm⟩ : ∃ m, (xs.getD 1 0 - 128).toNat = m := ⟨_, rfl⟩
      rw [hm]
      have hx : lenOf xs = some (h, n - h) := by
        revert hf
        cases hlx : lenOf xs with
        | none => intro hf; simp at hf
        | some q =>
          obtain ⟨a, b⟩ := q
          intro hf
          simp only at hf
          split at hf
          · cases hf
          · simp only [Option.some.injEq, Prod.mk.injEq] at hf
            obtain ⟨_, rfl, rfl⟩ := hf
            simp
      unfold lenOf at hx
      rw [if_neg hs] at hx
      simp only [hm] at hx
      by_cases hb : m = 0 ∨ 4 < m ∨ xs.length < 2 + m
      · rw [if_pos hb] at hx; cases hx
      · rw [if_neg hb] at hx ⊢
        by_cases hb2 : beN ((xs.drop 2).take m) < 128 ∨ xs.getD 2 0 = 0
        · rw [if_pos hb2] at hx; cases hx
        · rw [if_neg hb2] at hx
          simp only [Option.some.injEq, Prod.mk.injEq] at hx
          have e : (zs.drop 2).take m = (xs.drop 2).take m := by
            have h2 := congrArg (fun l => (l.drop 2).take m) hz
            simp only [List.drop_take] at h2
            rwa [List.take_take, List.take_take, Nat.min_eq_left (by omega)] at h2
          have h3 := hg 2 (by omega)
          rw [if_neg (by omega), e, h3]
  rw [hl]
  revert hf
  cases lenOf xs with
  | none => intro hf; simp at hf
  | some q =>
    obtain ⟨a, b⟩ := q
    intro hf
    simp only at hf ⊢
    split at hf
    · cases hf
    · simp only [Option.some.injEq, Prod.mk.injEq] at hf
      obtain ⟨_, rfl, rfl⟩ := hf
      rw [if_neg (by omega), ← f5]
theorem first_take {xs : List Int} {t : Int} {h n : Nat} (hf : first xs = some (t, h, n)) : first (xs.take n) = some (t, h, n) := by
  have := first_le hf
  exact first_prefix hf (by rw [List.take_take, Nat.min_self]) (by simp; omega)
theorem first_append {xs ys : List Int} {t : Int} {h n : Nat} (hf : first xs = some (t, h, n)) : first (xs ++ ys) = some (t, h, n) := by
  have := first_le hf
  exact first_prefix hf (by rw [List.take_append_of_le_length (by omega)]) (by simp; omega)

/-- The contents of the element of a tag at the beginning, and what stands behind it. -/
def firstOf (xs : List Int) (tag : Int) : Option (List Int × List Int) :=
  match first xs with
  | some (t, h, n) => if t = tag then some ((xs.take n).drop h, xs.drop n) else none
  | none => none
theorem firstOf_le {xs c r : List Int} {tag : Int} (h : firstOf xs tag = some (c, r)) : c.length ≤ xs.length ∧ r.length ≤ xs.length ∧ ((∀ x ∈ xs, 0 ≤ x ∧ x ≤ 255) → (∀ x ∈ c, 0 ≤ x ∧ x ≤ 255) ∧ (∀ x ∈ r, 0 ≤ x ∧ x ≤ 255)) := by
  unfold firstOf at h
  split at h
  · split at h
    · simp only [Option.some.injEq, Prod.mk.injEq] at h
      obtain ⟨rfl, rfl⟩ := h
      refine ⟨by simp; omega, by simp, fun hb => ⟨fun x hx => hb x (List.mem_of_mem_take (List.mem_of_mem_drop hx)), fun x hx => hb x (List.mem_of_mem_drop hx)⟩⟩
    · cases h
  · cases h
end Go.Proofs.Ytlnoeipbbncnfaa
