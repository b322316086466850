/- Plain facts on numbers told by bytes, the highest first. No program. -/
namespace Go.Proofs.Ytlnoeipbbncnfaa

/-- The number that bytes tell, the highest first. -/
def beN (xs : List Int) : Int := xs.foldl (fun a x => a * 256 + x) 0

theorem beN_nil : beN [] = 0 := rfl
theorem beN_snoc (xs : List Int) (x : Int) : beN (xs ++ [x]) = beN xs * 256 + x := by simp [beN]
theorem beN_bd : ∀ (n : Nat) (xs : List Int), (∀ x ∈ xs, 0 ≤ x ∧ x ≤ 255) → xs.length = n → 0 ≤ beN xs ∧ beN xs < 256 ^ n := by
  intro n
  induction n with
  | zero =>
    intro xs _ hl
    have : xs = [] := List.eq_nil_of_length_eq_zero hl
    subst this
    simp [beN]
  | succ n ih =>
    intro xs hb hl
    have hne : xs ≠ [] := by intro e; subst e; simp at hl
    obtain ⟨ys, y, rfl⟩ : ∃ ys y, xs = ys ++ [y] := ⟨xs.dropLast, xs.getLast hne, (List.dropLast_concat_getLast hne).symm⟩
    have h1 := ih ys (fun x hx => hb x (by simp [hx])) (by simpa using hl)
    have h2 := hb y (by simp)
    rw [beN_snoc, Int.pow_succ]
    omega
theorem take_snoc' (xs : List Int) (k : Nat) (h : k < xs.length) : xs.take (k + 1) = xs.take k ++ [xs.getD k 0] := by
  rw [List.take_succ_eq_append_getElem h]
  simp [List.getD_eq_getElem?_getD, List.getElem?_eq_getElem h]
theorem beN_take_succ (xs : List Int) (k : Nat) (h : k < xs.length) : beN (xs.take (k + 1)) = beN (xs.take k) * 256 + xs.getD k 0 := by
  rw [take_snoc' xs k h, beN_snoc]
theorem pow_mono (a : Nat) : ∀ d : Nat, 0 ≤ (256 : Int) ^ a ∧ (256 : Int) ^ a ≤ 256 ^ (a + d) := by
  have h0 : ∀ n : Nat, 0 ≤ (256 : Int) ^ n := by
    intro n
    induction n with
    | zero => decide
    | succ n ih => rw [Int.pow_succ]; omega
  intro d
  refine ⟨h0 a, ?_⟩
  induction d with
  | zero => exact Int.le_refl _
  | succ d ih =>
    have := h0 (a + d)
    rw [← Nat.add_assoc, Int.pow_succ]
    omega
/-- Seven bytes at most tell less than 1<<56. -/
theorem beN_take_bd (xs : List Int) (hb : ∀ x ∈ xs, 0 ≤ x ∧ x ≤ 255) (k m : Nat) (hk : k ≤ m) : 0 ≤ beN (xs.take k) ∧ beN (xs.take k) < 256 ^ m := by
  have h := beN_bd (xs.take k).length (xs.take k) (fun x hx => hb x (List.mem_of_mem_take hx)) rfl
  have h2 : (xs.take k).length ≤ m := by simp; omega
  have h3 : (256 : Int) ^ (xs.take k).length ≤ 256 ^ m := by
    obtain ⟨d, hd⟩ := Nat.exists_eq_add_of_le h2
    rw [hd]
    exact (pow_mono _ d).2
  omega
theorem beN_take_le2 (xs : List Int) (hb : ∀ x ∈ xs, 0 ≤ x ∧ x ≤ 255) (k : Nat) (hk : k ≤ 2) : 0 ≤ beN (xs.take k) ∧ beN (xs.take k) ≤ 65535 := by
  have h := beN_take_bd xs hb k 2 hk
  have : (256 : Int) ^ 2 = 65536 := by decide
  omega
theorem beN_take_le3 (xs : List Int) (hb : ∀ x ∈ xs, 0 ≤ x ∧ x ≤ 255) (k : Nat) (hk : k ≤ 3) : 0 ≤ beN (xs.take k) ∧ beN (xs.take k) ≤ 16777215 := by
  have h := beN_take_bd xs hb k 3 hk
  have : (256 : Int) ^ 3 = 16777216 := by decide
  omega
end Go.Proofs.Ytlnoeipbbncnfaa
