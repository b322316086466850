/- Object identifiers: numbers in base 128, read and built: plain definitions and laws. No program. -/
import Derived.Test.YtlnoeipbbncnfaaEnc
import Derived.Test.YtlnoeipbbncnfaaBase
namespace Go.Proofs.Ytlnoeipbbncnfaa

/-- The numbers that bytes tell in base 128, as the package reads them: i bytes of a number are read, they come to n. -/
def ra : Nat → Int → List Int → Option (List Int)
  | i, _, [] => if i = 0 then some [] else none
  | i, n, b :: bs => if i = 5 ∨ 16777216 ≤ n ∨ (i = 0 ∧ b = 128) then none else if b < 128 then (ra 0 0 bs).map (fun l => (n * 128 + b % 128) :: l) else ra (i + 1) (n * 128 + b % 128) bs
/-- The same, as the reference reads them. -/
def sa : List Int → List Int → Bool → Int → Bool → List Int × Bool × Bool
  | [], l, g, _, ins => (l, g, !ins)
  | b :: bs, l, g, n, ins =>
    if ins = false ∧ b = 128 then ([], false, false) else
    let m := n * 128 + b % 128
    let g' := g || decide (2147483647 < m)
    let m' := if 2147483647 < m then 2147483648 else m
    if b < 128 then sa bs (l ++ [m']) g' 0 false else sa bs l g' m' true
theorem sa_large : ∀ (xs l : List Int) (n : Int) (ins : Bool), (sa xs l true n ins).2.1 = true ∨ (sa xs l true n ins).2.2 = false := by
  intro xs
  induction xs with
  | nil => intro l n ins; left; rfl
  | cons b bs ih =>
    intro l n ins
    unfold sa
    split
    · right; rfl
    · simp only [Bool.true_or]
      split
      · exact ih _ _ _
      · exact ih _ _ _
/-- Where no number is too large, the two read alike. -/
theorem sa_ra : ∀ (xs l : List Int) (i : Nat) (n : Int) (ins : Bool), Byt xs → (ins = false ↔ i = 0) → 0 ≤ n → n ≤ 2147483647 → (i = 0 → n = 0) → (0 < i → (128 : Int) ^ (i - 1) ≤ n) → i ≤ 5 →
    (sa xs l false n ins).2.1 = true ∨ ((sa xs l false n ins).2.2 = true ∧ ∃ m, ra i n xs = some m ∧ (sa xs l false n ins).1 = l ++ m) ∨ ((sa xs l false n ins).2.2 = false ∧ ra i n xs = none) := by
  intro xs
  induction xs with
  | nil =>
    intro l i n ins _ hins _ _ _ _ _
    right
    cases ins with
    | true =>
      right
      refine ⟨rfl, ?_⟩
      unfold ra
      rw [if_neg (fun e => by have := hins.2 e; cases this)]
    | false =>
      left
      refine ⟨rfl, [], ?_, (List.append_nil l).symm⟩
      unfold ra
      rw [if_pos (hins.1 rfl)]
  | cons b bs ih =>
    intro l i n ins hb hins h0 h1 hi hp h5
    have hbb := hb b (by simp)
    have hbs : Byt bs := fun x hx => hb x (by simp [hx])
    unfold sa
    by_cases hbad : ins = false ∧ b = 128
    · rw [if_pos hbad]
      right; right
      refine ⟨rfl, ?_⟩
      unfold ra
      rw [if_pos (.inr (.inr ⟨hins.1 hbad.1, hbad.2⟩))]
    · rw [if_neg hbad]
      simp only [Bool.false_or]
      by_cases hm : 2147483647 < n * 128 + b % 128
      · rw [if_pos hm, decide_eq_true hm]
        have hra : ra i n (b :: bs) = none := by
          unfold ra
          rw [if_pos (.inr (.inl (by omega)))]
        rw [hra]
        split
        · rcases sa_large bs (l ++ [2147483648]) 0 false with h | h
          · exact .inl h
          · exact .inr (.inr ⟨h, rfl⟩)
        · rcases sa_large bs l 2147483648 true with h | h
          · exact .inl h
          · exact .inr (.inr ⟨h, rfl⟩)
      · rw [if_neg hm, decide_eq_false hm]
        have hi5 : i ≠ 5 := by
          rintro rfl
          have : (128 : Int) ^ 4 = 268435456 := by decide
          have := hp (by omega)
          simp only [show (5 : Nat) - 1 = 4 from rfl] at this
          omega
        have hra : ra i n (b :: bs) = if b < 128 then (ra 0 0 bs).map (fun l => (n * 128 + b % 128) :: l) else ra (i + 1) (n * 128 + b % 128) bs := by
          conv => lhs; unfold ra
          rw [if_neg]
          rintro (h | h | ⟨h, h'⟩)
          · exact hi5 h
          · omega
          · exact hbad ⟨hins.2 h, h'⟩
        rw [hra]
        by_cases hlt : b < 128
        · rw [if_pos hlt, if_pos hlt]
          rcases ih (l ++ [n * 128 + b % 128]) 0 0 false hbs (by simp) (by omega) (by omega) (fun _ => rfl) (by omega) (by omega) with h | ⟨h, m, h2, h3⟩ | ⟨h, h2⟩
          · exact .inl h
          · exact .inr (.inl ⟨h, (n * 128 + b % 128) :: m, by rw [h2]; rfl, by rw [h3]; simp⟩)
          · exact .inr (.inr ⟨h, by rw [h2]; rfl⟩)
        · rw [if_neg hlt, if_neg hlt]
          refine ih l (i + 1) (n * 128 + b % 128) true hbs (by simp) (by omega) (by omega) (by omega) ?_ (by omega)
          intro _
          rw [Nat.add_sub_cancel]
          rcases Nat.eq_zero_or_pos i with e | e
          · subst e
            have hins' := hins.2 rfl
            have : b ≠ 128 := fun e => hbad ⟨hins', e⟩
            rw [Int.pow_zero]
            omega
          · obtain ⟨k, rfl⟩ : ∃ k, i = k + 1 := ⟨i - 1, by omega⟩
            have := hp (by omega)
            rw [Nat.add_sub_cancel] at this
            rw [Int.pow_succ]
            omega

/-! ### building -/
/-- k digits in base 128, each with the highest bit. -/
def big7 (n : Int) : Nat → List Int
  | 0 => []
  | k + 1 => big7 (n / 128) k ++ [128 + n % 128]
/-- How many bytes a number below 1<<35 takes in base 128. -/
def l7 (n : Int) : Nat := if n < 128 then 1 else if n < 16384 then 2 else if n < 2097152 then 3 else if n < 268435456 then 4 else 5
def b128 (n : Int) : List Int := big7 (n / 128) (l7 n - 1) ++ [n % 128]
def b128s : List Int → List Int
  | [] => []
  | v :: vs => b128 v ++ b128s vs
theorem l7_bd (n : Int) : 1 ≤ l7 n ∧ l7 n ≤ 5 := by
  unfold l7
  repeat' split
  all_goals omega
theorem big7_succ (n : Int) (k : Nat) : big7 n (k + 1) = big7 (n / 128) k ++ [128 + n % 128] := rfl
theorem big7_len : ∀ (k : Nat) (n : Int), (big7 n k).length = k
  | 0, _ => rfl
  | k + 1, n => by rw [big7_succ, List.length_append, big7_len k]; rfl
theorem big7_byt : ∀ (k : Nat) (n : Int), Byt (big7 n k)
  | 0, _ => Byt.nil
  | k + 1, n => by
    rw [big7_succ]
    refine (big7_byt k _).append ?_
    intro x hx
    simp only [List.mem_singleton] at hx
    omega
theorem big7_cons : ∀ (k : Nat) (n : Int), big7 n (k + 1) = (128 + n / 128 ^ k % 128) :: big7 n k
  | 0, n => by simp [big7]
  | k + 1, n => by
    rw [big7_succ, big7_cons k (n / 128), big7_succ n k, Int.ediv_ediv_of_nonneg (by decide), Int.pow_succ, Int.mul_comm 128]
    rfl
theorem b128_len (n : Int) : (b128 n).length = l7 n := by
  have := l7_bd n
  unfold b128
  rw [List.length_append, big7_len]
  simp only [List.length_cons, List.length_nil]
  omega
theorem b128_byt (n : Int) : Byt (b128 n) := by
  unfold b128
  refine (big7_byt _ _).append ?_
  intro x hx
  simp only [List.mem_singleton] at hx
  omega
theorem b128s_byt : ∀ vs, Byt (b128s vs)
  | [] => Byt.nil
  | v :: vs => (b128_byt v).append (b128s_byt vs)
theorem b128s_len : ∀ vs, (b128s vs).length ≤ 5 * vs.length
  | [] => by simp [b128s]
  | v :: vs => by
    have := b128s_len vs
    have := l7_bd v
    have := b128_len v
    simp only [b128s, List.length_append, List.length_cons]
    omega
theorem b128s_snoc : ∀ (vs : List Int) (v : Int), b128s (vs ++ [v]) = b128s vs ++ b128 v
  | [], v => by simp [b128s]
  | u :: us, v => by simp only [List.cons_append, b128s, b128s_snoc us v, List.append_assoc]
theorem p128 : (128 : Int) ^ 0 = 1 ∧ (128 : Int) ^ 1 = 128 ∧ (128 : Int) ^ 2 = 16384 ∧ (128 : Int) ^ 3 = 2097152 ∧ (128 : Int) ^ 4 = 268435456 ∧ (128 : Int) ^ 5 = 34359738368 := by decide
theorem l7_le (n : Int) (h0 : 0 ≤ n) (h1 : n < 34359738368) (j : Nat) (hj : j < 5) : n / 128 ^ (j + 1) = 0 ↔ l7 n ≤ j + 1 := by
  obtain ⟨_, p1, p2, p3, p4, p5⟩ := p128
  unfold l7
  obtain rfl | rfl | rfl | rfl | rfl : j = 0 ∨ j = 1 ∨ j = 2 ∨ j = 3 ∨ j = 4 := by omega
  all_goals
    simp only [Nat.reduceAdd, p1, p2, p3, p4, p5]
    repeat' split
    all_goals omega
/-- The bytes that tell numbers are the ones that are built of them. -/
theorem ra_b128 : ∀ (xs : List Int) (i : Nat) (n : Int) (m : List Int), Byt xs → ra i n xs = some m → 0 ≤ n → (i = 0 → n = 0) → (0 < i → (128 : Int) ^ (i - 1) ≤ n) → n < 128 ^ i → big7 n i ++ xs = b128s m ∧ ∀ v ∈ m, 0 ≤ v ∧ v ≤ 2147483647 := by
  intro xs
  induction xs with
  | nil =>
    intro i n m _ h h0 hi hp hq
    unfold ra at h
    split at h
    · rename_i e
      subst e
      simp only [Option.some.injEq] at h
      subst h
      exact ⟨rfl, by simp⟩
    · cases h
  | cons b bs ih =>
    intro i n m hb h h0 hi hp hq
    have hbb := hb b (by simp)
    have hbs : Byt bs := fun x hx => hb x (by simp [hx])
    unfold ra at h
    split at h
    · cases h
    · rename_i hn
      split at h
      · rename_i hlt
        cases hr : ra 0 0 bs with
        | none => rw [hr] at h; cases h
        | some l =>
          rw [hr] at h
          simp only [Option.map_some, Option.some.injEq] at h
          subst h
          obtain ⟨e1, e2⟩ := ih 0 0 l hbs hr (by omega) (fun _ => rfl) (by omega) (by decide)
          rw [show big7 0 0 = [] from rfl, List.nil_append] at e1
          have hl : l7 (n * 128 + b % 128) = i + 1 := by
            obtain ⟨p0, p1, p2, p3, p4, p5⟩ := p128
            unfold l7
            obtain rfl | rfl | rfl | rfl | rfl : i = 0 ∨ i = 1 ∨ i = 2 ∨ i = 3 ∨ i = 4 := by
              rcases Nat.lt_or_ge i 5 with h5 | h5
              · omega
              · exfalso
                have : (128 : Int) ^ (i - 1) = 128 ^ 4 * 128 ^ (i - 5) := by rw [← Int.pow_add]; congr 1; omega
                have h6 := hp (by omega)
                have h7 : (1 : Int) ≤ 128 ^ (i - 5) := by have : (0 : Int) < 128 ^ (i - 5) := Int.pow_pos (by decide); omega
                omega
            all_goals
              simp only [Nat.reduceSub, p0, p1, p2, p3, p4] at hp hq
              repeat' split
              all_goals first | rfl | (have := hi; omega)
          refine ⟨?_, ?_⟩
          · unfold b128s
            rw [← e1]
            unfold b128
            rw [hl, Nat.add_sub_cancel, show (n * 128 + b % 128) / 128 = n by omega, show (n * 128 + b % 128) % 128 = b by omega]
            simp
          · intro v hv
            rcases List.mem_cons.1 hv with rfl | hv
            · omega
            · exact e2 v hv
      · rename_i hge
        have hi1 : 0 < i + 1 := by omega
        obtain ⟨e1, e2⟩ := ih (i + 1) (n * 128 + b % 128) m hbs h (by omega) (by omega) (fun _ => by
          rw [Nat.add_sub_cancel]
          rcases Nat.eq_zero_or_pos i with e | e
          · subst e
            have := hi rfl
            rw [Int.pow_zero]
            omega
          · obtain ⟨k, rfl⟩ : ∃ k, i = k + 1 := ⟨i - 1, by omega⟩
            have := hp (by omega)
            rw [Nat.add_sub_cancel] at this
            rw [Int.pow_succ]
            omega) (by rw [Int.pow_succ]; omega)
        refine ⟨?_, e2⟩
        rw [← e1, big7_succ, show (n * 128 + b % 128) / 128 = n by omega, show 128 + (n * 128 + b % 128) % 128 = b by omega]
        simp
/-- The arcs of the object identifier that contents tell. -/
def oidOfList : List Int → List Int
  | [] => []
  | v :: vs => (if v < 40 then [0, v] else if v < 80 then [1, v - 40] else [2, v - 80]) ++ vs
def oidOf (c : List Int) : Option (List Int) := if c = [] then none else (ra 0 0 c).map oidOfList
/-- Arcs that are an object identifier's, whose numbers are at most 1<<31 - 1. -/
def oidRight (o : List Int) : Bool := decide (2 ≤ o.length ∧ 0 ≤ o.getD 0 0 ∧ o.getD 0 0 ≤ 2 ∧ (o.getD 0 0 < 2 → o.getD 1 0 < 40) ∧ (o.getD 0 0 = 2 → o.getD 1 0 ≤ 2147483567) ∧ ∀ v ∈ o.drop 1, 0 ≤ v ∧ v ≤ 2147483647)
def oidC (o : List Int) : List Int := b128 (o.getD 0 0 * 40 + o.getD 1 0) ++ b128s (o.drop 2)
theorem oidC_of {c o : List Int} (hb : Byt c) (h : oidOf c = some o) : oidC o = c := by
  unfold oidOf at h
  split at h
  · cases h
  · rename_i hne
    cases hr : ra 0 0 c with
    | none => rw [hr] at h; cases h
    | some m =>
      rw [hr] at h
      simp only [Option.map_some, Option.some.injEq] at h
      obtain ⟨e1, e2⟩ := ra_b128 c 0 0 m hb hr (by omega) (fun _ => rfl) (by omega) (by decide)
      rw [show big7 0 0 = [] from rfl, List.nil_append] at e1
      cases m with
      | nil => exact absurd e1 hne
      | cons v vs =>
        have hv := e2 v (by simp)
        subst h
        rw [e1]
        show oidC ((if v < 40 then [0, v] else if v < 80 then [1, v - 40] else [2, v - 80]) ++ vs) = b128 v ++ b128s vs
        by_cases h40 : v < 40
        · rw [if_pos h40]
          show b128 (0 * 40 + v) ++ b128s vs = _
          rw [show 0 * 40 + v = v by omega]
        · rw [if_neg h40]
          by_cases h80 : v < 80
          · rw [if_pos h80]
            show b128 (1 * 40 + (v - 40)) ++ b128s vs = _
            rw [show 1 * 40 + (v - 40) = v by omega]
          · rw [if_neg h80]
            show b128 (2 * 40 + (v - 80)) ++ b128s vs = _
            rw [show 2 * 40 + (v - 80) = v by omega]
end Go.Proofs.Ytlnoeipbbncnfaa
