/- The reference's long, First: contracts. -/
import Derived.Test.YtlnoeipbbncnfaaSpec
import Derived.Test.YtlnoeipbbncnfaaDer
import Derived.BigQuiet
import Derived.Deep.QuietTactic
namespace Go.Proofs.Ytlnoeipbbncnfaa
open Go.RowKit

theorem long_any (A : Option Addr) (n c : Nat) (ys : List Int) (k : Int) (w : World) (B : Nat) (h : Rd w B A ys) (hn : n = ys.length) (h0 : 0 ≤ k) (hk : k ≤ 255) (hb : ys.length ≤ 4194304) :
    Calls Try.prog 29 #[.slice A n c, .int .i64 k] w fun e w' => e = .returned (.int .i64 (longVal ys k.toNat)) ∧ w = w' := by
  obtain ⟨m, rfl⟩ := Int.eq_ofNat_of_zero_le h0
  rw [Int.toNat_natCast]
  subst hn
  by_cases hbad : m = 0 ∨ 4 < m ∨ ys.length < m
  · have hv : longVal ys m = -1 := by unfold longVal; rw [if_pos (by omega)]
    rw [hv]
    clear h hv
    have hcase : ((m : Int) == 0) = true ∨ (((m : Int) == 0) = false ∧ decide ((4 : Int) < m) = true) ∨ (((m : Int) == 0) = false ∧ decide ((4 : Int) < m) = false ∧ decide (ys.length < m) = true) := by
      rcases Nat.eq_zero_or_pos m with h0 | h0
      · left; simp; omega
      · right
        by_cases h4 : 4 < m
        · left; simp; omega
        · right; exact ⟨by simp; omega, by simp; omega, by simp; omega⟩
    rcases hcase with q1 | ⟨q1, q2⟩ | ⟨q1, q2, q3⟩
    all_goals
      go_enter Try.func29, Try.ntmps29
      go_wp2_with fail
      go_ret
      exact ⟨rfl, rfl⟩
  · obtain ⟨b, off, rfl, _, hcells⟩ := h.2 (by omega)
    have hby := h.byt
    have c0 := hcells 0 (by omega)
    rw [Nat.add_zero] at c0
    have q1 : ((m : Int) == 0) = false := by simp; omega
    have q2 : decide ((4 : Int) < m) = false := by simp; omega
    have q3 : decide (ys.length < m) = false := by simp; omega
    have hlt0 : (0 : Int) < (ys.length : Int) := by omega
    by_cases hz : ys.getD 0 0 = 0
    · have hv : longVal ys m = -1 := by unfold longVal; rw [if_pos (by omega)]
      rw [hv]
      rw [hz] at c0
      clear h hv hcells hby hz
      go_enter Try.func29, Try.ntmps29
      go_wp2_with fail
      go_ret
      exact ⟨rfl, rfl⟩
    · have hv : longVal ys m = if beN (ys.take m) < 128 then -1 else beN (ys.take m) := by unfold longVal; rw [if_neg (by omega)]
      have hz' : (ys.getD 0 0 == 0) = false := by simpa using hz
      have HV := Lib.hid hv
      have HC := Lib.hid hcells
      have HY := Lib.hid hby
      have hml : m ≤ ys.length := by omega
      have hm4 : m ≤ 4 := by omega
      clear h hv hcells hby hz hbad
      generalize ys.getD 0 0 = y at *
      go_enter Try.func29, Try.ntmps29
      go_wp2_with fail
      go_loop [5, 6] (fun v i => ∃ k : Nat, k ≤ m ∧ i = .int .i64 k ∧ v = .int .i64 (beN (ys.take k))) (fun _ i => m - (intOf i).toNat)
      case atStart => exact ⟨0, Nat.zero_le _, rfl, rfl⟩
      case round =>
        obtain ⟨k, hk, rfl, rfl⟩ := hrel
        by_cases hlt : k < m
        · have hcl := HC.out k (by omega)
          obtain ⟨x0, x1⟩ := Byt.getD HY.out k
          obtain ⟨b0, b2⟩ := beN_take_le3 ys HY.out k (by omega)
          have hsu := Lib.hid (beN_take_succ ys k (by omega))
          generalize beN (ys.take k) = v at *
          generalize ys.getD k 0 = x at *
          go_wp2
          go_round
          case rel => exact ⟨k + 1, by omega, by go_num, by rw [hsu.out]⟩
          case measure => simp [intOf]; omega
        · have e : k = m := by omega
          subst e
          generalize beN (ys.take k) = v at *
          by_cases h128 : v < 128
          · have HH := Lib.hid h128
            go_wp2
            go_ret
            exact ⟨by rw [HV.out, if_pos HH.out]; rfl, rfl⟩
          · have HH := Lib.hid h128
            go_wp2
            go_ret
            exact ⟨by rw [HV.out, if_neg (by have := HH.out; omega)]; rfl, rfl⟩

/-- What the reference's First tells: where the first element stands. -/
def FirstSaid (w : World) (xs : List Int) (e : Ending) (w' : World) : Prop :=
  Only [] w w' ∧ match first xs with
  | some (t, h, n) => e = .returned (.tuple #[.agg #[.int .i64 t, .int .i64 h, .int .i64 n], .bool true])
  | none => e = .returned (.tuple #[.agg #[.int .i64 0, .int .i64 0, .int .i64 0], .bool false])

theorem first_short (A : Option Addr) (n c : Nat) (xs : List Int) (w : World) (hn : n = xs.length) (hl : xs.length < 2) :
    Calls Try.prog 21 #[.slice A n c] w (FirstSaid w xs) := by
  have hf : first xs = none := by unfold first; rw [if_pos (.inl hl)]
  have HF : Hid (∀ w', Only [] w w' → FirstSaid w xs (.returned (.tuple #[.agg #[.int .i64 0, .int .i64 0, .int .i64 0], .bool false])) w') := Lib.hid (by
    intro w' ho
    unfold FirstSaid
    rw [hf]
    exact ⟨ho, rfl⟩)
  subst hn
  clear hf
  go_enter Try.func21, Try.ntmps21
  go_wp2_with fail
  exact bodyPost_ret (v := .tuple #[.agg #[.int .i64 0, .int .i64 0, .int .i64 0], .bool false]) (by simp [results, Try.results21, go_sem]) rfl (HF.out _ ((Only.refl _ _).alloc _))

theorem first_high (A : Option Addr) (n c : Nat) (xs : List Int) (w : World) (B : Nat) (h : Rd w B A xs) (hn : n = xs.length) (hl : 2 ≤ xs.length) (h31 : xs.getD 0 0 % 32 = 31) :
    Calls Try.prog 21 #[.slice A n c] w (FirstSaid w xs) := by
  have hf : first xs = none := by unfold first; rw [if_pos (.inr h31)]
  have HF : Hid (∀ w', Only [] w w' → FirstSaid w xs (.returned (.tuple #[.agg #[.int .i64 0, .int .i64 0, .int .i64 0], .bool false])) w') := Lib.hid (by
    intro w' ho
    unfold FirstSaid
    rw [hf]
    exact ⟨ho, rfl⟩)
  subst hn
  obtain ⟨x0, x1⟩ := Byt.getD h.byt 0
  obtain ⟨b, off, rfl, hbB, hcells⟩ := h.2 (by omega)
  have c0 := hcells 0 (by omega)
  rw [Nat.add_zero] at c0
  have hlater : ∀ o, (w.alloc o).cell? ⟨b, off, none⟩ = some (.int .u8 (xs.getD 0 0)) := fun o => (World.cell?_alloc_lt w o _ (World.block_lt_of_cell? w _ c0)).trans c0
  have hq : decide ((xs.length : Int) < 2) = false := by simp; omega
  have h31' : (xs.getD 0 0 % 32 == 31) = true := by simpa using h31
  clear hf h hcells h31 c0
  generalize xs.getD 0 0 = t at *
  go_enter Try.func21, Try.ntmps21
  go_wp2_with fail
  exact bodyPost_ret (v := .tuple #[.agg #[.int .i64 0, .int .i64 0, .int .i64 0], .bool false]) (by simp [results, Try.results21, go_sem]) rfl (HF.out _ ((Only.refl _ _).alloc _))

theorem first_s (A : Option Addr) (n c : Nat) (xs : List Int) (w : World) (B : Nat) (h : Rd w B A xs) (hn : n = xs.length) (hb : xs.length ≤ 4194304) (hl : 2 ≤ xs.length) (h31 : xs.getD 0 0 % 32 ≠ 31) (hs : xs.getD 1 0 < 128) :
    Calls Try.prog 21 #[.slice A n c] w (FirstSaid w xs) := by
  subst hn
  obtain ⟨x0, x1⟩ := Byt.getD h.byt 0
  obtain ⟨y0, y1⟩ := Byt.getD h.byt 1
  obtain ⟨b, off, rfl, hbB, hcells⟩ := h.2 (by omega)
  have c0 := hcells 0 (by omega)
  have c1 := hcells 1 (by omega)
  rw [Nat.add_zero] at c0
  have hlt := World.block_lt_of_cell? w _ c0
  have d0 : ∀ o n, ((w.alloc o).drewN n).cell? ⟨b, off, none⟩ = some (.int .u8 (xs.getD 0 0)) := fun o n => (World.cell?_alloc_lt w o _ hlt).trans c0
  have e0 : ∀ o, (w.alloc o).cell? ⟨b, off, none⟩ = some (.int .u8 (xs.getD 0 0)) := fun o => (World.cell?_alloc_lt w o _ hlt).trans c0
  have e1 : ∀ o, (w.alloc o).cell? ⟨b, off + 1, none⟩ = some (.int .u8 (xs.getD 1 0)) := fun o => (World.cell?_alloc_lt w o ⟨b, off + 1, none⟩ hlt).trans c1
  have hq : decide ((xs.length : Int) < 2) = false := by simp; omega
  have h31' : (xs.getD 0 0 % 32 == 31) = false := by simpa using h31
  have hfl := first_of_len (h := 2) (z := xs.getD 1 0) hl h31 (by unfold lenOf; rw [if_pos hs, if_neg (by omega)])
  have hge : decide ((128 : Int) ≤ xs.getD 1 0) = false := decide_eq_false (by omega)
  have w0 : IntKind.i64.wrap (xs.getD 0 0) = xs.getD 0 0 := IntWalk.i64_in _ (by omega)
  have w1 : IntKind.i64.wrap (xs.getD 1 0) = xs.getD 1 0 := IntWalk.i64_in _ (by omega)
  have hneg : decide (xs.getD 1 0 < 0) = false := decide_eq_false (by omega)
  by_cases hfit : (xs.length : Int) < 2 + xs.getD 1 0
  · have HF : Hid (∀ w', Only [] w w' → FirstSaid w xs (.returned (.tuple #[.agg #[.int .i64 0, .int .i64 0, .int .i64 0], .bool false])) w') := Lib.hid (by
      intro w' ho
      unfold FirstSaid
      have hc : xs.getD 1 0 < 0 ∨ (xs.length : Int) < ((2 : Nat) : Int) + xs.getD 1 0 := .inr (by omega)
      rw [hfl, if_pos hc]
      exact ⟨ho, rfl⟩)
    have hf2 : decide ((xs.length : Int) < 2 + xs.getD 1 0) = true := by simpa using hfit
    clear hfl h hcells h31 c0 c1 hfit hs
    generalize xs.getD 0 0 = t at *
    generalize xs.getD 1 0 = l at *
    go_enter Try.func21, Try.ntmps21
    go_wp2_with fail
    go_quiet (fail)
    go_wp2_with fail
    exact bodyPost_ret (v := .tuple #[.agg #[.int .i64 0, .int .i64 0, .int .i64 0], .bool false]) (by simp [results, Try.results21, go_sem]) rfl (HF.out _ ((((Only.refl _ _).alloc _).drewN _).setCell (.inr (by simp)) _ |>.setCell (.inr (by simp)) _ |>.setCell (.inr (by simp)) _))
  · have HF : Hid (∀ w' k, 2 + xs.getD 1 0 = k → Only [] w w' → FirstSaid w xs (.returned (.tuple #[.agg #[.int .i64 (xs.getD 0 0), .int .i64 2, .int .i64 k], .bool true])) w') := Lib.hid (by
      intro w' k hk ho
      unfold FirstSaid
      have hc : ¬ (xs.getD 1 0 < 0 ∨ (xs.length : Int) < ((2 : Nat) : Int) + xs.getD 1 0) := by omega
      rw [hfl, if_neg hc]
      refine ⟨ho, ?_⟩
      have : ((2 + (xs.getD 1 0).toNat : Nat) : Int) = k := by omega
      rw [← this]
      rfl)
    have hf2 : decide ((xs.length : Int) < 2 + xs.getD 1 0) = false := by simpa using hfit
    clear hfl h hcells h31 c0 c1 hfit hs
    generalize xs.getD 0 0 = t at *
    generalize xs.getD 1 0 = l at *
    go_enter Try.func21, Try.ntmps21
    go_wp2_with fail
    go_quiet (fail)
    go_wp2_with fail
    exact bodyPost_ret (v := .tuple #[.agg #[.int .i64 t, .int .i64 2, .int .i64 (2 + l)], .bool true]) (by simp [results, Try.results21, go_sem]) rfl (HF.out _ _ rfl ((((Only.refl _ _).alloc _).drewN _).setCell (.inr (by simp)) _ |>.setCell (.inr (by simp)) _ |>.setCell (.inr (by simp)) _))

theorem first_l (A : Option Addr) (n c : Nat) (xs : List Int) (w : World) (B : Nat) (h : Rd w B A xs) (hn : n = xs.length) (hnc : n ≤ c) (hBw : B ≤ w.heap.size) (hb : xs.length ≤ 4194304) (hl : 2 ≤ xs.length) (h31 : xs.getD 0 0 % 32 ≠ 31) (hs : ¬ xs.getD 1 0 < 128) :
    Calls Try.prog 21 #[.slice A n c] w (FirstSaid w xs) := by
  subst hn
  obtain ⟨x0, x1⟩ := Byt.getD h.byt 0
  obtain ⟨y0, y1⟩ := Byt.getD h.byt 1
  have hR := h
  obtain ⟨b, off, rfl, hbB, hcells⟩ := h.2 (by omega)
  have c0 := hcells 0 (by omega)
  have c1 := hcells 1 (by omega)
  rw [Nat.add_zero] at c0
  have hlt := World.block_lt_of_cell? w _ c0
  have e0 : ∀ o, (w.alloc o).cell? ⟨b, off, none⟩ = some (.int .u8 (xs.getD 0 0)) := fun o => (World.cell?_alloc_lt w o _ hlt).trans c0
  have e1 : ∀ o, (w.alloc o).cell? ⟨b, off + 1, none⟩ = some (.int .u8 (xs.getD 1 0)) := fun o => (World.cell?_alloc_lt w o ⟨b, off + 1, none⟩ hlt).trans c1
  have hq : decide ((xs.length : Int) < 2) = false := by simp; omega
  have hql : (2 : Int) ≤ (xs.length : Int) := by omega
  have h31' : (xs.getD 0 0 % 32 == 31) = false := by simpa using h31
  obtain ⟨z, hz⟩ : ∃ z, longVal (xs.drop 2) (xs.getD 1 0 - 128).toNat = z := ⟨_, rfl⟩
  have hfl := first_of_len (h := 2 + (xs.getD 1 0 - 128).toNat) (z := z) hl h31 (by rw [lenOf_long (m := (xs.getD 1 0 - 128).toNat) hl (by omega), hz])
  have hzb : -1 ≤ z ∧ z < 4294967296 := by
    rw [← hz]
    unfold longVal
    split
    · omega
    · rename_i hno
      split
      · omega
      · have := beN_take_bd (xs.drop 2) (hR.byt.drop 2) (xs.getD 1 0 - 128).toNat 4 (by omega)
        have e : (256 : Int) ^ 4 = 4294967296 := by decide
        omega
  obtain ⟨z0, z1⟩ := hzb
  have LG := Lib.hid (fun W A' c' (hr : Rd W B A' (xs.drop 2)) => long_any A' (xs.length - 2) c' (xs.drop 2) (xs.getD 1 0 - 128) W B hr (by simp) (by omega) (by omega) (by simp; omega))
  rw [hz] at LG
  have HCUT := Lib.hid hR
  have HBW := Lib.hid hBw
  have hge : decide ((128 : Int) ≤ xs.getD 1 0) = true := decide_eq_true (by omega)
  have hge' : (128 : Int) ≤ xs.getD 1 0 := by omega
  have w0 : IntKind.i64.wrap (xs.getD 0 0) = xs.getD 0 0 := IntWalk.i64_in _ (by omega)
  have w1 : IntKind.i64.wrap (xs.getD 1 0) = xs.getD 1 0 := IntWalk.i64_in _ (by omega)
  have HF : Hid (∀ w', (z < 0 ∨ (xs.length : Int) < 2 + (xs.getD 1 0 - 128) + z) → Only [] w w' → FirstSaid w xs (.returned (.tuple #[.agg #[.int .i64 0, .int .i64 0, .int .i64 0], .bool false])) w') := Lib.hid (by
      intro w' hc ho
      have hc' : z < 0 ∨ (xs.length : Int) < ((2 + (xs.getD 1 0 - 128).toNat : Nat) : Int) + z := by omega
      unfold FirstSaid
      rw [hfl, if_pos hc']
      exact ⟨ho, rfl⟩)
  have HT : Hid (∀ w' h k, ¬ (z < 0 ∨ (xs.length : Int) < 2 + (xs.getD 1 0 - 128) + z) → 2 + (xs.getD 1 0 - 128) = h → 2 + (xs.getD 1 0 - 128) + z = k → Only [] w w' → FirstSaid w xs (.returned (.tuple #[.agg #[.int .i64 (xs.getD 0 0), .int .i64 h, .int .i64 k], .bool true])) w') := Lib.hid (by
      intro w' h k hc hh hk ho
      have hc' : ¬ (z < 0 ∨ (xs.length : Int) < ((2 + (xs.getD 1 0 - 128).toNat : Nat) : Int) + z) := by omega
      unfold FirstSaid
      rw [hfl, if_neg hc']
      refine ⟨ho, ?_⟩
      have e1 : ((2 + (xs.getD 1 0 - 128).toNat : Nat) : Int) = h := by omega
      have e2 : ((2 + (xs.getD 1 0 - 128).toNat + z.toNat : Nat) : Int) = k := by omega
      show Ending.returned _ = Ending.returned (.tuple #[.agg #[.int .i64 _, .int .i64 ((2 + (xs.getD 1 0 - 128).toNat : Nat) : Int), .int .i64 ((2 + (xs.getD 1 0 - 128).toNat + z.toNat : Nat) : Int)], .bool true])
      rw [e1, e2])
  clear hfl h hcells h31 c0 c1 hs hR hz hBw
  generalize xs.getD 0 0 = t at *
  generalize xs.getD 1 0 = l at *
  go_enter Try.func21, Try.ntmps21
  go_wp2_with fail
  go_quiet (fail)
  go_wp2_with fail
  all_goals
    refine (LG.out _ _ _ ?_).mono ?_
    · first | exact (HCUT.out.only (((Only.refl [] w).alloc _).drewN _) (by simp) HBW.out).cutM 2 | exact Rd.empty _ _ _ (List.drop_of_length_le (by omega))
    rintro e w' ⟨rfl, rfl⟩
    by_cases hz0 : z < 0
    · have hd : decide (z < 0) = true := decide_eq_true hz0
      have HZ := Lib.hid hz0
      clear hz0
      go_wp2_with fail
      exact bodyPost_ret (v := .tuple #[.agg #[.int .i64 0, .int .i64 0, .int .i64 0], .bool false]) (by simp [results, Try.results21, go_sem]) rfl (HF.out _ (.inl HZ.out) ((((Only.refl _ _).alloc _).drewN _).setCell (.inr (by simp)) _ |>.setCell (.inr (by simp)) _ |>.setCell (.inr (by simp)) _))
    · have hd : decide (z < 0) = false := decide_eq_false hz0
      by_cases hfit : (xs.length : Int) < 2 + (l - 128) + z
      · have hd2 : decide ((xs.length : Int) < 2 + l - 128 + z) = true := decide_eq_true (by omega)
        have HZ := Lib.hid hfit
        clear hfit
        go_wp2_with fail
        exact bodyPost_ret (v := .tuple #[.agg #[.int .i64 0, .int .i64 0, .int .i64 0], .bool false]) (by simp [results, Try.results21, go_sem]) rfl (HF.out _ (.inr HZ.out) ((((Only.refl _ _).alloc _).drewN _).setCell (.inr (by simp)) _ |>.setCell (.inr (by simp)) _ |>.setCell (.inr (by simp)) _))
      · have hd2 : decide ((xs.length : Int) < 2 + l - 128 + z) = false := decide_eq_false (by omega)
        have HZ := Lib.hid hfit
        have HZ0 := Lib.hid hz0
        clear hfit
        go_wp2_with fail
        exact bodyPost_ret (v := .tuple #[.agg #[.int .i64 t, .int .i64 (2 + l - 128), .int .i64 (2 + l - 128 + z)], .bool true]) (by simp [results, Try.results21, go_sem]) rfl (HT.out _ _ _ (by have a := HZ0.out; have b := HZ.out; omega) (by omega) (by omega) ((((Only.refl _ _).alloc _).drewN _).setCell (.inr (by simp)) _ |>.setCell (.inr (by simp)) _ |>.setCell (.inr (by simp)) _))

theorem first_any (A : Option Addr) (n c : Nat) (xs : List Int) (w : World) (B : Nat) (h : Rd w B A xs) (hn : n = xs.length) (hnc : n ≤ c) (hBw : B ≤ w.heap.size) (hb : xs.length ≤ 4194304) :
    Calls Try.prog 21 #[.slice A n c] w (FirstSaid w xs) := by
  by_cases hl : xs.length < 2
  · exact first_short A n c xs w hn hl
  · by_cases h31 : xs.getD 0 0 % 32 = 31
    · exact first_high A n c xs w B h hn (by omega) h31
    · by_cases hs : xs.getD 1 0 < 128
      · exact first_s A n c xs w B h hn hb (by omega) h31 hs
      · exact first_l A n c xs w B h hn hnc hBw hb (by omega) h31 hs
end Go.Proofs.Ytlnoeipbbncnfaa
