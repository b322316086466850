/- The reference's readers of contents: contracts. -/
import Derived.Test.YtdocgembogocjaaSpec3
import Derived.Test.YtdocgembogocjaaInt
import Derived.Test.YtdocgembogocjaaMth
namespace Go.Proofs.Ytdocgembogocjaa
open Go.RowKit


theorem integer_any (A : Option Addr) (n c : Nat) (xs : List Int) (w : World) (B : Nat) (h : Rd w B A xs) (hn : n = xs.length) :
    Calls Try.prog 39 #[.slice A n c] w fun e w' => e = .returned (.bool (intRight xs)) ∧ w = w' := by
  subst hn
  by_cases h2 : xs.length < 2
  · have HQ := Lib.hid (show intRight xs = decide (xs.length = 1) by unfold intRight; rw [decide_eq_decide]; omega)
    have hz : decide ((xs.length : Int) < 2) = true := decide_eq_true (by omega)
    clear h h2
    go_enter Try.func39, Try.ntmps39
    go_wp2_with fail
    go_ret
    refine ⟨?_, rfl⟩
    rw [HQ.out]
    by_cases e : xs.length = 1 <;> simp [e]
    omega
  · have hz : decide ((xs.length : Int) < 2) = false := decide_eq_false (by omega)
    obtain ⟨ab, aoff, rfl, hab, hcells⟩ := h.2 (by omega)
    have hcell0 := hcells 0 (by omega)
    rw [Nat.add_zero] at hcell0
    have hcell1 := hcells 1 (by omega)
    have hp0 : 0 < xs.length := by omega
    have hp1 : 1 < xs.length := by omega
    have HQ := Lib.hid (show intRight xs = decide (¬ (xs.getD 0 0 = 0 ∧ xs.getD 1 0 < 128) ∧ ¬ (xs.getD 0 0 = 255 ∧ 128 ≤ xs.getD 1 0)) by
      unfold intRight
      rw [decide_eq_decide]
      omega)
    clear h hcells h2
    generalize xs.getD 0 0 = a at *
    generalize xs.getD 1 0 = b at *
    by_cases ha0 : a = 0
    · subst ha0
      by_cases hlt : b < 128
      · have HR := Lib.hid (show intRight xs = false by rw [HQ.out, decide_eq_false (by omega)])
        have hb : decide (b < 128) = true := decide_eq_true hlt
        clear hlt HQ
        go_enter Try.func39, Try.ntmps39
        go_wp2_with fail
        go_ret
        exact ⟨by rw [HR.out]; try rfl, rfl⟩
      · have HR := Lib.hid (show intRight xs = true by rw [HQ.out, decide_eq_true (by omega)])
        have hb : decide (b < 128) = false := decide_eq_false hlt
        clear hlt HQ
        go_enter Try.func39, Try.ntmps39
        go_wp2_with fail
        go_ret
        exact ⟨by rw [HR.out]; try rfl, rfl⟩
    · have hz2 : (a == 0) = false := by simpa using ha0
      by_cases ha1 : a = 255
      · subst ha1
        by_cases hlt : b < 128
        · have HR := Lib.hid (show intRight xs = true by rw [HQ.out, decide_eq_true (by omega)])
          have hb : decide (128 ≤ b) = false := decide_eq_false (by omega)
          clear hlt HQ ha0
          go_enter Try.func39, Try.ntmps39
          go_wp2_with fail
          go_ret
          exact ⟨by rw [HR.out]; try rfl, rfl⟩
        · have HR := Lib.hid (show intRight xs = false by rw [HQ.out, decide_eq_false (by omega)])
          have hb : decide (128 ≤ b) = true := decide_eq_true (by omega)
          clear hlt HQ ha0
          go_enter Try.func39, Try.ntmps39
          go_wp2_with fail
          go_ret
          exact ⟨by rw [HR.out]; try rfl, rfl⟩
      · have hz3 : (a == 255) = false := by simpa using ha1
        have HR := Lib.hid (show intRight xs = true by rw [HQ.out, decide_eq_true (by omega)])
        clear HQ ha0 ha1
        go_enter Try.func39, Try.ntmps39
        go_wp2_with fail
        all_goals
          go_ret
          exact ⟨by rw [HR.out]; try rfl, rfl⟩

theorem intOf_any (A : Option Addr) (n c : Nat) (xs : List Int) (w : World) (B : Nat) (h : Rd w B A xs) (hn : n = xs.length) :
    Calls Try.prog 14 #[.slice A n c] w fun e w' => e = .returned (.tuple #[.int .i64 ((intOf' xs).getD 0), .bool (intOf' xs).isSome]) ∧ w = w' := by
  subst hn
  have HI := Lib.hid (integer_any A xs.length c xs w B h rfl)
  cases hir : intRight xs with
  | false =>
    have HV : Hid (intOf' xs = none) := Lib.hid (by unfold intOf'; rw [if_neg (by simp [hir])])
    rw [hir] at HI
    clear h hir
    go_enter Try.func14, Try.ntmps14
    go_wp2_with fail
    refine HI.out.mono ?_; rintro e w' ⟨rfl, rfl⟩
    go_wp2_with fail
    go_ret2
    exact ⟨by rw [HV.out]; rfl, rfl⟩
  | true =>
    rw [hir] at HI
    by_cases h8 : xs.length ≤ 8
    · have HV : Hid (intOf' xs = some (sg xs xs.length)) := Lib.hid (by unfold intOf'; rw [if_pos ⟨hir, h8⟩])
      have hd : decide ((8 : Int) < (xs.length : Int)) = false := decide_eq_false (by omega)
      have hp := intRight_pos hir
      obtain ⟨ab, aoff, rfl, hab, hcells⟩ := h.2 (by omega)
      have hcell0 := hcells 0 (by omega)
      rw [Nat.add_zero] at hcell0
      have hp0 : 0 < xs.length := hp
      have HC := Lib.hid hcells
      have HY := Lib.hid h.byt
      have HL := Lib.hid h8
      have hz := sg_zero xs
      clear h hir h8 hcells hp hab
      generalize xs.getD 0 0 = a0 at *
      have hcase : (decide (128 ≤ a0) = true ∧ sg xs 0 = -1) ∨ (decide (128 ≤ a0) = false ∧ sg xs 0 = 0) := by
        by_cases hneg : 128 ≤ a0
        · rw [if_pos hneg] at hz
          exact .inl ⟨decide_eq_true hneg, hz⟩
        · rw [if_neg hneg] at hz
          exact .inr ⟨decide_eq_false hneg, hz⟩
      clear hz
      rcases hcase with ⟨hb, hz⟩ | ⟨hb, hz⟩
      all_goals
        have HZ := Lib.hid hz
        clear hz
        go_enter Try.func14, Try.ntmps14
        go_wp2_with fail
        refine HI.out.mono ?_; rintro e w' ⟨rfl, rfl⟩
        go_wp2_with fail
        go_loop [4, 5] (fun v i => ∃ k : Nat, k ≤ xs.length ∧ i = .int .i64 k ∧ v = .int .i64 (sg xs k)) (fun _ i => xs.length - (intOf i).toNat)
        case atStart => exact ⟨0, Nat.zero_le _, rfl, by rw [HZ.out]⟩
        case round =>
          obtain ⟨k, hk, rfl, rfl⟩ := hrel
          by_cases hlt : k < xs.length
          · have hcell := HC.out k hlt
            have hk8 : k < 8 := by have := HL.out; omega
            obtain ⟨x0, x1⟩ := Byt.getD HY.out k
            have hsu := Lib.hid (sg_succ xs k hlt)
            obtain ⟨s0, s1⟩ := sg_bd xs (k + 1) HY.out hlt (by omega)
            rw [hsu.out] at s0 s1
            generalize sg xs k = v at *
            generalize xs.getD k 0 = x at *
            have hw1 : wrap64 (v * 256) = v * 256 := IntWalk.wrap64_in _ (by omega)
            have hw2 : wrap64 (v * 256 + x) = v * 256 + x := IntWalk.wrap64_in _ (by omega)
            go_wp2
            go_round
            case rel => exact ⟨k + 1, by omega, by go_num, by rw [hsu.out]⟩
            case measure => simp [intOf]; omega
          · have e : k = xs.length := by omega
            subst e
            go_wp2
            go_ret2
            exact ⟨by rw [HV.out]; rfl, rfl⟩
    · have HV : Hid (intOf' xs = none) := Lib.hid (by unfold intOf'; rw [if_neg (fun h => h8 h.2)])
      have hd : decide ((8 : Int) < (xs.length : Int)) = true := decide_eq_true (by omega)
      clear h hir h8
      go_enter Try.func14, Try.ntmps14
      go_wp2_with fail
      refine HI.out.mono ?_; rintro e w' ⟨rfl, rfl⟩
      go_wp2_with fail
      go_ret2
      exact ⟨by rw [HV.out]; rfl, rfl⟩

theorem uintOf_any (A : Option Addr) (n c : Nat) (xs : List Int) (w : World) (B : Nat) (h : Rd w B A xs) (hn : n = xs.length) :
    Calls Try.prog 17 #[.slice A n c] w fun e w' => e = .returned (.tuple #[.int .u64 ((uintOf xs).getD 0), .bool (uintOf xs).isSome]) ∧ w = w' := by
  subst hn
  have HI := Lib.hid (integer_any A xs.length c xs w B h rfl)
  cases hir : intRight xs with
  | false =>
    have HV : Hid (uintOf xs = none) := Lib.hid (by unfold uintOf; rw [if_neg (by simp [hir])])
    rw [hir] at HI
    clear h hir
    go_enter Try.func17, Try.ntmps17
    go_wp2_with fail
    refine HI.out.mono ?_; rintro e w' ⟨rfl, rfl⟩
    go_wp2_with fail
    go_ret2
    exact ⟨by rw [HV.out]; rfl, rfl⟩
  | true =>
    rw [hir] at HI
    have hp0 : 0 < xs.length := intRight_pos hir
    obtain ⟨ab, aoff, rfl, hab, hcells⟩ := h.2 hp0
    have hcell0 := hcells 0 hp0
    rw [Nat.add_zero] at hcell0
    have HC := Lib.hid hcells
    have HY := Lib.hid h.byt
    have hue : uintOf xs = if xs.getD 0 0 < 128 ∧ (xs.length ≤ 8 ∨ xs.length = 9 ∧ xs.getD 0 0 = 0) then some (beN xs) else none := by
      unfold uintOf
      by_cases hc : xs.getD 0 0 < 128 ∧ (xs.length ≤ 8 ∨ xs.length = 9 ∧ xs.getD 0 0 = 0)
      · rw [if_pos hc, if_pos ⟨hir, hc⟩]
      · rw [if_neg hc, if_neg (fun h => hc h.2)]
    have hbd := uint_bd xs h.byt
    have hfu : uintFits xs = decide (xs.getD 0 0 < 128 ∧ (xs.length ≤ 8 ∨ xs.length = 9 ∧ xs.getD 0 0 = 0)) := rfl
    clear h hir hcells hab
    generalize xs.getD 0 0 = a0 at *
    by_cases hc : a0 < 128 ∧ (xs.length ≤ 8 ∨ xs.length = 9 ∧ a0 = 0)
    · rw [if_pos hc] at hue
      rw [decide_eq_true hc] at hfu
      have HBD := Lib.hid (hbd hfu)
      have HV := Lib.hid hue
      have HL9 := Lib.hid (show xs.length ≤ 9 by omega)
      have hb : decide (128 ≤ a0) = false := decide_eq_false (by omega)
      have hd : decide ((9 : Int) < (xs.length : Int)) = false := decide_eq_false (by omega)
      have hdc : ((xs.length : Int) == 9) = false ∨ (((xs.length : Int) == 9) = true ∧ (a0 != 0) = false) := by
        rcases hc.2 with h8 | ⟨h9, h0⟩
        · exact .inl (beq_eq_false_iff_ne.2 (by omega))
        · exact .inr ⟨beq_iff_eq.2 (by omega), by rw [h0]; rfl⟩
      clear hue hfu hbd hc
      rcases hdc with hd8 | ⟨hd8, hd0⟩
      all_goals
        go_enter Try.func17, Try.ntmps17
        go_wp2_with fail
        refine HI.out.mono ?_; rintro e w' ⟨rfl, rfl⟩
        go_wp2_with fail
        go_loop [4, 5] (fun v i => ∃ k : Nat, k ≤ xs.length ∧ i = .int .i64 k ∧ v = .int .u64 (beN (xs.take k))) (fun _ i => xs.length - (intOf i).toNat)
        case atStart => exact ⟨0, Nat.zero_le _, rfl, rfl⟩
        case round =>
          obtain ⟨k, hk, rfl, rfl⟩ := hrel
          by_cases hlt : k < xs.length
          · have hcell := HC.out k hlt
            have hk8 : k < 9 := by have := HL9.out; omega
            obtain ⟨x0, x1⟩ := Byt.getD HY.out k
            have hsu := Lib.hid (beN_take_succ xs k hlt)
            obtain ⟨s0, s1⟩ := HBD.out k hlt
            clear hcell0
            generalize beN (xs.take k) = v at *
            generalize xs.getD k 0 = x at *
            go_wp2
            go_round
            case rel => exact ⟨k + 1, by omega, by go_num, by rw [hsu.out]⟩
            case measure => simp [intOf]; omega
          · have e : k = xs.length := by omega
            subst e
            go_wp2
            go_ret2
            exact ⟨by rw [HV.out]; rfl, rfl⟩
    · rw [if_neg hc] at hue
      have HV := Lib.hid hue
      by_cases hneg : 128 ≤ a0
      · have hb : decide (128 ≤ a0) = true := decide_eq_true hneg
        clear hue hfu hbd hc hneg
        go_enter Try.func17, Try.ntmps17
        go_wp2_with fail
        refine HI.out.mono ?_; rintro e w' ⟨rfl, rfl⟩
        go_wp2_with fail
        go_ret2
        exact ⟨by rw [HV.out]; rfl, rfl⟩
      · have hb : decide (128 ≤ a0) = false := decide_eq_false hneg
        by_cases h9 : 9 < xs.length
        · have hd : decide ((9 : Int) < (xs.length : Int)) = true := decide_eq_true (by omega)
          clear hue hfu hbd hc hneg h9
          go_enter Try.func17, Try.ntmps17
          go_wp2_with fail
          refine HI.out.mono ?_; rintro e w' ⟨rfl, rfl⟩
          go_wp2_with fail
          go_ret2
          exact ⟨by rw [HV.out]; rfl, rfl⟩
        · have hd : decide ((9 : Int) < (xs.length : Int)) = false := decide_eq_false (by omega)
          have hd8 : ((xs.length : Int) == 9) = true := beq_iff_eq.2 (by omega)
          have hd0 : (a0 != 0) = true := by simp; omega
          clear hue hfu hbd hc hneg h9
          go_enter Try.func17, Try.ntmps17
          go_wp2_with fail
          refine HI.out.mono ?_; rintro e w' ⟨rfl, rfl⟩
          go_wp2_with fail
          go_ret2
          exact ⟨by rw [HV.out]; rfl, rfl⟩
end Go.Proofs.Ytdocgembogocjaa
