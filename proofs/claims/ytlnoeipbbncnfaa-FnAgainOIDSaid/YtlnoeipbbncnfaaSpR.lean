/- The reference's word on object identifiers that are right: contract. -/
import Derived.Test.YtlnoeipbbncnfaaIds
import Derived.Test.YtlnoeipbbncnfaaStr
import Derived.Test.YtlnoeipbbncnfaaOid
namespace Go.Proofs.Ytlnoeipbbncnfaa
open Go.RowKit

set_option maxHeartbeats 1600000 in
theorem right_any (A : Option Addr) (n c : Nat) (xs : List Int) (w : World) (B : Nat) (h : RdI w B A xs) (hn : n = xs.length) (hb : xs.length ≤ 4194304) :
    Calls Try.prog 13 #[.slice A n c] w fun e w' => e = .returned (.bool (oidRight xs)) ∧ w = w' := by
  by_cases hl : n < 2
  · have HV : Hid (oidRight xs = false) := Lib.hid (by unfold oidRight; simp only [decide_eq_false_iff_not]; omega)
    have hl' : (n : Int) < 2 := by omega
    clear h hn hb hl
    go_enter Try.func13, Try.ntmps13
    go_wp2_with fail
    go_ret
    exact ⟨by rw [HV.out]; rfl, rfl⟩
  · obtain ⟨ab, aoff, rfl, hab, hcells⟩ := h.2 (by omega)
    have hc0 := hcells 0 (by omega)
    have hc1 := hcells 1 (by omega)
    rw [Nat.add_zero] at hc0
    obtain ⟨m, rfl⟩ : ∃ m, n = m + 2 := ⟨n - 2, by omega⟩
    have hml : m ≤ 4194304 := by omega
    have HC := Lib.hid hcells
    have HN := Lib.hid hn
    have HB0 : Hid ((xs.getD 0 0 < 0 ∨ 2 < xs.getD 0 0 ∨ (xs.getD 0 0 < 2 ∧ 40 ≤ xs.getD 1 0) ∨ (xs.getD 0 0 = 2 ∧ 2147483567 < xs.getD 1 0)) → oidRight xs = false) := Lib.hid (fun hh => by
      unfold oidRight
      simp only [decide_eq_false_iff_not]
      intro h
      have h4 := h.2.2.2.1
      have h5 := h.2.2.2.2.1
      omega)
    have HG0 : Hid (¬ (xs.getD 0 0 < 0 ∨ 2 < xs.getD 0 0 ∨ (xs.getD 0 0 < 2 ∧ 40 ≤ xs.getD 1 0) ∨ (xs.getD 0 0 = 2 ∧ 2147483567 < xs.getD 1 0)) → (∀ v ∈ xs.drop 1, 0 ≤ v ∧ v ≤ 2147483647) → oidRight xs = true) := Lib.hid (fun hh hall => by
      unfold oidRight
      simp only [decide_eq_true_eq]
      exact ⟨by omega, by omega, by omega, fun _ => by omega, fun _ => by omega, hall⟩)
    clear hcells hn hl hb h
    generalize xs.getD 0 0 = a0 at *
    generalize xs.getD 1 0 = a1 at *
    by_cases k1 : a0 < 0
    · have HV := Lib.hid (HB0.out (.inl k1))
      go_enter Try.func13, Try.ntmps13
      go_wp2_with fail
      go_ret
      exact ⟨by rw [HV.out]; rfl, rfl⟩
    by_cases k2 : 2 < a0
    · have HV := Lib.hid (HB0.out (.inr (.inl k2)))
      go_enter Try.func13, Try.ntmps13
      go_wp2_with fail
      go_ret
      exact ⟨by rw [HV.out]; rfl, rfl⟩
    by_cases k3 : a0 = 2
    · have q1 : (a0 == 2) = true := beq_iff_eq.2 k3
      have q2 : ¬ a0 < 2 := by omega
      by_cases k4 : 2147483567 < a1
      · have HV := Lib.hid (HB0.out (.inr (.inr (.inr ⟨k3, k4⟩))))
        clear k3
        go_enter Try.func13, Try.ntmps13
        go_wp2_with fail
        go_ret
        exact ⟨by rw [HV.out]; rfl, rfl⟩
      · have HG := Lib.hid (HG0.out (by omega))
        clear k3
        go_enter Try.func13, Try.ntmps13
        go_wp2_with fail
        go_loop [3] (fun i => ∃ j : Nat, i = .int .i64 (j : Int) ∧ 1 ≤ j ∧ j ≤ m + 2 ∧ ∀ k, 1 ≤ k → k < j → 0 ≤ xs.getD k 0 ∧ xs.getD k 0 ≤ 2147483647) (fun i => (m + 2) - (intOf i).toNat)
        case atStart => exact ⟨1, by simp, Nat.le_refl _, by omega, fun k hk hk2 => absurd hk (by omega)⟩
        case round =>
          obtain ⟨j, rfl, hj1, hj, hall⟩ := hrel
          by_cases hlt : j < m + 2
          · have hcj := HC.out j (by have := HN.out; omega)
            have hij : (j : Int) < (m : Int) + 2 := by omega
            have HALL := Lib.hid hall
            have hbad : (xs.getD j 0 < 0 ∨ 2147483647 < xs.getD j 0) → oidRight xs = false := fun hneg => by
              unfold oidRight
              simp only [decide_eq_false_iff_not]
              intro h
              have h1 := h.2.2.2.2.2 (xs.getD j 0) (by
                have := HN.out
                rw [List.getD_eq_getElem?_getD, List.getElem?_eq_getElem (by omega)]
                rw [List.mem_iff_getElem]
                exact ⟨j - 1, by rw [List.length_drop]; omega, by rw [List.getElem_drop]; simp [show 1 + (j - 1) = j by omega]⟩)
              omega
            by_cases hneg : xs.getD j 0 < 0
            · have HV := Lib.hid (hbad (.inl hneg))
              clear hall hbad
              generalize xs.getD j 0 = x at *
              go_wp2_with fail
              go_ret
              exact ⟨by rw [HV.out]; rfl, rfl⟩
            · by_cases hbig : 2147483647 < xs.getD j 0
              · have HV := Lib.hid (hbad (.inr hbig))
                clear hall hbad
                generalize xs.getD j 0 = x at *
                go_wp2_with fail
                go_ret
                exact ⟨by rw [HV.out]; rfl, rfl⟩
              · have HX := Lib.hid (And.intro hneg hbig)
                obtain ⟨x, hx⟩ : ∃ x, xs.getD j 0 = x := ⟨_, rfl⟩
                rw [hx] at hcj hneg hbig
                clear hall hx hbad
                go_wp2_with fail
                go_round
                case rel =>
                  refine ⟨j + 1, by go_num, by omega, by omega, ?_⟩
                  intro k hk1 hk
                  by_cases e : k = j
                  · subst e; have := HX.out; omega
                  · exact HALL.out k hk1 (by omega)
                case measure => simp [intOf]; omega
          · obtain rfl : j = m + 2 := by omega
            have HV : Hid (oidRight xs = true) := Lib.hid (by
              refine HG.out ?_
              intro v hv
              obtain ⟨k, hk, rfl⟩ := List.mem_iff_getElem.1 hv
              rw [List.length_drop] at hk
              have h := hall (1 + k) (by omega) (by have := HN.out; omega)
              rw [List.getD_eq_getElem?_getD, List.getElem?_eq_getElem (by omega)] at h
              rw [List.getElem_drop]
              exact h)
            clear hall hlt hj hj1
            go_wp2_with fail
            go_ret
            exact ⟨by rw [HV.out]; rfl, rfl⟩
    · have q1 : (a0 == 2) = false := beq_eq_false_iff_ne.2 k3
      have q2 : a0 < 2 := by omega
      by_cases k4 : 40 ≤ a1
      · have HV := Lib.hid (HB0.out (.inr (.inr (.inl ⟨q2, k4⟩))))
        clear k3
        go_enter Try.func13, Try.ntmps13
        go_wp2_with fail
        go_ret
        exact ⟨by rw [HV.out]; rfl, rfl⟩
      · have HG := Lib.hid (HG0.out (by omega))
        clear k3
        go_enter Try.func13, Try.ntmps13
        go_wp2_with fail
        go_loop [3] (fun i => ∃ j : Nat, i = .int .i64 (j : Int) ∧ 1 ≤ j ∧ j ≤ m + 2 ∧ ∀ k, 1 ≤ k → k < j → 0 ≤ xs.getD k 0 ∧ xs.getD k 0 ≤ 2147483647) (fun i => (m + 2) - (intOf i).toNat)
        case atStart => exact ⟨1, by simp, Nat.le_refl _, by omega, fun k hk hk2 => absurd hk (by omega)⟩
        case round =>
          obtain ⟨j, rfl, hj1, hj, hall⟩ := hrel
          by_cases hlt : j < m + 2
          · have hcj := HC.out j (by have := HN.out; omega)
            have hij : (j : Int) < (m : Int) + 2 := by omega
            have HALL := Lib.hid hall
            have hbad : (xs.getD j 0 < 0 ∨ 2147483647 < xs.getD j 0) → oidRight xs = false := fun hneg => by
              unfold oidRight
              simp only [decide_eq_false_iff_not]
              intro h
              have h1 := h.2.2.2.2.2 (xs.getD j 0) (by
                have := HN.out
                rw [List.getD_eq_getElem?_getD, List.getElem?_eq_getElem (by omega)]
                rw [List.mem_iff_getElem]
                exact ⟨j - 1, by rw [List.length_drop]; omega, by rw [List.getElem_drop]; simp [show 1 + (j - 1) = j by omega]⟩)
              omega
            by_cases hneg : xs.getD j 0 < 0
            · have HV := Lib.hid (hbad (.inl hneg))
              clear hall hbad
              generalize xs.getD j 0 = x at *
              go_wp2_with fail
              go_ret
              exact ⟨by rw [HV.out]; rfl, rfl⟩
            · by_cases hbig : 2147483647 < xs.getD j 0
              · have HV := Lib.hid (hbad (.inr hbig))
                clear hall hbad
                generalize xs.getD j 0 = x at *
                go_wp2_with fail
                go_ret
                exact ⟨by rw [HV.out]; rfl, rfl⟩
              · have HX := Lib.hid (And.intro hneg hbig)
                obtain ⟨x, hx⟩ : ∃ x, xs.getD j 0 = x := ⟨_, rfl⟩
                rw [hx] at hcj hneg hbig
                clear hall hx hbad
                go_wp2_with fail
                go_round
                case rel =>
                  refine ⟨j + 1, by go_num, by omega, by omega, ?_⟩
                  intro k hk1 hk
                  by_cases e : k = j
                  · subst e; have := HX.out; omega
                  · exact HALL.out k hk1 (by omega)
                case measure => simp [intOf]; omega
          · obtain rfl : j = m + 2 := by omega
            have HV : Hid (oidRight xs = true) := Lib.hid (by
              refine HG.out ?_
              intro v hv
              obtain ⟨k, hk, rfl⟩ := List.mem_iff_getElem.1 hv
              rw [List.length_drop] at hk
              have h := hall (1 + k) (by omega) (by have := HN.out; omega)
              rw [List.getD_eq_getElem?_getD, List.getElem?_eq_getElem (by omega)] at h
              rw [List.getElem_drop]
              exact h)
            clear hall hlt hj hj1
            go_wp2_with fail
            go_ret
            exact ⟨by rw [HV.out]; rfl, rfl⟩
end Go.Proofs.Ytlnoeipbbncnfaa
