/- Object identifiers that are right to add: isValidOID: contract. -/
import Derived.Test.YtlnoeipbbncnfaaIds
import Derived.Test.YtlnoeipbbncnfaaStr
import Derived.Test.YtlnoeipbbncnfaaOid
import Derived.Deep.QuietTactic
import Derived.BigQuiet
namespace Go.Proofs.Ytlnoeipbbncnfaa
open Go.RowKit

def validOID (o : List Int) : Bool := decide (2 ≤ o.length ∧ o.getD 0 0 ≤ 2 ∧ ¬ (o.getD 0 0 ≤ 1 ∧ 40 ≤ o.getD 1 0) ∧ ∀ v ∈ o, 0 ≤ v)

theorem valid_any (A : Option Addr) (n c : Nat) (xs : List Int) (w : World) (B : Nat) (h : RdI w B A xs) (hn : n = xs.length) (hb : xs.length ≤ 4194304) :
    Calls Try.prog 32 #[.slice A n c] w fun e w' => e = .returned (.bool (validOID xs)) ∧ Only [] w w' := by
  by_cases hl : n < 2
  · have HV : Hid (validOID xs = false) := Lib.hid (by unfold validOID; simp; omega)
    have hl' : (n : Int) < 2 := by omega
    clear h hn hb hl
    go_enter Try.func32, Try.ntmps32
    go_wp2_with fail
    go_ret
    exact ⟨by rw [HV.out]; rfl, Only.refl _ _⟩
  · obtain ⟨ab, aoff, rfl, hab, hcells⟩ := h.2 (by omega)
    have hc0 := hcells 0 (by omega)
    have hc1 := hcells 1 (by omega)
    rw [Nat.add_zero] at hc0
    obtain ⟨m, rfl⟩ : ∃ m, n = m + 2 := ⟨n - 2, by omega⟩
    have hml : m ≤ 4194304 := by omega
    have HC := Lib.hid hcells
    have HN := Lib.hid hn
    obtain ⟨x0, x1⟩ := Sml.getD h.1 0
    have HG := Lib.hid h.1
    clear hcells hn hl hb h
    by_cases h2 : 2 < xs.getD 0 0
    · have HV : Hid (validOID xs = false) := Lib.hid (by unfold validOID; simp only [decide_eq_false_iff_not]; omega)
      generalize xs.getD 0 0 = a0 at *
      generalize xs.getD 1 0 = a1 at *
      go_enter Try.func32, Try.ntmps32
      go_wp2_with fail
      go_ret
      exact ⟨by rw [HV.out]; rfl, Only.refl _ _⟩
    · by_cases h40 : xs.getD 0 0 ≤ 1 ∧ 40 ≤ xs.getD 1 0
      · have HV : Hid (validOID xs = false) := Lib.hid (by unfold validOID; simp only [decide_eq_false_iff_not]; omega)
        generalize xs.getD 0 0 = a0 at *
        generalize xs.getD 1 0 = a1 at *
        obtain ⟨k1, k2⟩ := h40
        go_enter Try.func32, Try.ntmps32
        go_wp2_with fail
        go_ret
        exact ⟨by rw [HV.out]; rfl, Only.refl _ _⟩
      · have hv0 : xs.getD 0 0 ≤ 2 := by omega
        have HV0 : Hid ((∀ v ∈ xs, 0 ≤ v) → validOID xs = true) := Lib.hid (fun hall => by
          unfold validOID
          simp only [decide_eq_true_eq]
          exact ⟨by have := HN.out; omega, hv0, h40, hall⟩)
        by_cases h1 : xs.getD 0 0 ≤ 1
        · have h39 : xs.getD 1 0 < 40 := by omega
          clear h2 h40 hv0
          generalize xs.getD 0 0 = a0 at *
          generalize xs.getD 1 0 = a1 at *
          go_enter Try.func32, Try.ntmps32
          go_wp2_with fail
          go_loop [26] (fun i => ∃ j : Nat, i = .int .i64 (j : Int) ∧ j ≤ m + 2 ∧ ∀ k, k < j → 0 ≤ xs.getD k 0) (fun i => (m + 2) - (intOf i).toNat)
          case atStart => exact ⟨0, by simp, Nat.zero_le _, fun k hk => absurd hk (by omega)⟩
          case round =>
            obtain ⟨j, rfl, hj, hall⟩ := hrel
            by_cases hlt : j < m + 2
            · have hcj := HC.out j (by have := HN.out; omega)
              have hij : (j : Int) < (m : Int) + 2 := by omega
              have HALL := Lib.hid hall
              by_cases hneg : xs.getD j 0 < 0
              · have HV : Hid (validOID xs = false) := Lib.hid (by
                  unfold validOID
                  simp only [decide_eq_false_iff_not]
                  intro h
                  have h1 := h.2.2.2 (xs.getD j 0) (by
                    have := HN.out
                    rw [List.getD_eq_getElem?_getD, List.getElem?_eq_getElem (by omega)]
                    exact List.getElem_mem _)
                  omega)
                clear hall
                generalize xs.getD j 0 = x at *
                go_wp2_with fail
                go_ret
                exact ⟨by rw [HV.out]; rfl, Only.refl _ _⟩
              · have HX := Lib.hid hneg
                obtain ⟨x, hx⟩ : ∃ x, xs.getD j 0 = x := ⟨_, rfl⟩
                rw [hx] at hcj hneg
                clear hall hx
                go_wp2_with fail
                go_round
                case rel =>
                  refine ⟨j + 1, by go_num, by omega, ?_⟩
                  intro k hk
                  by_cases e : k = j
                  · subst e; have := HX.out; omega
                  · exact HALL.out k (by omega)
                case measure => simp [intOf]; omega
            · obtain rfl : j = m + 2 := by omega
              have HV : Hid (validOID xs = true) := Lib.hid (by
                refine HV0.out ?_
                intro v hv
                obtain ⟨k, hk, rfl⟩ := List.mem_iff_getElem.1 hv
                have h := hall k (by have := HN.out; omega)
                rwa [List.getD_eq_getElem?_getD, List.getElem?_eq_getElem hk] at h)
              clear hall hlt hj
              go_wp2_with fail
              go_ret
              exact ⟨by rw [HV.out]; rfl, Only.refl _ _⟩
        · clear h2 h40
          have h1b : (1 : Int) < xs.getD 0 0 := by omega
          generalize xs.getD 0 0 = a0 at *
          generalize xs.getD 1 0 = a1 at *
          go_enter Try.func32, Try.ntmps32
          go_wp2_with fail
          go_loop [26] (fun i => ∃ j : Nat, i = .int .i64 (j : Int) ∧ j ≤ m + 2 ∧ ∀ k, k < j → 0 ≤ xs.getD k 0) (fun i => (m + 2) - (intOf i).toNat)
          case atStart => exact ⟨0, by simp, Nat.zero_le _, fun k hk => absurd hk (by omega)⟩
          case round =>
            obtain ⟨j, rfl, hj, hall⟩ := hrel
            by_cases hlt : j < m + 2
            · have hcj := HC.out j (by have := HN.out; omega)
              have hij : (j : Int) < (m : Int) + 2 := by omega
              have HALL := Lib.hid hall
              by_cases hneg : xs.getD j 0 < 0
              · have HV : Hid (validOID xs = false) := Lib.hid (by
                  unfold validOID
                  simp only [decide_eq_false_iff_not]
                  intro h
                  have h1 := h.2.2.2 (xs.getD j 0) (by
                    have := HN.out
                    rw [List.getD_eq_getElem?_getD, List.getElem?_eq_getElem (by omega)]
                    exact List.getElem_mem _)
                  omega)
                clear hall
                generalize xs.getD j 0 = x at *
                go_wp2_with fail
                go_ret
                exact ⟨by rw [HV.out]; rfl, Only.refl _ _⟩
              · have HX := Lib.hid hneg
                obtain ⟨x, hx⟩ : ∃ x, xs.getD j 0 = x := ⟨_, rfl⟩
                rw [hx] at hcj hneg
                clear hall hx
                go_wp2_with fail
                go_round
                case rel =>
                  refine ⟨j + 1, by go_num, by omega, ?_⟩
                  intro k hk
                  by_cases e : k = j
                  · subst e; have := HX.out; omega
                  · exact HALL.out k (by omega)
                case measure => simp [intOf]; omega
            · obtain rfl : j = m + 2 := by omega
              have HV : Hid (validOID xs = true) := Lib.hid (by
                refine HV0.out ?_
                intro v hv
                obtain ⟨k, hk, rfl⟩ := List.mem_iff_getElem.1 hv
                have h := hall k (by have := HN.out; omega)
                rwa [List.getD_eq_getElem?_getD, List.getElem?_eq_getElem hk] at h)
              clear hall hlt hj
              go_wp2_with fail
              go_ret
              exact ⟨by rw [HV.out]; rfl, Only.refl _ _⟩
end Go.Proofs.Ytlnoeipbbncnfaa
