/- Optional elements: contracts. -/
import Derived.Test.YtlnoeipbbncnfaaOf
namespace Go.Proofs.Ytlnoeipbbncnfaa
open Go.RowKit

/-- What passing an element over, if it is there, should give. -/
def skipOpt (xs : List Int) (tag : Int) : Option (Unit × List Int) := if peek xs tag then (firstOf xs tag).map fun p => ((), p.2) else some ((), xs)
/-- What reading an element, if it is there, should give. -/
def readOpt (ws xs : List Int) (tag : Int) : Option (List Int × List Int) := if peek xs tag then firstOf xs tag else some (ws, xs)
/-- What reading one octet string within an element, if it is there, should give. -/
def octOf (c : List Int) : Option (List Int) := match firstOf c 4 with | some (d, r) => if r = [] then some d else none | none => none
def readOpt8 (xs : List Int) (tag : Int) : Option (List Int × List Int) := if peek xs tag then asOf octOf xs tag else some ([], xs)
theorem readOpt_no {ws xs : List Int} {tag : Int} (h : peek xs tag = false) : readOpt ws xs tag = some (ws, xs) := by unfold readOpt; rw [h]; rfl
theorem readOpt_yes {ws xs : List Int} {tag : Int} (h : peek xs tag = true) : readOpt ws xs tag = firstOf xs tag := by unfold readOpt; rw [h]; rfl
theorem readOpt8_no {xs : List Int} {tag : Int} (h : peek xs tag = false) : readOpt8 xs tag = some ([], xs) := by unfold readOpt8; rw [h]; rfl
theorem readOpt8_yes {xs : List Int} {tag : Int} (h : peek xs tag = true) : readOpt8 xs tag = asOf octOf xs tag := by unfold readOpt8; rw [h]; rfl
theorem skipOpt_no {xs : List Int} {tag : Int} (h : peek xs tag = false) : skipOpt xs tag = some ((), xs) := by unfold skipOpt; rw [h]; rfl
theorem skipOpt_yes {xs : List Int} {tag : Int} (h : peek xs tag = true) : skipOpt xs tag = (firstOf xs tag).map fun p => ((), p.2) := by unfold skipOpt; rw [h]; rfl

theorem peek_yes {xs : List Int} {tag : Int} (h : peek xs tag = true) : 0 < xs.length ∧ xs.getD 0 0 = tag := by
  unfold peek at h
  simpa only [Bool.and_eq_true, decide_eq_true_eq] using h
theorem peek_no {xs : List Int} {tag : Int} (h : peek xs tag = false) : xs.length = 0 ∨ (0 < xs.length ∧ xs.getD 0 0 ≠ tag) := by
  rcases Nat.eq_zero_or_pos xs.length with h0 | h0
  · exact .inl h0
  · refine .inr ⟨h0, fun e => ?_⟩
    unfold peek at h
    rw [decide_eq_true h0, decide_eq_true e] at h
    cases h




end Go.Proofs.Ytlnoeipbbncnfaa
