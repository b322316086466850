/- The reference's readers of contents: contracts. -/
import Derived.Test.YthlnlbofbinjhaaSpec3
import Derived.Test.YthlnlbofbinjhaaInt
import Derived.Test.YthlnlbofbinjhaaMth
namespace Go.Proofs.Ythlnlbofbinjhaa
open Go.RowKit

theorem boolOf_any (A : Option Addr) (n c : Nat) (xs : List Int) (w : World) (B : Nat) (h : Rd w B A xs) (hn : n = xs.length) :
    Calls Try.prog 23 #[.slice A n c] w fun e w' => e = .returned (.tuple #[.bool ((boolOf xs).getD false), .bool (boolOf xs).isSome]) ∧ w = w' := by
  subst hn
  by_cases h1 : xs.length = 1
  · obtain ⟨ab, aoff, rfl, hab, hcells⟩ := h.2 (by omega)
    have hcell0 := hcells 0 (by omega)
    rw [Nat.add_zero] at hcell0
    have hz1 : ((xs.length : Int) != 1) = false := by simp [h1]
    have hp0 : 0 < xs.length := by omega
    by_cases h0 : xs.getD 0 0 = 0
    · have HV : Hid (boolOf xs = some false) := Lib.hid (by unfold boolOf; rw [if_neg (by omega), if_pos h0])
      rw [h0] at hcell0
      clear h hcells h1 h0
      go_enter Try.func23, Try.ntmps23
      go_wp2_with fail
      go_ret2
      exact ⟨by rw [HV.out]; rfl, rfl⟩
    · by_cases h255 : xs.getD 0 0 = 255
      · have HV : Hid (boolOf xs = some true) := Lib.hid (by unfold boolOf; rw [if_neg (by omega), if_neg h0, if_pos h255])
        rw [h255] at hcell0
        clear h hcells h1 h0 h255
        go_enter Try.func23, Try.ntmps23
        go_wp2_with fail
        go_ret2
        exact ⟨by rw [HV.out]; rfl, rfl⟩
      · have HV : Hid (boolOf xs = none) := Lib.hid (by unfold boolOf; rw [if_neg (by omega), if_neg h0, if_neg h255])
        have hq0 : (xs.getD 0 0 != 0) = true := by simpa using h0
        have hq1 : (xs.getD 0 0 != 255) = true := by simpa using h255
        clear h hcells h1 h0 h255
        generalize xs.getD 0 0 = a0 at *
        go_enter Try.func23, Try.ntmps23
        go_wp2_with fail
        go_ret2
        exact ⟨by rw [HV.out]; rfl, rfl⟩
  · have hz1 : ((xs.length : Int) != 1) = true := by simp; omega
    have HV : Hid (boolOf xs = none) := Lib.hid (by unfold boolOf; rw [if_pos h1])
    clear h h1
    go_enter Try.func23, Try.ntmps23
    go_wp2_with fail
    go_ret2
    exact ⟨by rw [HV.out]; rfl, rfl⟩



end Go.Proofs.Ythlnlbofbinjhaa
