/- The laws on reading numbers: walks. -/
import Derived.Test.YtlnoeipbbncnfaaIm1
import Derived.Test.YtlnoeipbbncnfaaSpec
namespace Go.Proofs.Ytlnoeipbbncnfaa
open Go.RowKit

theorem fits_yes (A : Option Addr) (n c : Nat) (w : World) (h : n ≤ 1048576) : Calls Try.prog 6 #[.slice A n c] w fun e w' => e = .returned (.bool true) ∧ w = w' := by
  have h' : decide ((n : Int) ≤ 1048576) = true := by simp; omega
  go_enter Try.func6, Try.ntmps6
  go_wp2
  go_ret
  exact ⟨rfl, rfl⟩
theorem fits_no (A : Option Addr) (n c : Nat) (w : World) (h : 1048576 < n) : Calls Try.prog 6 #[.slice A n c] w fun e w' => e = .returned (.bool false) ∧ w = w' := by
  have h' : decide ((n : Int) ≤ 1048576) = false := by simp; omega
  go_enter Try.func6, Try.ntmps6
  go_wp2
  go_ret
  exact ⟨rfl, rfl⟩



end Go.Proofs.Ytlnoeipbbncnfaa
