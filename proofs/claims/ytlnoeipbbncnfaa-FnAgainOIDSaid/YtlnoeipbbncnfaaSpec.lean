/- The reference's Same and Number: contracts. -/
import Derived.Test.YtlnoeipbbncnfaaStr
import Derived.Test.YtlnoeipbbncnfaaNum
import Derived.BigQuiet
namespace Go.Proofs.Ytlnoeipbbncnfaa
open Go.RowKit

theorem conv_rd (w : World) (B : Nat) (A : Option Addr) (n c : Nat) (xs : List Int) (h : Rd w B A xs) (hn : n = xs.length) :
    (convert 22 9 (.slice A n c)).run Try.prog w = .ok (.string (strOfNums xs)) w := by
  subst hn
  rcases A with _ | ad
  · have h0 : xs = [] := by
      rcases xs with _ | ⟨x, xs⟩
      · rfl
      · obtain ⟨_, _, e, _⟩ := h.2 (by simp)
        cases e
    subst h0
    exact run_convert_bytes_nil w 22 5 Try.underlying22 Try.underlying5 _ _ 9 Try.underlying9
  · rcases xs with _ | ⟨x, xs⟩
    · show (convert 22 9 (.slice (some ad) 0 c)).run Try.prog w = _
      rw [run_convert_bytes_string w 22 9 5 (some ad) 0 c Try.underlying22 Try.underlying5 Try.underlying9]
      have := run_bytesToString (P := Try.prog) w ad 0 c [] (by simpa using run_loadCells_list (P := Try.prog) w ad [] (by simp))
      exact this
    · obtain ⟨b, off, e, _, hc⟩ := h.2 (by simp)
      replace e := Option.some.inj e
      subst e
      exact run_convert_bytes_arg w 22 5 Try.underlying22 Try.underlying5 b off _ c (x :: xs) rfl hc 9 Try.underlying9

theorem same_yes (A A' : Option Addr) (n n' c c' : Nat) (xs ys : List Int) (w : World) (B B' : Nat) (h : Rd w B A xs) (h' : Rd w B' A' ys) (hn : n = xs.length) (hn' : n' = ys.length) (e : xs = ys) :
    Calls Try.prog 11 #[.slice A n c, .slice A' n' c'] w fun e w' => e = .returned (.bool true) ∧ w = w' := by
  subst e
  have k1 := conv_rd w B A n c xs h hn
  have k2 := conv_rd w B' A' n' c' xs h' hn'
  clear h h' hn hn'
  generalize strOfNums xs = s at *
  go_enter Try.func11, Try.ntmps11
  go_wp2
  go_ret
  exact ⟨by simp, rfl⟩


end Go.Proofs.Ytlnoeipbbncnfaa
