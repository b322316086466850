/- The reference's Same and Number: contracts. -/
import Derived.Test.YtdocgembogocjaaStr
import Derived.Test.YtdocgembogocjaaNum
import Derived.BigQuiet
namespace Go.Proofs.Ytdocgembogocjaa
open Go.RowKit

theorem conv_rd (w : World) (B : Nat) (A : Option Addr) (n c : Nat) (xs : List Int) (h : Rd w B A xs) (hn : n = xs.length) :
    (convert 22 9 (.slice A n c)).run Try.prog w = .ok (.string (strOfNums xs)) w := by
  subst hn
  rcases A with _ | ad
  · have h0 : xs = [] := by
      rcases xs with _ | ⟨x, xs⟩
      · rfl
      · obtain ⟨_, _, e, _⟩ := h.2 (by simp)
        cases e
    subst h0
    exact run_convert_bytes_nil w 22 5 Try.underlying22 Try.underlying5 _ _ 9 Try.underlying9
  · rcases xs with _ | ⟨x, xs⟩
    · show (convert 22 9 (.slice (some ad) 0 c)).run Try.prog w = _
      rw [run_convert_bytes_string w 22 9 5 (some ad) 0 c Try.underlying22 Try.underlying5 Try.underlying9]
      have := run_bytesToString (P := Try.prog) w ad 0 c [] (by simpa using run_loadCells_list (P := Try.prog) w ad [] (by simp))
      exact this
    · obtain ⟨b, off, e, _, hc⟩ := h.2 (by simp)
      replace e := Option.some.inj e
      subst e
      exact run_convert_bytes_arg w 22 5 Try.underlying22 Try.underlying5 b off _ c (x :: xs) rfl hc 9 Try.underlying9

theorem same_yes (A A' : Option Addr) (n n' c c' : Nat) (xs ys : List Int) (w : World) (B B' : Nat) (h : Rd w B A xs) (h' : Rd w B' A' ys) (hn : n = xs.length) (hn' : n' = ys.length) (e : xs = ys) :
    Calls Try.prog 15 #[.slice A n c, .slice A' n' c'] w fun e w' => e = .returned (.bool true) ∧ w = w' := by
  subst e
  have k1 := conv_rd w B A n c xs h hn
  have k2 := conv_rd w B' A' n' c' xs h' hn'
  clear h h' hn hn'
  generalize strOfNums xs = s at *
  go_enter Try.func15, Try.ntmps15
  go_wp2
  go_ret
  exact ⟨by simp, rfl⟩

theorem number_no (A : Option Addr) (n c : Nat) (k : Int) (w : World) (h : (n : Int) < k) :
    Calls Try.prog 22 #[.slice A n c, .int .i64 k] w fun e w' => e = .returned (.tuple #[.int .u64 0, .bool false]) ∧ w = w' := by
  go_enter Try.func22, Try.ntmps22
  go_wp2
  go_ret2
  exact ⟨rfl, rfl⟩

theorem number_ok (A : Option Addr) (n c m : Nat) (xs : List Int) (w : World) (B : Nat) (h : Rd w B A xs) (hn : n = xs.length) (hm : m ≤ xs.length) (h8 : m ≤ 8) (h0 : 1 ≤ m) (hl : xs.length ≤ 140737488355328) :
    Calls Try.prog 22 #[.slice A n c, .int .i64 m] w fun e w' => e = .returned (.tuple #[.int .u64 (beN (xs.take m)), .bool true]) ∧ w = w' := by
  subst hn
  obtain ⟨b, off, rfl, _, hc⟩ := h.2 (by omega)
  have hb := h.byt
  clear h
  have HC := Lib.hid hc
  have HB := Lib.hid hb
  clear hc hb
  go_enter Try.func22, Try.ntmps22
  go_wp2
  go_loop [6, 7] (fun v i => ∃ k : Nat, k ≤ m ∧ i = .int .i64 k ∧ v = .int .u64 (beN (xs.take k))) (fun _ i => m - (intOf i).toNat)
  case atStart => exact ⟨0, Nat.zero_le _, rfl, rfl⟩
  case round =>
    obtain ⟨k, hk, rfl, rfl⟩ := hrel
    by_cases hlt : k < m
    · have hcell := HC.out k (by omega)
      have hx := Byt.getD HB.out k
      have hbd := beN_take_bd xs HB.out k 7 (by omega)
      have hsu := Lib.hid (beN_take_succ xs k (by omega))
      obtain ⟨b0, b1⟩ := hbd
      have b2 : beN (xs.take k) ≤ 72057594037927935 := by have : (256 : Int) ^ 7 = 72057594037927936 := by decide
                                                          omega
      clear b1
      obtain ⟨x0, x1⟩ := hx
      generalize beN (xs.take k) = v at *
      generalize xs.getD k 0 = x at *
      go_wp2
      go_round
      case rel => exact ⟨k + 1, by omega, by go_num, by rw [hsu.out]⟩
      case measure => simp [intOf]; omega
    · have e : k = m := by omega
      subst e
      go_wp2
      go_ret2
      exact ⟨rfl, rfl⟩
end Go.Proofs.Ytdocgembogocjaa
