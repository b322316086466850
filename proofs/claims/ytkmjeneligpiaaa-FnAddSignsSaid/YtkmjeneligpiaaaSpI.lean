/- The reference's contents of integers: contracts. -/
import Derived.Test.YtkmjeneligpiaaaSpB
import Derived.Test.YtkmjeneligpiaaaEnc2
namespace Go.Proofs.Ytkmjeneligpiaaa
open Go.RowKit

theorem octets_any (v : Int) (w : World) (h0 : -9223372036854775808 ≤ v) (h1 : v ≤ 9223372036854775807) :
    Calls Try.prog 30 #[.int .i64 v] w (Copied w (octs v)) := by
  have hL := (iL_is v h0 h1).1
  have hLe := Lib.hid (fun j => iL_le v h0 h1 j)
  have HRG := Lib.hid (And.intro h0 h1)
  have hx0 : Byt [v % 256] := by
    intro x hx
    simp only [List.mem_singleton] at hx
    omega
  have HS := Lib.hid (Row.lit w w.heap.size [v % 256] (Nat.le_refl _) hx0 (by unfold maxLen; simp))
  clear hx0 h0 h1
  obtain ⟨L, hLL⟩ : ∃ L, iL v = L := ⟨_, rfl⟩
  rw [hLL] at hL hLe
  have HLL := Lib.hid hLL
  clear hLL
  obtain ⟨hL1, hL8⟩ := hL
  go_enter Try.func30, Try.ntmps30
  go_wp2_with fail
  go_loopw [3, 4] (fun o i W => ∃ j : Nat, i = .int .i64 (v / 256 ^ j) ∧ j + 1 ≤ L ∧ Row W w.heap.size o (bigB v (j + 1)) ∧ Only [] w W) (fun _ i _ => (intOf i).natAbs)
  case atStart => exact ⟨0, by simp, hL1, HS.out, (Only.refl _ _).alloc _⟩
  case round =>
    obtain ⟨j, rfl, hj, hrow, hk⟩ := hrel
    have hle := hLe.out j
    have hrg : -9223372036854775808 ≤ v / 256 ^ j ∧ v / 256 ^ j ≤ 9223372036854775807 := by
      have hp : (0 : Int) < 256 ^ j := Int.pow_pos (by decide)
      have h := HRG.out
      constructor
      · rw [Int.le_ediv_iff_mul_le hp]
        have : (1 : Int) ≤ 256 ^ j := by omega
        have h2 : (9223372036854775808 : Int) * 1 ≤ 9223372036854775808 * 256 ^ j := Int.mul_le_mul_of_nonneg_left this (by decide)
        omega
      · have : v / 256 ^ j < 9223372036854775808 := by
          rw [Int.ediv_lt_iff_lt_mul hp]
          have : (1 : Int) ≤ 256 ^ j := by omega
          have h2 : (9223372036854775808 : Int) * 1 ≤ 9223372036854775808 * 256 ^ j := Int.mul_le_mul_of_nonneg_left this (by decide)
          omega
        omega
    obtain ⟨g0, g1⟩ := hrg
    have HRow := Lib.hid hrow
    have HK := Lib.hid hk
    by_cases hlt : j + 1 < L
    · have hout : ¬ (-128 ≤ v / 256 ^ j ∧ v / 256 ^ j ≤ 127) := fun h => by have := hle.1 h; omega
      obtain ⟨q, hq⟩ : ∃ q, v / 256 ^ j = q := ⟨_, rfl⟩
      rw [hq] at g0 g1 hout ⊢
      have HQ := Lib.hid hq
      by_cases hp : 127 < q
      · skip
        have hx : Byt [q / 256 % 256] := by
          intro x hx
          simp only [List.mem_singleton] at hx
          omega
        have HX := Lib.hid (Row.lit wr w.heap.size [q / 256 % 256] HK.out.size hx (by unfold maxLen; simp))
        obtain ⟨A5, c5, rfl, hc5, hm5, hA5⟩ := hrow.form
        have hlb := bigB_len (j + 1) v
        rw [hlb] at hc5 HRow ⊢
        have HRA := Lib.hid ((HRow.out.alloc (.cells ([q / 256 % 256].map (Value.int .u8)).toArray 5)).rd hlb.symm)
        have hj8 : j + 1 ≤ 8 := by omega
        have HJ := Lib.hid hlt
        clear hle hout hj hrow hk hq hx hlb hc5 hm5 hA5 hlt
        go_wp2_with (at_builtin; refine wpList_row rfl (.tmp 19) (.tmp 20) rfl rfl w.heap.size _ _ [q / 256 % 256] (bigB v (j + 1)) A5 (j + 1) c5 rfl rfl HX.out HRA.out (bigB_len _ _).symm ?c1 ?c2 ?_)
        case c1 => have := HK.out.size; simp; omega
        case c2 => rw [bigB_len]; show 1 + (j + 1) ≤ 140737488355328; omega
        intro v' w1 hr1 hk1 _
        have HR1 := Lib.hid hr1
        have HK1 := Lib.hid hk1
        clear hr1 hk1
        go_wp2_with fail
        go_roundw
        case rel =>
          have e1 : v / 256 ^ (j + 1) = q / 256 := by rw [← HQ.out, Int.ediv_ediv_of_nonneg (Int.le_of_lt (Int.pow_pos (by decide))), ← Int.pow_succ]
          refine ⟨j + 1, by rw [e1], by have := HJ.out; omega, ?_, ?_⟩
          · rw [bigB_cons, e1]
            exact HR1.out
          · refine ((HK.out.alloc _).then HK1.out ?_)
            intro i hi hlt
            have := HK.out.size
            simp [own, Value.ownBlock] at hi
            omega
        case measure => first | (simp [intOf]; omega) | omega | (show (q / 256).natAbs < q.natAbs; omega)
      · have hm : q < -128 := by omega
        have hx : Byt [q / 256 % 256] := by
          intro x hx
          simp only [List.mem_singleton] at hx
          omega
        have HX := Lib.hid (Row.lit wr w.heap.size [q / 256 % 256] HK.out.size hx (by unfold maxLen; simp))
        obtain ⟨A5, c5, rfl, hc5, hm5, hA5⟩ := hrow.form
        have hlb := bigB_len (j + 1) v
        rw [hlb] at hc5 HRow ⊢
        have HRA := Lib.hid ((HRow.out.alloc (.cells ([q / 256 % 256].map (Value.int .u8)).toArray 5)).rd hlb.symm)
        have hj8 : j + 1 ≤ 8 := by omega
        have HJ := Lib.hid hlt
        clear hle hout hj hrow hk hq hx hlb hc5 hm5 hA5 hlt
        go_wp2_with (at_builtin; refine wpList_row rfl (.tmp 19) (.tmp 20) rfl rfl w.heap.size _ _ [q / 256 % 256] (bigB v (j + 1)) A5 (j + 1) c5 rfl rfl HX.out HRA.out (bigB_len _ _).symm ?c1 ?c2 ?_)
        case c1 => have := HK.out.size; simp; omega
        case c2 => rw [bigB_len]; show 1 + (j + 1) ≤ 140737488355328; omega
        intro v' w1 hr1 hk1 _
        have HR1 := Lib.hid hr1
        have HK1 := Lib.hid hk1
        clear hr1 hk1
        go_wp2_with fail
        go_roundw
        case rel =>
          have e1 : v / 256 ^ (j + 1) = q / 256 := by rw [← HQ.out, Int.ediv_ediv_of_nonneg (Int.le_of_lt (Int.pow_pos (by decide))), ← Int.pow_succ]
          refine ⟨j + 1, by rw [e1], by have := HJ.out; omega, ?_, ?_⟩
          · rw [bigB_cons, e1]
            exact HR1.out
          · refine ((HK.out.alloc _).then HK1.out ?_)
            intro i hi hlt
            have := HK.out.size
            simp [own, Value.ownBlock] at hi
            omega
        case measure => first | (simp [intOf]; omega) | omega | (show (q / 256).natAbs < q.natAbs; omega)
    · obtain rfl : L = j + 1 := by omega
      obtain ⟨i0, i1⟩ := hle.2 (Nat.le_refl _)
      obtain ⟨q, hq⟩ : ∃ q, v / 256 ^ j = q := ⟨_, rfl⟩
      rw [hq] at g0 g1 i0 i1 ⊢
      have t1 : ¬ (127 : Int) < q := by omega
      have t2 : ¬ q < -128 := by omega
      clear hq hle hlt hrow hk hj
      go_wp2_with fail
      go_ret
      have h := HRow.out
      rw [← HLL.out] at h
      exact h.copied' HK.out

theorem intContents_any (v : Int) (w : World) (h0 : -9223372036854775808 ≤ v) (h1 : v ≤ 9223372036854775807) :
    Calls Try.prog 13 #[.int .i64 v] w (Copied w (octs v)) := by
  have H := Lib.hid (octets_any v w h0 h1)
  clear h0 h1
  go_enter Try.func13, Try.ntmps13
  go_wp2_with fail
  refine H.out.mono ?_
  rintro e w1 ⟨A, c, rfl, h1, h2, h3, h4⟩
  have HQ := Lib.hid (And.intro h1 (And.intro h2 (And.intro h3 h4)))
  clear h1 h2 h3 h4 H
  go_wp2_with fail
  go_ret
  exact ⟨A, c, rfl, HQ.out⟩

end Go.Proofs.Ytkmjeneligpiaaa
