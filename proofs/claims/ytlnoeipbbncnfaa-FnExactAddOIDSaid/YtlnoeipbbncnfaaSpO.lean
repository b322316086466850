/- The reference's number in base 128: contract. -/
import Derived.Test.YtlnoeipbbncnfaaSpB
import Derived.Test.YtlnoeipbbncnfaaOid
namespace Go.Proofs.Ytlnoeipbbncnfaa
open Go.RowKit

theorem base128_any (n : Int) (w : World) (h0 : 0 ≤ n) (h1 : n ≤ 4294967295) :
    Calls Try.prog 26 #[.int .i64 n] w (Copied w (b128 n)) := by
  have hL := l7_bd n
  have hLe := Lib.hid (fun j hj => l7_le n h0 (by omega) j hj)
  have HRG := Lib.hid (And.intro h0 h1)
  have hx0 : Byt [n % 128] := by
    intro x hx
    simp only [List.mem_singleton] at hx
    omega
  have HS := Lib.hid (Row.lit w w.heap.size [n % 128] (Nat.le_refl _) hx0 (by unfold maxLen; simp))
  clear hx0
  obtain ⟨L, hLL⟩ : ∃ L, l7 n = L := ⟨_, rfl⟩
  rw [hLL] at hL hLe
  have HLL := Lib.hid hLL
  clear hLL
  obtain ⟨hL1, hL5⟩ := hL
  go_enter Try.func26, Try.ntmps26
  go_wp2_with fail
  go_loopw [0, 3] (fun i o W => ∃ j : Nat, i = .int .i64 (n / 128 ^ (j + 1)) ∧ j + 1 ≤ L ∧ Row W w.heap.size o (big7 (n / 128) j ++ [n % 128]) ∧ Only [] w W) (fun i _ _ => (intOf i).toNat)
  case atStart => exact ⟨0, by simp, hL1, HS.out, (Only.refl _ _).alloc _⟩
  case round =>
    obtain ⟨j, rfl, hj, hrow, hk⟩ := hrel
    have hle := hLe.out j (by omega)
    have g0 : 0 ≤ n / 128 ^ (j + 1) := Int.ediv_nonneg h0 (Int.le_of_lt (Int.pow_pos (by decide)))
    have g1 : n / 128 ^ (j + 1) ≤ 4294967295 := Int.le_trans (Int.ediv_le_self _ h0) h1
    have HRow := Lib.hid hrow
    have HK := Lib.hid hk
    by_cases hlt : j + 1 < L
    · have hpos : 0 < n / 128 ^ (j + 1) := by
        rcases Int.lt_or_eq_of_le g0 with h | h
        · exact h
        · have := hle.1 h.symm
          omega
      obtain ⟨q, hq⟩ : ∃ q, n / 128 ^ (j + 1) = q := ⟨_, rfl⟩
      rw [hq] at g0 g1 hpos ⊢
      have HQ := Lib.hid hq
      have hx : Byt [128 + q % 128] := by
        intro x hx
        simp only [List.mem_singleton] at hx
        omega
      have hmod : (128 + q % 128) % 256 = 128 + q % 128 := by omega
      have HX := Lib.hid (Row.lit wr w.heap.size [128 + q % 128] HK.out.size hx (by unfold maxLen; simp))
      obtain ⟨A5, c5, rfl, hc5, hm5, hA5⟩ := hrow.form
      have hlb : (big7 (n / 128) j ++ [n % 128]).length = j + 1 := by rw [List.length_append, big7_len]; rfl
      have HLB := Lib.hid hlb
      rw [hlb] at hc5 HRow ⊢
      have HRA := Lib.hid ((HRow.out.alloc (.cells ([128 + q % 128].map (Value.int .u8)).toArray 5)).rd hlb.symm)
      have hj5 : j + 1 ≤ 5 := by omega
      have HJ := Lib.hid hlt
      clear hle hj hrow hk hq hx hlb hc5 hm5 hA5 hlt
      go_wp2_with (at_builtin; refine wpList_row rfl (.tmp 18) (.tmp 19) rfl rfl w.heap.size _ _ [128 + q % 128] (big7 (n / 128) j ++ [n % 128]) A5 (j + 1) c5 rfl rfl HX.out HRA.out HLB.out.symm ?c1 ?c2 ?_)
      case c1 => have := HK.out.size; simp; omega
      case c2 => rw [HLB.out]; show 1 + (j + 1) ≤ 140737488355328; omega
      intro v' w1 hr1 hk1 _
      have HR1 := Lib.hid hr1
      have HK1 := Lib.hid hk1
      clear hr1 hk1
      go_wp2_with fail
      go_roundw
      case rel =>
        have e1 : n / 128 ^ (j + 1 + 1) = q / 128 := by rw [← HQ.out, Int.ediv_ediv_of_nonneg (Int.le_of_lt (Int.pow_pos (by decide))), ← Int.pow_succ]
        have e2 : n / 128 / 128 ^ j = q := by rw [← HQ.out, Int.ediv_ediv_of_nonneg (by decide), Int.pow_succ, Int.mul_comm]
        refine ⟨j + 1, by rw [e1], by have := HJ.out; omega, ?_, ?_⟩
        · rw [big7_cons, e2]
          exact HR1.out
        · refine ((HK.out.alloc _).then HK1.out ?_)
          intro i hi hlt
          have := HK.out.size
          simp [own, Value.ownBlock] at hi
          omega
      case measure => first | (simp [intOf]; omega) | omega | (show (q / 128).toNat < q.toNat; omega)
    · obtain rfl : L = j + 1 := by omega
      rw [hle.2 (Nat.le_refl _)]
      clear hle hlt hrow hk hj g0 g1
      go_wp2_with fail
      go_ret
      have h := HRow.out
      have e : b128 n = big7 (n / 128) j ++ [n % 128] := by unfold b128; rw [HLL.out]; rfl
      rw [← e] at h
      exact h.copied' HK.out
end Go.Proofs.Ytlnoeipbbncnfaa
