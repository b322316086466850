/- The reference's arcs of an object identifier: contracts. -/
import Derived.Test.YtlnoeipbbncnfaaRws
import Derived.Test.YtlnoeipbbncnfaaOid
import Derived.Test.YtlnoeipbbncnfaaStr
namespace Go.Proofs.Ytlnoeipbbncnfaa
open Go.RowKit

theorem RdI.one (w : World) (x : Int) (h0 : -9223372036854775808 ≤ x) (h1 : x ≤ 9223372036854775807) : RdI (w.alloc (.cells #[.int .i64 x] 3)) (w.heap.size + 1) (some ⟨w.heap.size, 0, none⟩) [x] := by
  refine ⟨fun y hy => ?_, fun _ => ⟨w.heap.size, 0, rfl, by omega, fun i hi => ?_⟩⟩
  · simp only [List.mem_singleton] at hy
    omega
  · have : i = 0 := by simp at hi; omega
    subst this
    exact (Var.new w 3 (.int .i64 x)).cell
theorem sa_cons {b : Int} {bs l : List Int} {g ins : Bool} {n : Int} (h : ¬ (ins = false ∧ b = 128)) : sa (b :: bs) l g n ins =
    if b < 128 then sa bs (l ++ [if 2147483647 < n * 128 + b % 128 then 2147483648 else n * 128 + b % 128]) (g || decide (2147483647 < n * 128 + b % 128)) 0 false else sa bs l (g || decide (2147483647 < n * 128 + b % 128)) (if 2147483647 < n * 128 + b % 128 then 2147483648 else n * 128 + b % 128) true := by
  conv => lhs; unfold sa
  rw [if_neg h]
theorem sa_bad {b : Int} {bs l : List Int} {g ins : Bool} {n : Int} (h : ins = false ∧ b = 128) : sa (b :: bs) l g n ins = ([], false, false) := by
  unfold sa
  rw [if_pos h]

/-- What the reference's arcs tells. -/
def ArcsSaid (w : World) (xs : List Int) (R : List Int × Bool × Bool) (e : Ending) (w' : World) : Prop :=
  ∃ v, e = .returned (.tuple #[v, .bool R.2.1, .bool (decide (0 < xs.length) && R.2.2)]) ∧ RowI w' w.heap.size v R.1 ∧ Only [] w w'

set_option maxHeartbeats 1600000 in
theorem arcs_any (A : Option Addr) (n c : Nat) (xs : List Int) (w : World) (h : Rd w w.heap.size A xs) (hn : n = xs.length) (hb : xs.length ≤ 4194304) :
    Calls Try.prog 22 #[.slice A n c] w (ArcsSaid w xs (sa xs [] false 0 false)) := by
  subst hn
  have HH := Lib.hid h
  have HY := Lib.hid h.byt
  clear h
  go_enter Try.func22, Try.ntmps22
  go_wp2_with fail
  go_loopw [2, 3, 5, 6, 7] (fun list large nn ins i W' => ∃ (j : Nat) (l : List Int) (g : Bool) (m : Int) (b : Bool), large = .bool g ∧ nn = .int .i64 m ∧ ins = .bool b ∧ i = .int .i64 (j : Int) ∧ j ≤ xs.length ∧ RowI W' w.heap.size list l ∧ l.length ≤ j ∧ 0 ≤ m ∧ m ≤ 2147483648 ∧ sa xs [] false 0 false = sa (xs.drop j) l g m b ∧ Only [] w W') (fun _ _ _ _ i _ => xs.length - (intOf i).toNat)
  case atStart => exact ⟨0, [], false, 0, false, rfl, by simp, rfl, by simp, Nat.zero_le _, RowI.nil _ _, by simp, by omega, by omega, rfl, Only.refl _ _⟩
  case round =>
    obtain ⟨j, l, g, m, b, rfl, rfl, rfl, rfl, hj, hrow, hll, m0, m1, hsa, hk⟩ := hrel
    obtain ⟨Al, cl, rfl, _, _, _⟩ := hrow.form
    have HROW := Lib.hid hrow
    have HK := Lib.hid hk
    have HSA := Lib.hid hsa
    by_cases hlt : j < xs.length
    · have hij : (j : Int) < (xs.length : Int) := by omega
      obtain ⟨ab, aoff, rfl, hab, hcells⟩ := (HH.out.only hk (by simp) (Nat.le_refl _)).2 (by omega)
      have hcx := hcells j hlt
      obtain ⟨x0, x1⟩ := Byt.getD HY.out j
      have hdrop : xs.drop j = xs.getD j 0 :: xs.drop (j + 1) := by
        rw [List.drop_eq_getElem_cons hlt]
        simp [List.getD_eq_getElem?_getD, List.getElem?_eq_getElem hlt]
      rw [hdrop] at hsa
      have HSA1 := Lib.hid hsa
      have HLT := Lib.hid hlt
      have HLL := Lib.hid hll
      have hjm : (j : Int) ≤ 4194304 := by omega
      have hlen1 : (xs.length : Int) ≤ 4194304 := by omega
      clear hcells hdrop hsa hlt hll hj hrow hk
      obtain ⟨x, hx⟩ : ∃ x, xs.getD j 0 = x := ⟨_, rfl⟩
      rw [hx] at hcx x0 x1 HSA1
      clear hx
      by_cases hbad : b = false ∧ x = 128
      · obtain ⟨rfl, rfl⟩ := hbad
        have HR : Hid (sa xs [] false 0 false = ([], false, false)) := Lib.hid (HSA1.out.trans (sa_bad ⟨rfl, rfl⟩))
        go_wp2_with fail
        go_ret3
        exact ⟨.slice none 0 0, by rw [HR.out]; simp, by rw [HR.out]; exact RowI.nil _ _, HK.out⟩
      · have HST := Lib.hid (HSA1.out.trans (sa_cons hbad))
        have hw1 : IntKind.i64.wrap (m * 128) = m * 128 := IntWalk.i64_in _ (by omega)
        have hw2 : IntKind.i64.wrap (m * 128 + x % 128) = m * 128 + x % 128 := IntWalk.i64_in _ (by omega)
        have hq0 : 0 ≤ x % 128 := by omega
        have hq1 : x % 128 < 128 := by omega
        have hm128 : x.tmod 128 = x % 128 := Int.tmod_eq_emod_of_nonneg x0
        obtain ⟨q, hq⟩ : ∃ q, x % 128 = q := ⟨_, rfl⟩
        rw [hq] at HST hw2 hq0 hq1 hm128
        have HQ := Lib.hid hq
        have HXB := Lib.hid hbad
        clear hq HSA1
        have APP : Hid (∀ z : Int, 0 ≤ z → z ≤ 2147483648 → RdI (wr.alloc (.cells #[.int .i64 z] 3)) (wr.heap.size + 1) (some ⟨wr.heap.size, 0, none⟩) [z]) := Lib.hid (fun z h0 h1 => RdI.one wr z (by omega) (by omega))
        have APR := Lib.hid (HROW.out.only (l := []) ((Only.refl _ _).alloc (.cells #[.int .i64 0] 3)) (by simp))
        by_cases hbig : 2147483647 < m * 128 + q
        · have HS2 : Hid (sa xs [] false 0 false = if x < 128 then sa (xs.drop (j + 1)) (l ++ [2147483648]) true 0 false else sa (xs.drop (j + 1)) l true 2147483648 true) := Lib.hid (by rw [HST.out, if_pos hbig]; simp [hbig])
          by_cases h128 : x < 128
          · have hx2 : ¬ 128 ≤ x := by omega
            have HS3 : Hid (sa xs [] false 0 false = sa (xs.drop (j + 1)) (l ++ [2147483648]) true 0 false) := Lib.hid (by rw [HS2.out, if_pos h128])
            cases b with
            | false =>
              have hx8 : (x == 128) = false := by simp; omega
              clear HXB HST HS2
              go_wp2_with (at_builtin; refine wpList_rowI rfl _ _ rfl rfl w.heap.size (wr.heap.size + 1) (.slice Al l.length cl) l [2147483648] (some ⟨wr.heap.size, 0, none⟩) 1 _ rfl rfl ?c0 (APP.out _ (by omega) (by omega)) rfl ?c1 ?c2 ?_)
              case c0 => exact HROW.out.only (l := []) ((Only.refl _ _).alloc _) (by simp)
              case c1 => have := HK.out.size; simp; omega
              case c2 => have := HLL.out; simp; omega
              intro v' w3 hr3 hk3 _
              obtain ⟨A3, c3, rfl, _, _, _⟩ := hr3.form
              have HR3 := Lib.hid hr3
              have HK3 : Hid (Only [] w w3) := Lib.hid ((HK.out.alloc _).then hk3 (by
                intro i hi hlt
                have := HROW.out.low i hi
                omega))
              clear hr3 hk3
              go_wp2_with fail
              go_roundw
              case rel => exact ⟨j + 1, l ++ [2147483648], true, 0, false, rfl, rfl, rfl, by go_num, HLT.out, HR3.out, by have := HLL.out; simp; omega, by omega, by omega, HS3.out, HK3.out⟩
              case measure => simp [intOf]; have := HLT.out; omega
            | true =>
              clear HXB HST HS2
              go_wp2_with (at_builtin; refine wpList_rowI rfl _ _ rfl rfl w.heap.size (wr.heap.size + 1) (.slice Al l.length cl) l [2147483648] (some ⟨wr.heap.size, 0, none⟩) 1 _ rfl rfl ?c0 (APP.out _ (by omega) (by omega)) rfl ?c1 ?c2 ?_)
              case c0 => exact HROW.out.only (l := []) ((Only.refl _ _).alloc _) (by simp)
              case c1 => have := HK.out.size; simp; omega
              case c2 => have := HLL.out; simp; omega
              intro v' w3 hr3 hk3 _
              obtain ⟨A3, c3, rfl, _, _, _⟩ := hr3.form
              have HR3 := Lib.hid hr3
              have HK3 : Hid (Only [] w w3) := Lib.hid ((HK.out.alloc _).then hk3 (by
                intro i hi hlt
                have := HROW.out.low i hi
                omega))
              clear hr3 hk3
              go_wp2_with fail
              go_roundw
              case rel => exact ⟨j + 1, l ++ [2147483648], true, 0, false, rfl, rfl, rfl, by go_num, HLT.out, HR3.out, by have := HLL.out; simp; omega, by omega, by omega, HS3.out, HK3.out⟩
              case measure => simp [intOf]; have := HLT.out; omega
          · have hx2 : 128 ≤ x := by omega
            have HS3 : Hid (sa xs [] false 0 false = sa (xs.drop (j + 1)) l true 2147483648 true) := Lib.hid (by rw [HS2.out, if_neg h128])
            cases b with
            | false =>
              have hx8 : (x == 128) = false := by simp; have := HXB.out; simp at this; omega
              clear HXB HST HS2
              go_wp2_with fail
              go_roundw
              case rel => exact ⟨j + 1, l, true, 2147483648, true, rfl, rfl, rfl, by go_num, HLT.out, HROW.out, by have := HLL.out; omega, by omega, by omega, HS3.out, HK.out⟩
              case measure => simp [intOf]; have := HLT.out; omega
            | true =>
              clear HXB HST HS2
              go_wp2_with fail
              go_roundw
              case rel => exact ⟨j + 1, l, true, 2147483648, true, rfl, rfl, rfl, by go_num, HLT.out, HROW.out, by have := HLL.out; omega, by omega, by omega, HS3.out, HK.out⟩
              case measure => simp [intOf]; have := HLT.out; omega
        · have HS2 : Hid (sa xs [] false 0 false = if x < 128 then sa (xs.drop (j + 1)) (l ++ [m * 128 + q]) g 0 false else sa (xs.drop (j + 1)) l g (m * 128 + q) true) := Lib.hid (by rw [HST.out, if_neg hbig]; simp [hbig])
          have hz0 : 0 ≤ m * 128 + q := by omega
          have hz1 : m * 128 + q ≤ 2147483648 := by omega
          by_cases h128 : x < 128
          · have hx2 : ¬ 128 ≤ x := by omega
            have HS3 : Hid (sa xs [] false 0 false = sa (xs.drop (j + 1)) (l ++ [m * 128 + q]) g 0 false) := Lib.hid (by rw [HS2.out, if_pos h128])
            cases b with
            | false =>
              have hx8 : (x == 128) = false := by simp; omega
              clear HXB HST HS2
              go_wp2_with (at_builtin; refine wpList_rowI rfl _ _ rfl rfl w.heap.size (wr.heap.size + 1) (.slice Al l.length cl) l [m * 128 + q] (some ⟨wr.heap.size, 0, none⟩) 1 _ rfl rfl ?c0 (APP.out _ (by omega) (by omega)) rfl ?c1 ?c2 ?_)
              case c0 => exact HROW.out.only (l := []) ((Only.refl _ _).alloc _) (by simp)
              case c1 => have := HK.out.size; simp; omega
              case c2 => have := HLL.out; simp; omega
              intro v' w3 hr3 hk3 _
              obtain ⟨A3, c3, rfl, _, _, _⟩ := hr3.form
              have HR3 := Lib.hid hr3
              have HK3 : Hid (Only [] w w3) := Lib.hid ((HK.out.alloc _).then hk3 (by
                intro i hi hlt
                have := HROW.out.low i hi
                omega))
              clear hr3 hk3
              go_wp2_with fail
              go_roundw
              case rel => exact ⟨j + 1, l ++ [m * 128 + q], g, 0, false, rfl, rfl, rfl, by go_num, HLT.out, HR3.out, by have := HLL.out; simp; omega, by omega, by omega, HS3.out, HK3.out⟩
              case measure => simp [intOf]; have := HLT.out; omega
            | true =>
              clear HXB HST HS2
              go_wp2_with (at_builtin; refine wpList_rowI rfl _ _ rfl rfl w.heap.size (wr.heap.size + 1) (.slice Al l.length cl) l [m * 128 + q] (some ⟨wr.heap.size, 0, none⟩) 1 _ rfl rfl ?c0 (APP.out _ (by omega) (by omega)) rfl ?c1 ?c2 ?_)
              case c0 => exact HROW.out.only (l := []) ((Only.refl _ _).alloc _) (by simp)
              case c1 => have := HK.out.size; simp; omega
              case c2 => have := HLL.out; simp; omega
              intro v' w3 hr3 hk3 _
              obtain ⟨A3, c3, rfl, _, _, _⟩ := hr3.form
              have HR3 := Lib.hid hr3
              have HK3 : Hid (Only [] w w3) := Lib.hid ((HK.out.alloc _).then hk3 (by
                intro i hi hlt
                have := HROW.out.low i hi
                omega))
              clear hr3 hk3
              go_wp2_with fail
              go_roundw
              case rel => exact ⟨j + 1, l ++ [m * 128 + q], g, 0, false, rfl, rfl, rfl, by go_num, HLT.out, HR3.out, by have := HLL.out; simp; omega, by omega, by omega, HS3.out, HK3.out⟩
              case measure => simp [intOf]; have := HLT.out; omega
          · have hx2 : 128 ≤ x := by omega
            have HS3 : Hid (sa xs [] false 0 false = sa (xs.drop (j + 1)) l g (m * 128 + q) true) := Lib.hid (by rw [HS2.out, if_neg h128])
            cases b with
            | false =>
              have hx8 : (x == 128) = false := by simp; have := HXB.out; simp at this; omega
              clear HXB HST HS2
              go_wp2_with fail
              go_roundw
              case rel => exact ⟨j + 1, l, g, m * 128 + q, true, rfl, rfl, rfl, by go_num, HLT.out, HROW.out, by have := HLL.out; omega, by omega, by omega, HS3.out, HK.out⟩
              case measure => simp [intOf]; have := HLT.out; omega
            | true =>
              clear HXB HST HS2
              go_wp2_with fail
              go_roundw
              case rel => exact ⟨j + 1, l, g, m * 128 + q, true, rfl, rfl, rfl, by go_num, HLT.out, HROW.out, by have := HLL.out; omega, by omega, by omega, HS3.out, HK.out⟩
              case measure => simp [intOf]; have := HLT.out; omega
    · obtain rfl : j = xs.length := by omega
      rw [List.drop_length] at hsa
      have HSE := Lib.hid hsa
      clear hlt hsa hrow hk hj hll
      have HF : Hid (∀ r, r = (decide (0 < xs.length) && !b) → ArcsSaid w xs (sa xs [] false 0 false) (.returned (.tuple #[.slice Al l.length cl, .bool g, .bool r])) wr) := Lib.hid (fun r hr => by
        rw [HSE.out]
        exact ⟨.slice Al l.length cl, by rw [hr]; rfl, HROW.out, HK.out⟩)
      by_cases hl0 : xs.length = 0
      · rw [hl0] at HF ⊢
        cases b with
        | false =>
          clear hl0 HSA HSE
          go_wp2_with fail
          go_ret3
          exact HF.out _ (by simp)
        | true =>
          clear hl0 HSA HSE
          go_wp2_with fail
          go_ret3
          exact HF.out _ (by simp)
      · have hc0 : (0 : Int) < (xs.length : Int) := by omega
        cases b with
        | false =>
          go_wp2_with fail
          go_ret3
          exact HF.out _ (by simp; omega)
        | true =>
          go_wp2_with fail
          go_ret3
          exact HF.out _ (by simp)
end Go.Proofs.Ytlnoeipbbncnfaa
