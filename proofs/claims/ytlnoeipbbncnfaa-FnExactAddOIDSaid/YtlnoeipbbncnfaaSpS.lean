/- The reference's contents of an object identifier: contract. -/
import Derived.Test.YtlnoeipbbncnfaaIds
import Derived.Test.YtlnoeipbbncnfaaSpO
import Derived.Deep.RegionHeld3
namespace Go.Proofs.Ytlnoeipbbncnfaa
open Go.RowKit

theorem oidContents_any (A : Option Addr) (n c : Nat) (xs : List Int) (w : World) (B : Nat) (h : RdI w B A xs) (hn : n = xs.length) (hB : B ≤ w.heap.size) (hb : xs.length ≤ 4194304) (hl : 2 ≤ xs.length) (hv : ∀ v ∈ xs, 0 ≤ v ∧ v ≤ 2147483647) (h2 : xs.getD 0 0 ≤ 2) :
    Calls Try.prog 15 #[.slice A n c] w (Copied w (oidC xs)) := by
  have hvd : ∀ i, i < xs.length → 0 ≤ xs.getD i 0 ∧ xs.getD i 0 ≤ 2147483647 := fun i hi => by
    rw [List.getD_eq_getElem?_getD, List.getElem?_eq_getElem hi]
    exact hv _ (List.getElem_mem hi)
  obtain ⟨x0, x1⟩ := hvd 0 (by omega)
  obtain ⟨y0, y1⟩ := hvd 1 (by omega)
  obtain ⟨ab, aoff, rfl, hab, hcells⟩ := h.2 (by omega)
  have hc0 := hcells 0 (by omega)
  have hc1 := hcells 1 (by omega)
  rw [Nat.add_zero] at hc0
  obtain ⟨m, rfl⟩ : ∃ m, n = m + 2 := ⟨n - 2, by omega⟩
  have hml : m ≤ 4194304 := by omega
  have HH := Lib.hid h
  have HN := Lib.hid hn
  have HVD := Lib.hid hvd
  have HBB := Lib.hid hB
  have HO : Hid (oidC xs = b128 (xs.getD 0 0 * 40 + xs.getD 1 0) ++ b128s (xs.drop 2)) := Lib.hid rfl
  have B1 := Lib.hid (fun w => base128_any (xs.getD 0 0 * 40 + xs.getD 1 0) w (by omega) (by omega))
  clear hcells hn hl hb h hv hvd hB
  generalize xs.getD 0 0 = a0 at *
  generalize xs.getD 1 0 = a1 at *
  have w1f : IntKind.i64.wrap (a0 * 40) = a0 * 40 := IntWalk.i64_in _ (by omega)
  have w2f : IntKind.i64.wrap (a0 * 40 + a1) = a0 * 40 + a1 := IntWalk.i64_in _ (by omega)
  have b0f : (0 : Int) < (m : Int) + 2 := by omega
  have b1f : (1 : Int) < (m : Int) + 2 := by omega
  go_enter Try.func15, Try.ntmps15
  go_wp2_with fail
  go_region_held3 (fun w' => w'.cell? ⟨ab, aoff, none⟩ = some (.int .i64 a0) ∧ w'.cell? ⟨ab, aoff + 1, none⟩ = some (.int .i64 a1)) (first | exact ⟨hc0, hc1⟩ | exact ⟨hc0w1, hc1w1⟩) (first | (go_at_call 26; refine (B1.out _).mono ?_; rintro e w1 ⟨A1, c1, rfl, hc1', hm1, hown1, hk1⟩; have hc0w1 := (hk1.cell (p := ⟨ab, aoff, none⟩) (by have := HBB.out; simp; omega) (by simp)).trans hc0; have hc1w1 := (hk1.cell (p := ⟨ab, aoff + 1, none⟩) (by have := HBB.out; simp; omega) (by simp)).trans hc1; have HR1 : Hid (Row w1 w.heap.size (.slice A1 (b128 (a0 * 40 + a1)).length c1) (b128 (a0 * 40 + a1))) := Lib.hid ⟨b128_byt _, by simpa using hown1⟩; have HK1 : Hid (Only [] w w1) := Lib.hid ((Only.refl _ _).drew.trans hk1); clear hown1 hk1 hc1' hm1))
  all_goals
    go_wp2_with fail
    go_loopw [3, 4] (fun o i W => ∃ j : Nat, i = .int .i64 ((j : Int) + 2) ∧ j ≤ m ∧ Row W w.heap.size o (b128 (a0 * 40 + a1) ++ b128s ((xs.drop 2).take j)) ∧ Only [] w W) (fun _ i _ => (m + 2) - (intOf i).toNat)
    case atStart => exact ⟨0, by simp, Nat.zero_le _, by simpa [b128s] using HR1.out, HK1.out⟩
    case round =>
      obtain ⟨j, rfl, hj, hrow, hk⟩ := hrel
      have HRow := Lib.hid hrow
      have HK := Lib.hid hk
      by_cases hlt : j < m
      · have hij : (j : Int) + 2 < (m : Int) + 2 := by omega
        have hrd := HH.out.only hk (by simp) HBB.out
        obtain ⟨ab', aoff', e', _, hcells⟩ := hrd.2 (by have := HN.out; omega)
        have e2 := Option.some.inj e'
        obtain ⟨rfl, rfl⟩ : ab = ab' ∧ aoff = aoff' := by injection e2 with h1 h2; exact ⟨h1, h2⟩
        have hcj := hcells (j + 2) (by have := HN.out; omega)
        have hxb := HVD.out (j + 2) (by have := HN.out; omega)
        have hstep : b128s ((xs.drop 2).take (j + 1)) = b128s ((xs.drop 2).take j) ++ b128 (xs.getD (j + 2) 0) := by
          rw [← b128s_snoc]
          congr 1
          rw [List.take_add_one, List.getElem?_drop, List.getD_eq_getElem?_getD, show 2 + j = j + 2 by omega, List.getElem?_eq_getElem (by have := HN.out; omega)]
          rfl
        have HST := Lib.hid hstep
        generalize xs.getD (j + 2) 0 = x at *
        have B2 := Lib.hid (base128_any x wr hxb.1 (by omega))
        have HLT := Lib.hid hlt
        have hjm : j ≤ 4194304 := by omega
        clear hcells hrd e' e2 hstep hxb hrow hk hlt hj
        go_wp2_with fail
        refine B2.out.mono ?_
        rintro e w2 ⟨A2, c2, rfl, hc2, hm2, hown2, hk2⟩
        have HK2 := Lib.hid (HK.out.trans hk2)
        have HX2 := Lib.hid (Rd.of_own (w := w2) (b128_byt x) hown2)
        have HR2 := Lib.hid (Row.only (l := []) HRow.out hk2 (by simp))
        clear hc2 hm2 hown2 hk2
        go_wp2_with (at_builtin; refine wpList_row rfl (.tmp 20) (.tmp 25) rfl rfl w.heap.size _ _ (b128 (a0 * 40 + a1) ++ b128s ((xs.drop 2).take j)) (b128 x) A2 _ c2 rfl rfl HR2.out HX2.out rfl ?c1 ?c2 ?_)
        case c1 => exact HK2.out.size
        case c2 =>
          have h1 := b128s_len ((xs.drop 2).take j)
          have h2 := b128_len x
          have h3 := l7_bd x
          have h4 := b128_len (a0 * 40 + a1)
          have h5 := l7_bd (a0 * 40 + a1)
          have h6 : ((xs.drop 2).take j).length ≤ j := by rw [List.length_take]; omega
          rw [List.length_append]
          omega
        intro v' w3 hr3 hk3 _
        have HR3 := Lib.hid hr3
        have HK3 : Hid (Only [] w w3) := Lib.hid (HK2.out.then hk3 (by
          intro i hi hlt
          have := HR2.out.low i hi
          omega))
        clear hr3 hk3
        go_wp2_with fail
        go_roundw
        case rel =>
          refine ⟨j + 1, by go_num, by have := HLT.out; omega, ?_, HK3.out⟩
          rw [HST.out]
          exact HR3.out
        case measure => simp [intOf]; have := HLT.out; omega
      · obtain rfl : j = m := by omega
        clear hlt hrow hk hj
        go_wp2_with fail
        go_ret
        have h := HRow.out
        rw [List.take_of_length_le (by rw [List.length_drop]; have := HN.out; omega), ← HO.out] at h
        exact h.copied' HK.out
end Go.Proofs.Ytlnoeipbbncnfaa
