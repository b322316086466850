/- readASN1 at a long length: contract. -/
import Derived.Test.YtlnoeipbbncnfaaRd3
import Derived.Test.YtlnoeipbbncnfaaIm1
namespace Go.Proofs.Ytlnoeipbbncnfaa
open Go.RowKit

theorem SreadASN1_l (b bo bt : Nat) (to : TypeId) (vo : Value) (t0 : Int) (skip : Bool) (xs : List Int) (w : World) (B : Nat) (h : Sl w B b 39 xs) (ho : Var w bo to vo) (ht : Var w bt 61 (.int .u8 t0))
    (hbo : bo ≠ b) (hbt : bt ≠ b) (hbt2 : bt ≠ bo) (hBo : B ≤ bo) (hBt : B ≤ bt) (hn : xs.length ≤ 4194304) (hl : 2 ≤ xs.length) (h31 : xs.getD 0 0 % 32 ≠ 31) (m : Nat) (hm1 : 1 ≤ m) (hm4 : m ≤ 4) (hs : xs.getD 1 0 = ((m + 128 : Nat) : Int)) (hml : 2 + m ≤ xs.length) :
    Calls Try.prog 41 #[.pointer (some ⟨b, 0, none⟩), .pointer (some ⟨bo, 0, none⟩), .pointer (some ⟨bt, 0, none⟩), .bool skip] w (TookEl w B b bo bt to skip xs) := by
  obtain ⟨x0, x1⟩ := Byt.getD h.byt 0
  have hby := h.byt
  have hlow := h.low
  obtain ⟨v, hv0, hv1, hve⟩ : ∃ v, 0 ≤ v ∧ v < 4294967296 ∧ beN ((xs.drop 2).take m) = v := by
    have := beN_take_bd (xs.drop 2) (hby.drop 2) m 4 hm4
    have e : (256 : Int) ^ 4 = 4294967296 := by decide
    exact ⟨_, this.1, by omega, rfl⟩
  have FL := Lib.hid (first_long hl h31 hs hm1 hm4 hml hve)
  have TP := Lib.hid (long_top hby hm1 hm4 hml hve)
  have TF := Lib.hid (fun W (hk' : Only [bt] w W) ht' => tail_facts (t0 := xs.getD 0 0) h ho hbt hbt2 hBt hk' ht')
  have HO := Lib.hid ho
  have TN := Lib.hid (fun W hf h => took_fail (xs := xs) (B := B) (b := b) (bo := bo) (bt := bt) (to := to) (skip := skip) (W := W) ho x0 x1 hf h)
  have TW := Lib.hid (fun W W2 n hf h1 h2 h3 h4 h5 => took_whole (w := w) (W := W) (W2 := W2) (B := B) (b := b) (bo := bo) (bt := bt) (to := to) (xs := xs) (hd := 2 + m) (n := n) hf hbt hbt2 h1 h2 h3 h4 h5)
  have TS := Lib.hid (fun W W2 W3 n hf h1 h2 h3 h4 h5 h6 => took_skip (w := w) (W := W) (W2 := W2) (W3 := W3) (B := B) (b := b) (bo := bo) (bt := bt) (to := to) (xs := xs) (hd := 2 + m) (n := n) hf hbo hbt hbt2 hBo h1 h2 h3 h4 h5 h6)
  have HT := Lib.hid ht
  have ha := u8_and31 (xs.getD 0 0) x0 (by omega)
  have hb := and128_hi (m + 128) (by omega) (by omega)
  have hb7 := and127_hi m (by omega)
  have hne : (xs.getD 0 0 % 32 == 31) = false := by simpa using h31
  obtain ⟨hBb, A, c, hv, hc, hm, hr⟩ := h
  have hsub : ∀ W, Rd W B A xs → Rd W B (cutA A c 2) ((xs.drop 2).take m) := fun W hR => (hR.cut hc).take m
  obtain ⟨ab, aoff, rfl, habB, hcells⟩ := hr.2 (by omega)
  have hcut : cutA (some ⟨ab, aoff, none⟩) c 2 = some ⟨ab, aoff + 2, none⟩ := by unfold cutA; rw [if_neg (by omega)]; rfl
  rw [hcut] at hsub
  have c0 := hcells 0 (by omega)
  have c1 := hcells 1 (by omega)
  rw [Nat.add_zero] at c0
  rw [hs] at c1
  have hcell := hv.cell
  have hclater : ∀ n u o, (((w.drewN n).setCell ⟨bt, 0, none⟩ u).alloc o).cell? ⟨b, 0, none⟩ = some (.slice (some ⟨ab, aoff, none⟩) xs.length c) := fun n u o => (((hv.drewN n).far (p := ⟨bt, 0, none⟩) (fun e => hbt e.symm) u).alloc o).cell
  have hct := ht.cell
  have hft := ht.free
  have hm0 : ((m : Int) == 0) = false := by simp; omega
  have hm4' : decide ((4 : Int) < m) = false := by simp; omega
  have hm4'' : (m : Int) ≤ 4 := by omega
  have hml' : decide ((xs.length : Int) < 2 + m) = false := by simp; omega
  have hc2 : ¬ c = 2 := by omega
  have hcap : (2 : Int) + m ≤ c := by omega
  have hlen : ((xs.drop 2).take m).length = m := by simp; omega
  have HLEN := Lib.hid hlen
  clear hlen
  have HR := Lib.hid hr
  have HS := Lib.hid hsub
  have HL := Lib.hid hlow
  have HY := Lib.hid hby
  have HV := Lib.hid hve
  have HML := Lib.hid hml
  have HM1 := Lib.hid hm1
  have HM4 := Lib.hid hm4
  have HC := Lib.hid hc
  have HM := Lib.hid hm
  clear ht ho hv hr hcells h31 hs hsub hcut hlow hby hve hml hm1 hm4 hc hm habB hBb
  generalize xs.getD 0 0 = t at *
  generalize hl0 : ((m + 128 : Nat) : Int) = l at *
  have HL0 := Lib.hid hl0
  clear hl0
  go_enter Try.func41, Try.ntmps41
  go_wp2_with fail
  go_quiet (fail)
  go_wp2_with fail
  have hW1 : Only [bt] w ((((w.drewN nq).setCell ⟨bt, 0, none⟩ (.int .u8 t)).alloc (.cells #[.int .u32 0] 84)).alloc (.cells #[.slice (some ⟨ab, aoff + 2, none⟩) m (c - 2)] 39)) := ((((Only.refl _ _).drewN nq).setCell (.inl (by simp)) _).alloc _).alloc _
  have hWt : Var ((((w.drewN nq).setCell ⟨bt, 0, none⟩ (.int .u8 t)).alloc (.cells #[.int .u32 0] 84)).alloc (.cells #[.slice (some ⟨ab, aoff + 2, none⟩) m (c - 2)] 39)) bt 61 (.int .u8 t) := (((HT.out.drewN nq).set _).alloc _).alloc _
  have hWr : Rd ((((w.drewN nq).setCell ⟨bt, 0, none⟩ (.int .u8 t)).alloc (.cells #[.int .u32 0] 84)).alloc (.cells #[.slice (some ⟨ab, aoff + 2, none⟩) m (c - 2)] 39)) B (some ⟨ab, aoff + 2, none⟩) ((xs.drop 2).take m) := HS.out _ (HR.out.only hW1 (by simpa using hBt) HL.out)
  have HW1 := Lib.hid hW1
  have HWt := Lib.hid hWt
  have HWr := Lib.hid hWr
  clear hW1 hWt hWr
  refine (SreadUnsigned_ok (w.heap.size + 1) w.heap.size m (.int .u32 0) ((xs.drop 2).take m) _ B ⟨by have := HL.out; omega, some ⟨ab, aoff + 2, none⟩, c - 2, ?_, by rw [HLEN.out]; omega, by have := HM.out; unfold maxLen at *; omega, HWr.out⟩ ?_ (by omega) HL.out HM1.out HM4.out (by rw [HLEN.out]; exact Nat.le_refl _)).mono ?_
  · rw [HLEN.out]; exact Var.new' _ _ _ _ (by simp)
  · exact (Var.new' _ _ _ _ (by simp)).alloc _
  rintro e w3 ⟨rfl, hv32, _, ho3⟩
  have hee : beN (((xs.drop 2).take m).take m) = v := by rw [List.take_take, Nat.min_self]; exact HV.out
  rw [hee] at hv32
  have hc32 := hv32.cell
  have k3 : Only [bt] w w3 := HW1.out.then ho3 (by simp; omega)
  have t3 : Var w3 bt 61 (.int .u8 t) := HWt.out.only ho3 (by have := HT.out.lt; simp; omega)
  have H3 := Lib.hid (TF.out w3 k3 t3)
  have K3 := Lib.hid k3
  have T3 := Lib.hid t3
  clear hv32 ho3 hee k3 t3
  go_wp2_with fail
  · have hlt : v < 128 := by assumption
    go_ret
    exact TN.out _ (by rw [FL.out, if_pos (.inl hlt)]) H3.out
  · have hz : (v / 2 ^ (((m : Int) - 1) % 256 * 8 % 256).toNat == 0) = true := by assumption
    rw [TP.out, decide_eq_true_eq] at hz
    go_ret
    exact TN.out _ (by rw [FL.out, if_pos (.inr hz)]) H3.out
  · have hov : (2 + (m : Int) + v) % 4294967296 < v := by assumption
    go_ret
    refine TN.out _ ?_ H3.out
    rw [FL.out]
    split
    · rfl
    · rw [if_pos (by omega)]
  · have hz : (v / 2 ^ (((m : Int) - 1) % 256 * 8 % 256).toNat == 0) = false := by assumption
    have hge : 128 ≤ v := by assumption
    rw [TP.out, decide_eq_false_iff_not] at hz
    have hne2 : ¬ (v < 128 ∨ xs.getD 2 0 = 0) := by omega
    have FL2 := FL.out
    rw [if_neg hne2] at FL2
    by_cases hfit : 2 + m + v.toNat ≤ xs.length
    · rw [if_neg (by omega)] at FL2
      have HF := Lib.hid FL2
      have htn : (2 + (m : Int) + v).toNat = 2 + m + v.toNat := by omega
      have RB := Lib.hid (SreadBytes_ok b bo (2 + (m : Int) + v) to vo xs w3 B H3.out.1 H3.out.2.1 hbo hBo (by omega) (by omega) (.inl (by omega)))
      rw [htn] at RB
      clear FL2 htn hz
      refine RB.out.mono ?_
      rintro e w4 ⟨rfl, h4, h5, h6⟩
      have H4 := Lib.hid h4
      have H5 := Lib.hid h5
      have H6 := Lib.hid h6
      clear h4 h5 h6 RB
      cases skip
      · go_wp2_with fail
        go_ret
        exact TW.out _ _ _ HF.out K3.out T3.out H4.out H5.out H6.out
      · have SK := Lib.hid (Sskip_ok bo (2 + (m : Int)) (xs.take (2 + m + v.toNat)) w4 B H4.out (by omega) (by simp; omega) (.inl (by simp; omega)))
        rw [show (2 + (m : Int)).toNat = 2 + m by omega] at SK
        go_wp2_with fail
        refine SK.out.mono ?_
        rintro e w5 ⟨rfl, h7, h8⟩
        have H7 := Lib.hid h7
        have H8 := Lib.hid h8
        clear h7 h8 SK
        go_wp2_with fail
        go_ret
        exact TS.out _ _ _ _ HF.out K3.out T3.out H5.out H6.out H7.out H8.out
    · rw [if_pos (by omega)] at FL2
      have HN := Lib.hid (TN.out _ FL2 H3.out)
      have RB := Lib.hid (SreadBytes_no b bo (2 + (m : Int) + v) xs w3 B H3.out.1 (.inr (by omega)))
      clear FL2 hz
      refine RB.out.mono ?_
      rintro e w4 ⟨rfl, hw⟩
      have HW := Lib.hid hw
      clear hw RB
      go_wp2_with fail
      go_ret
      exact HW.out ▸ HN.out
end Go.Proofs.Ytlnoeipbbncnfaa
