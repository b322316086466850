/- CopyBytes, of the package and of the thin package: contracts. -/
import Derived.Test.YtglgiplmolmdoaaIm2
import Derived.Laws.CopyOwn
import Derived.Deep.RegionWith
namespace Go.Proofs.Ytglgiplmolmdoaa
open Go.RowKit

/-- The block of a slice's row. -/
def rowl (A : Option Addr) : List Nat := match A with | some a => [a.block] | none => []
/-- Into a row of our own that is as long as what is read. -/
theorem Scopy_ok (b : Nat) (A2 : Option Addr) (m c2 base : Nat) (cells : List Value) (xs : List Int) (w : World) (B : Nat) (h : Sl w B b 47 xs) (hown : w.ownsRow base 5 1 (.slice A2 m c2) m cells) (hbase : B ≤ base) (hne : ∀ a, A2 = some a → a.block ≠ b) (hl : m ≤ xs.length) (hp : 0 < xs.length) :
    Calls Try.prog 43 #[.pointer (some ⟨b, 0, none⟩), .slice A2 m c2] w fun e w' => e = .returned (.bool true) ∧ Sl w' B b 47 (xs.drop m) ∧ Rd w' w'.heap.size A2 (xs.take m) ∧ Only (b :: rowl A2) w w' := by
  have H := Lib.hid (read_sl b m xs w B h (by omega) (by omega))
  rw [Int.toNat_natCast] at H
  have hby := h.byt
  have HL := Lib.hid hl
  have HY := Lib.hid hby
  rcases hown.2 with ⟨hv, h0⟩ | ⟨g, cap, cur, hv, hbg, hg, hnc, hcm, hcs, htake⟩
  · subst h0
    simp only [Value.slice.injEq, true_and] at hv
    obtain ⟨rfl, rfl⟩ := hv
    clear h hown hl hby hne
    go_enter Try.func43, Try.ntmps43
    go_wp2_with fail
    refine H.out.mono ?_
    rintro e w1 ⟨A, c, rfl, hc, hm, hA, hr, hs, hk⟩
    obtain ⟨ad, rfl⟩ := (hA (.inl hp)).1
    have K1 := Lib.hid hs
    have K2 := Lib.hid hk
    clear hs hk hA hr H
    go_wp2_with (with_reducible refine wpList_copy_nothing rfl _ _ 24 24 rfl 5 Try.underlying24 (by kernel_rfl) none (some ad) 0 _ 0 _ rfl rfl rfl ?_)
    go_ret
    exact ⟨rfl, K1.out, Rd.nil _ _ _, K2.out⟩
  · simp only [Value.slice.injEq, true_and] at hv
    obtain ⟨rfl, rfl⟩ := hv
    have hgb : g ≠ b := hne _ rfl
    rcases Nat.eq_zero_or_pos m with h0 | h0
    · subst h0
      clear h hown hl hby hne
      go_enter Try.func43, Try.ntmps43
      go_wp2_with fail
      refine H.out.mono ?_
      rintro e w1 ⟨A, c, rfl, hc, hm, hA, hr, hs, hk⟩
      obtain ⟨ad, rfl⟩ := (hA (.inl hp)).1
      have K1 := Lib.hid hs
      have K2 := Lib.hid hk
      clear hs hk hA hr H hg htake hcs
      go_wp2_with (with_reducible refine wpList_copy_nothing rfl _ _ 24 24 rfl 5 Try.underlying24 (by kernel_rfl) _ (some ad) 0 _ 0 _ rfl rfl rfl ?_)
      go_ret
      exact ⟨rfl, K1.out, Rd.nil _ _ _, K2.out.more (by simp [rowl])⟩
    · have HG := Lib.hid hg
      have HCS := Lib.hid hcs
      clear h hown hl hby hne hg hcs htake
      go_enter Try.func43, Try.ntmps43
      go_wp2_with fail
      refine H.out.mono ?_
      rintro e w1 ⟨A, c, rfl, hc, hm, hA, hr, hs, hk⟩
      obtain ⟨ab, aoff, rfl, hab, hcells⟩ := Rd.cells hr HL.out h0
      have hlen : ((xs.take m).map (Value.int .u8)).length = m := by have := HL.out; simp; omega
      have hg1 : w1.heap[g]? = some (.cells cur 5 (0, 0)) := (hk.block g (lt_of_block HG.out) (by simpa using hgb)).trans HG.out
      have hsrc : ∀ j v, ((xs.take m).map (Value.int .u8))[j]? = some v → w1.cell? ((⟨ab, aoff, none⟩ : Addr).add j) = some v := by
        intro j v hj
        have hjm : j < m := by
          rcases Nat.lt_or_ge j m with h | h
          · exact h
          · rw [List.getElem?_eq_none (by omega)] at hj; cases hj
        have hp : (⟨ab, aoff, none⟩ : Addr).add j = ⟨ab, aoff + j, none⟩ := by unfold Addr.add; split <;> simp_all
        rw [hp, hcells j hjm]
        have hjx : j < xs.length := by have := HL.out; omega
        simp [hjm, List.getElem?_eq_getElem hjx] at hj
        subst hj
        simp [List.getD_eq_getElem?_getD, List.getElem?_eq_getElem hjx]
      have hfin : ∀ cs', (cur.toList.take 0 ++ ((xs.take m).map (Value.int .u8) ++ cur.toList.drop (0 + ((xs.take m).map (Value.int .u8)).length))).toArray = cs' →
          Sl (w1.setRow g cs') B b 47 (xs.drop m) ∧ Rd (w1.setRow g cs') (w1.setRow g cs').heap.size (some ⟨g, 0, none⟩) (xs.take m) ∧ Only [b, g] w (w1.setRow g cs') := by
        intro cs' hcs'
        have ho : Only [g] w1 (w1.setRow g cs') := ⟨rfl, rfl, rfl, by simp, fun k _ hkn => setRow_other w1 g k _ (by simpa using hkn)⟩
        refine ⟨hs.only ho (by simpa using fun e => hgb e.symm) (by simp; omega), ?_, (hk.more (by simp)).trans (ho.more (by simp))⟩
        refine Rd.of_own (base := 0) (e := 5) (n := m) (c := c2) (HY.out.take m) ⟨by rw [hlen]; omega, .inr ⟨g, c2, _, rfl, Nat.zero_le _, setRow_heap w1 g cur _ _ _ hg1, hnc, hcm, ?_, ?_⟩⟩
        · subst hcs'
          have := HCS.out
          have hct : cur.toList.length = c2 := by simpa using this
          simp only [List.size_toArray, List.length_append, List.length_take, List.length_drop, hct, hlen]
          omega
        · subst hcs'
          simp only [List.take_zero, List.nil_append, Nat.mul_one]
          rw [List.take_append_of_le_length (by omega), List.take_of_length_le (by omega)]
      have J := Lib.hid hfin
      have HS := Lib.hid hsrc
      have HG1 := Lib.hid hg1
      have HLN := Lib.hid hlen
      clear hfin hsrc hg1 hlen hcells hs hk hr hA H
      go_wp2_with (with_reducible refine wpList_copy_own rfl _ _ 24 24 rfl 5 Try.underlying24 (by kernel_rfl) g 0 m c2 ⟨ab, aoff, none⟩ m c rfl rfl cur 5 HG1.out ((xs.take m).map (Value.int .u8)) (by rw [HLN.out]; exact (Nat.min_self m).symm) HS.out (by have := HCS.out; rw [HLN.out]; omega) (Byt.oneCells _) ?_; generalize hcs' : (List.take 0 cur.toList ++ (List.map (Value.int IntKind.u8) (List.take m xs) ++ List.drop (0 + (List.map (Value.int IntKind.u8) (List.take m xs)).length) cur.toList)).toArray = cs'; rw [HLN.out]; have HCS' := Lib.hid hcs'; clear hcs')
      go_ret
      exact ⟨by simp, (J.out _ HCS'.out).1, (J.out _ HCS'.out).2.1, (J.out _ HCS'.out).2.2⟩

theorem Scopy_no (b : Nat) (A2 : Option Addr) (m c2 : Nat) (xs : List Int) (w : World) (B : Nat) (h : Sl w B b 47 xs) (hl : xs.length < m) :
    Calls Try.prog 43 #[.pointer (some ⟨b, 0, none⟩), .slice A2 m c2] w fun e w' => e = .returned (.bool false) ∧ w = w' := by
  have H := Lib.hid (read_sl_no b m xs w B h (by omega))
  clear h hl
  go_enter Try.func43, Try.ntmps43
  go_wp2_with fail
  refine H.out.mono ?_
  rintro e w1 ⟨rfl, rfl⟩
  go_wp2_with fail
  go_ret
  exact ⟨rfl, rfl⟩

theorem ImCopy_ok (A A2 : Option Addr) (n c n2 c2 : Nat) (xs zs : List Int) (w : World) (h : Rd w w.heap.size A xs) (h2 : Rd w w.heap.size A2 zs) (hn : n = xs.length) (hn2 : n2 = zs.length) (hb : xs.length ≤ 1048576) (hb2 : zs.length ≤ xs.length) (hp : 0 < xs.length) :
    Calls Try.prog 28 #[.slice A n c, .slice A2 n2 c2] w (ResBB w (xs.take zs.length) (xs.drop zs.length) true) := by
  have H := Lib.hid (str_any A n c xs w _ h hn (by omega))
  have hby := h.byt
  have HY := Lib.hid hby
  have HYB := Lib.hid (hby.drop zs.length)
  have HLY := Lib.hid (show (xs.drop zs.length).length ≤ 140737488355328 by simp; omega)
  have H2 := Lib.hid h2
  have HN2 := Lib.hid hn2
  have HB := Lib.hid hb
  have HB2 := Lib.hid hb2
  have HP := Lib.hid hp
  clear h h2 hn hn2 hb hb2 hp hby
  go_enter Try.func28, Try.ntmps28
  go_wp2_with fail
  refine H.out.mono ?_
  rintro e w1 ⟨A1, c1, rfl, hc1, hm1, hown, hk1⟩
  have R1 := Lib.hid (Rd.of_own HY.out hown)
  have K1 := Lib.hid hk1
  clear hown hk1 H
  go_wp2_with fail
  refine (copied_any A2 n2 c2 zs _ w.heap.size ?s1 HN2.out (by have := HB.out; have := HB2.out; omega)).mono ?_
  case s1 => exact (H2.out.only K1.out (by simp) (Nat.le_refl _)).alloc K1.out.size _
  rintro e w2 ⟨A3, c3, rfl, hc3, hm3, hown3, hk3⟩
  have hs : Sl w2 w1.heap.size w1.heap.size 47 xs := Sl.only ⟨Nat.le_refl _, A1, c1, Var.new _ _ _, hc1, hm1, R1.out.alloc (Nat.le_refl _) _⟩ hk3 (by simp) (by simp)
  have hne : ∀ a, A3 = some a → a.block ≠ w1.heap.size := by
    obtain ⟨A', c', e, _, _, hb⟩ := own_form hown3
    simp only [Value.slice.injEq, true_and] at e
    obtain ⟨rfl, rfl⟩ := e
    intro a ha
    have := hb a ha
    simp at this
    omega
  have hk2 : Only [] w w2 := (K1.out.alloc _).trans hk3
  have K2 := Lib.hid hk2
  have HS := Lib.hid hs
  have HO := Lib.hid hown3
  have HNE := Lib.hid hne
  clear hown3 hk3 hs hne hk2
  go_wp2_with fail
  refine (Scopy_ok w1.heap.size A3 zs.length c3 _ _ xs w2 w1.heap.size HS.out HO.out (by simp) HNE.out HB2.out HP.out).mono ?_
  rintro e w3 ⟨rfl, hs3, hr3, hk3⟩
  obtain ⟨_, A4, c4, hv4, hc4, hm4, hr4⟩ := hs3
  have hci := hv4.cell
  have R3 := Lib.hid hr3
  have R4 := Lib.hid hr4
  have hk4 : Only [] w w3 := K2.out.then hk3 (by
    intro i hi hlt
    have h1 := K1.out.size
    simp only [List.mem_cons] at hi
    rcases hi with rfl | hi
    · omega
    · exfalso
      unfold rowl at hi
      split at hi
      · simp at hi
        obtain ⟨A', c', e, _, _, hb⟩ := own_form HO.out
        simp only [Value.slice.injEq, true_and] at e
        obtain ⟨rfl, rfl⟩ := e
        have := hb _ rfl
        simp at this
        omega
      · cases hi)
  have K3 := Lib.hid hk4
  clear hr3 hr4 hv4 hk3 hk4
  go_wp2_with fail
  refine (copied_any A4 _ c4 (xs.drop zs.length) _ w1.heap.size R4.out (by simp) HLY.out).mono ?_
  rintro e w4 ⟨A5, c5, rfl, hc5, hm5, hown5, hk5⟩
  have R5 := Lib.hid (Rd.of_own HYB.out hown5)
  have K5 := Lib.hid hk5
  clear hown5 hk5
  go_wp2_with fail
  go_ret3
  refine ⟨A3, c3, A5, c5, ?_, (R3.out.only K5.out (by simp) (Nat.le_refl _)).more K5.out.size, R5.out, K3.out.trans K5.out⟩
  have := HB2.out
  simp only [List.length_take, List.length_drop, Nat.min_eq_left this]
  rfl

theorem ImCopy_no (A A2 : Option Addr) (n c n2 c2 : Nat) (xs zs : List Int) (w : World) (h : Rd w w.heap.size A xs) (h2 : Rd w w.heap.size A2 zs) (hn : n = xs.length) (hn2 : n2 = zs.length) (hb : zs.length ≤ 1048576) (hb2 : xs.length < zs.length) :
    Calls Try.prog 28 #[.slice A n c, .slice A2 n2 c2] w (ResBB w zs xs false) := by
  have H := Lib.hid (str_any A n c xs w _ h hn (by omega))
  have hby := h.byt
  have HY := Lib.hid hby
  have HLY := Lib.hid (show xs.length ≤ 140737488355328 by omega)
  have HYZ := Lib.hid h2.byt
  have H2 := Lib.hid h2
  have HN2 := Lib.hid hn2
  have HB := Lib.hid hb
  have HB2 := Lib.hid hb2
  clear h h2 hn hn2 hb hb2 hby
  go_enter Try.func28, Try.ntmps28
  go_wp2_with fail
  refine H.out.mono ?_
  rintro e w1 ⟨A1, c1, rfl, hc1, hm1, hown, hk1⟩
  have R1 := Lib.hid (Rd.of_own HY.out hown)
  have K1 := Lib.hid hk1
  clear hown hk1 H
  go_wp2_with fail
  refine (copied_any A2 n2 c2 zs _ w.heap.size ?s1 HN2.out (by have := HB.out; omega)).mono ?_
  case s1 => exact (H2.out.only K1.out (by simp) (Nat.le_refl _)).alloc K1.out.size _
  rintro e w2 ⟨A3, c3, rfl, hc3, hm3, hown3, hk3⟩
  have hs : Sl w2 w1.heap.size w1.heap.size 47 xs := Sl.only ⟨Nat.le_refl _, A1, c1, Var.new _ _ _, hc1, hm1, R1.out.alloc (Nat.le_refl _) _⟩ hk3 (by simp) (by simp)
  have hk2 : Only [] w w2 := (K1.out.alloc _).trans hk3
  have R3 := Lib.hid (Rd.of_own HYZ.out hown3)
  have K2 := Lib.hid hk2
  have HS := Lib.hid hs
  clear hown3 hk3 hs hk2
  go_wp2_with fail
  refine (Scopy_no w1.heap.size A3 zs.length c3 xs w2 w1.heap.size HS.out HB2.out).mono ?_
  rintro e w3 ⟨rfl, hw⟩
  have hs3 := HS.out
  rw [hw] at hs3
  obtain ⟨_, A4, c4, hv4, hc4, hm4, hr4⟩ := hs3
  have hci := hv4.cell
  have R4 := Lib.hid hr4
  have HW := Lib.hid hw
  clear hr4 hv4 hw
  go_wp2_with fail
  refine (copied_any A4 _ c4 xs _ w1.heap.size R4.out (by simp) HLY.out).mono ?_
  rintro e w4 ⟨A5, c5, rfl, hc5, hm5, hown5, hk5⟩
  have R5 := Lib.hid (Rd.of_own HY.out hown5)
  rw [← HW.out] at hk5
  have K5 := Lib.hid hk5
  clear hown5 hk5
  go_wp2_with fail
  go_ret3
  exact ⟨A3, c3, A5, c5, rfl, (R3.out.only K5.out (by simp) (Nat.le_refl _)).more K5.out.size, R5.out, K2.out.trans K5.out⟩
end Go.Proofs.Ytglgiplmolmdoaa
