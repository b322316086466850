/- Strings of bits read as bytes, and added: contracts. -/
import Derived.Test.YtpndhbhkmfcgaaaIm4
import Derived.Test.YtpndhbhkmfcgaaaBl11
namespace Go.Proofs.Ytpndhbhkmfcgaaa
open Go.RowKit

def bitBytes (c : List Int) : Option (List Int) := if c.length = 0 ∨ c.getD 0 0 ≠ 0 then none else some (c.drop 1)

theorem SReadBitsBytes_of (b bo : Nat) (ws xs : List Int) (w : World) (B : Nat) (h : Sl w B b 43 xs) (ho : Sl w B bo 22 ws) (hbo : bo ≠ b) (hn : xs.length ≤ 4194304) (hw : ws.length ≤ 4194304) :
    Calls Try.prog 22 #[.pointer (some ⟨b, 0, none⟩), .pointer (some ⟨bo, 0, none⟩)] w (Gave w B b bo 22 (asOf bitBytes xs 3)) := by
  have H := Lib.hid (fun W h' ho' => SReadASN1_of b w.heap.size 43 3 [] xs W B h' ho' (by have := h.lt; omega) hn (by simp))
  have HH := Lib.hid h
  have HO := Lib.hid ho
  have HL := Lib.hid (And.intro h.lt ho.lt)
  have HE := Lib.hid hbo
  have HW := Lib.hid hw
  clear h ho hbo hn hw
  go_enter Try.func22, Try.ntmps22
  go_wp2_with fail
  refine (H.out _ (HH.out.alloc _) (Sl.new w B _ _ rfl HH.out.low)).mono ?_
  rintro e w1 ⟨ok, zs, ys, rfl, hk, hzs, hys, hlz, hly, hg⟩
  have hk' : Only [b] w w1 := ((Only.refl _ _).alloc _).then hk (by
    intro i hi hlt
    simp at hi ⊢
    omega)
  have hvo := (HO.out.alloc _).only hk (by
    have := HE.out
    have := HL.out
    simp
    omega) (by have := HH.out.1; have := HH.out.low; simp; omega)
  have K := Lib.hid hk'
  have HVO := Lib.hid hvo
  have HYS := Lib.hid hys
  have HLY := Lib.hid hly
  have HLZ := Lib.hid hlz
  clear hk' hk hys hly hlz H
  cases hf : firstOf xs 3 with
  | none =>
    rw [hf] at hg
    have hg : ok = false := hg
    subst hg
    have HF := Lib.hid hf
    clear hf hzs hvo
    go_wp2_with fail
    go_ret
    exact ⟨false, ws, ys, rfl, K.out.more (by simp), HVO.out, HYS.out, HW.out, HLY.out, by unfold asOf; rw [HF.out]; rfl⟩
  | some q =>
    obtain ⟨c, r⟩ := q
    rw [hf] at hg
    obtain ⟨rfl, rfl, rfl⟩ : ok = true ∧ zs = c ∧ ys = r := hg
    have HF := Lib.hid hf
    clear hf
    have hBad : bitBytes zs = none → Gave w B b bo 22 (asOf bitBytes xs 3) (.returned (.bool false)) w1 := fun h4 => ⟨false, ws, ys, rfl, K.out.more (by simp), HVO.out, HYS.out, HW.out, HLY.out, by unfold asOf; rw [HF.out]; simp only [h4]; rfl⟩
    obtain ⟨hBn, A1, c1, hvz, hc1, hm1, hrz⟩ := hzs
    have hcz := hvz.cell
    have R := Lib.hid hrz
    clear hvz hrz
    obtain ⟨hBo, Ao, co, hvb, _⟩ := hvo
    have HVB := Lib.hid hvb
    have HBo := Lib.hid hBo
    have hfo := hvb.free
    have hco := hvb.cell
    clear hvb hBo
    by_cases hl0 : zs.length = 0
    · have HV := Lib.hid (hBad (by unfold bitBytes; rw [if_pos (.inl hl0)]))
      rw [hl0] at hcz
      clear hl0 hBad
      go_wp2_with fail
      go_ret
      exact HV.out
    · have hlz := HLZ.out
      obtain ⟨ab, aoff, rfl, hab, hcells⟩ := R.out.2 (by omega)
      have hcell0 := hcells 0 (by omega)
      rw [Nat.add_zero] at hcell0
      have hpos : 0 < zs.length := by omega
      by_cases hz0 : zs.getD 0 0 = 0
      · have HV : Hid (bitBytes zs = some (zs.drop 1)) := Lib.hid (by unfold bitBytes; rw [if_neg (fun h => h.elim hl0 (fun h => h hz0))])
        rw [hz0] at hcell0
        have HDL : Hid ((zs.drop 1).length = zs.length - 1) := Lib.hid (by rw [List.length_drop])
        have HM := Lib.hid (And.intro hc1 hm1)
        have HCM := Lib.hid (R.out.cut (k := 1) hc1)
        have HA := Lib.hid hab
        clear hcells hz0 hBad hl0
        by_cases hc : c1 = 1
        · subst hc
          have HCU : Hid (Rd w1 B (cutA (some ⟨ab, aoff, none⟩) 1 1) (zs.drop 1)) := HCM
          have h1 : zs.length = 1 := by have := HM.out; omega
          have HNil : Hid (zs.drop 1 = []) := Lib.hid (List.drop_eq_nil_of_le (by omega))
          rw [h1] at hcz hlz hpos
          clear h1
          go_wp2_with fail
          go_ret
          refine ⟨true, zs.drop 1, ys, rfl, (K.out.more (by simp)).setCell (.inl (by simp)) _, ?_, HYS.out.far (fun e => HE.out e.symm) HBo.out _, by rw [HNil.out]; simp, HLY.out, by unfold asOf; rw [HF.out]; simp only [HV.out]; exact ⟨rfl, rfl, rfl⟩⟩
          rw [HNil.out]
          exact ⟨HBo.out, _, _, HVB.out.set _, Nat.zero_le _, Nat.zero_le _, Rd.nil _ _ _⟩
        · have HC : Hid (cutA (some ⟨ab, aoff, none⟩) c1 1 = some ⟨ab, aoff + 1, none⟩) := Lib.hid (by unfold cutA; rw [if_neg (by omega)]; rfl)
          go_wp2_with fail
          go_ret
          refine ⟨true, zs.drop 1, ys, rfl, (K.out.more (by simp)).setCell (.inl (by simp)) _, ?_, HYS.out.far (fun e => HE.out e.symm) HBo.out _, by rw [HDL.out]; omega, HLY.out, by unfold asOf; rw [HF.out]; simp only [HV.out]; exact ⟨rfl, rfl, rfl⟩⟩
          refine ⟨HBo.out, some ⟨ab, aoff + 1, none⟩, c1 - 1, ?_, ?_, ?_, ?_⟩
          · rw [HDL.out]; exact HVB.out.set _
          · rw [HDL.out]; have := HM.out; omega
          · have := HM.out; omega
          · have h := HCM.out
            rw [HC.out] at h
            exact h.setCell HBo.out _
      · have HV := Lib.hid (hBad (by unfold bitBytes; rw [if_pos (.inr hz0)]))
        have hq : (zs.getD 0 0 != 0) = true := by simpa using hz0
        clear hcells hz0 hBad hl0
        generalize zs.getD 0 0 = a0 at *
        go_wp2_with fail
        all_goals
          go_ret
          exact HV.out

set_option maxHeartbeats 800000 in
theorem ImReadBitsAsBytes_of (A : Option Addr) (n c : Nat) (xs : List Int) (w : World) (B : Nat) (h : Rd w B A xs) (hn : n = xs.length) (hb : xs.length ≤ 4194304) :
    Calls Try.prog 7 #[.slice A n c] w (ResS w (asOf bitBytes xs 3)) := by
  have H := Lib.hid (str_any A n c xs w B h hn (by omega))
  have hby := h.byt
  have HY := Lib.hid hby
  have HB := Lib.hid hb
  clear h hn hb hby
  go_enter Try.func7, Try.ntmps7
  go_wp2_with fail
  refine H.out.mono ?_
  rintro e w1 ⟨A1, c1, rfl, hc1, hm1, hown, hk1⟩
  have R1 := Lib.hid (Rd.of_own HY.out hown)
  have K1 := Lib.hid hk1
  clear hown hk1 H
  go_wp2_with fail
  refine (SReadBitsBytes_of w1.heap.size (w1.heap.size + 1) [] xs _ w1.heap.size ?s0 ?s1 (by omega) HB.out (by simp)).mono ?_
  case s0 => exact ⟨Nat.le_refl _, A1, c1, (Var.new _ _ _).alloc _, hc1, hm1, (R1.out.alloc (Nat.le_refl _) _).alloc (by simp <;> omega) _⟩
  case s1 => exact Sl.new _ _ _ _ (by simp) (by simp)
  rintro e w2 ⟨ok, zs, ys, rfl, ho2, hso, hs2, hlz, hly, hg⟩
  have HG := Lib.hid hg
  have HLO := Lib.hid (show zs.length ≤ 140737488355328 by omega)
  have HYO := Lib.hid hso.byt
  have HLY := Lib.hid (show ys.length ≤ 140737488355328 by omega)
  have HYB := Lib.hid hs2.byt
  have HLL := Lib.hid (And.intro hlz hly)
  clear hg hlz hly
  have hk2 : Only [] w w2 := ((K1.out.alloc _).alloc _).then ho2 (by have := K1.out.size; simp; omega)
  obtain ⟨_, Ao, co, hvo, hco, hmo, hro⟩ := hso
  have RO := Lib.hid hro
  clear hro
  obtain ⟨_, A2, c2, hvi, hc2, hm2, hr2⟩ := hs2
  have hci := hvi.cell
  have LI := Lib.hid hvi.lt
  have R2 := Lib.hid hr2
  have K2 := Lib.hid hk2
  have hco1 := hvo.cell
  have LO1 := Lib.hid hvo.lt
  clear hr2 hk2 hvi ho2 hvo
  go_wp2_with fail
  go_region_held3 (fun w' => w'.cell? ⟨w1.heap.size, 0, none⟩ = some (.slice A2 ys.length c2) ∧ w'.cell? ⟨w1.heap.size + 1, 0, none⟩ = some (.slice Ao zs.length co)) (first | exact ⟨hci, hco1⟩ | exact ⟨hciw3, hco1w3⟩ | exact ⟨hciw4, hco1w4⟩) (first | (go_at_call 23; have hq : Rd w2.drew w1.heap.size Ao zs := RO.out.drew; (with_reducible refine (copied_any Ao _ co zs w2.drew w1.heap.size hq rfl HLO.out).mono ?_); clear hq; rintro e w3 ⟨A3, c3, rfl, hc3, hm3, hown3, hk3⟩; have hciw3 := (hk3.cell (p := ⟨w1.heap.size, 0, none⟩) LI.out (by simp)).trans hci; have hco1w3 := (hk3.cell (p := ⟨w1.heap.size + 1, 0, none⟩) LO1.out (by simp)).trans hco1; have R3n := Lib.hid (Rd.of_own HYO.out hown3); have K3 := Lib.hid hk3; clear hown3 hk3) | (go_at_call 23; have hq : Rd w3 w1.heap.size A2 ys := R2.out.drew.only K3.out (by simp) (Nat.le_of_lt LI.out); (with_reducible refine (copied_any A2 _ c2 ys w3 w1.heap.size hq rfl HLY.out).mono ?_); clear hq; rintro e w4 ⟨A4, c4, rfl, hc4, hm4, hown4, hk4⟩; have hciw4 := (hk4.cell (p := ⟨w1.heap.size, 0, none⟩) (Nat.lt_of_lt_of_le LI.out K3.out.size) (by simp)).trans hciw3; have hco1w4 := (hk4.cell (p := ⟨w1.heap.size + 1, 0, none⟩) (Nat.lt_of_lt_of_le LO1.out K3.out.size) (by simp)).trans hco1w3; have R4n := Lib.hid (Rd.of_own HYB.out hown4); have K4 := Lib.hid hk4; clear hown4 hk4))
  all_goals
    go_wp2
    go_ret3
    exact ⟨ok, zs, ys, A3, c3, A4, c4, rfl, (R3n.out.only K4.out (by simp) (Nat.le_refl _)).more K4.out.size, R4n.out, (K2.out.drew.trans K3.out).trans K4.out, HLL.out.1, HLL.out.2, HG.out⟩

theorem ImAddBits_any (A : Option Addr) (n c : Nat) (xs : List Int) (w : World) (B : Nat) (h : Rd w B A xs) (hn : n = xs.length) (hB : B ≤ w.heap.size) (hl : xs.length ≤ 4194304) :
    Calls Try.prog 10 #[.slice A n c] w (Outs w (elem 3 (0 :: xs))) := by
  subst hn
  have CP := Lib.hid (copied_any A xs.length c xs (w.alloc (.cells Bv.zero.cells 60)) B (h.alloc hB _) rfl (by omega))
  have HR := Lib.hid (fun w2 A2 c2 (hk : Only [] (w.alloc (.cells Bv.zero.cells 60)) w2) (hr : Row w2 (w.heap.size + 1) (.slice A2 xs.length c2) xs) =>
    BBits_any w.heap.size Bv.zero A2 c2 xs [] w2 w2.heap.size ((Bld.new w Bv.zero).only hk (by simp)) rfl rfl rfl rfl (Row.nil _ _) (Nat.le_refl _) (by simp) hl (fun W ho => by
      have hb : w.heap.size ∉ own (Value.slice A2 xs.length c2) := fun hm => by have := hr.low _ hm; omega
      have ho2 : Only [w.heap.size] w2 W := ho.more (by intro k hk _; simpa [own, Bv.zero, Value.ownBlock] using hk)
      refine ⟨hr.1, fun hp => ?_⟩
      obtain ⟨g, off, e, hg, _⟩ := (hr.rd rfl).2 hp
      obtain ⟨g', off', e', _, hcell⟩ := ((hr.only (l := [w.heap.size]) ho2 (by simpa using hb)).rd rfl).2 hp
      obtain rfl := e
      have he := Option.some.inj e'
      obtain ⟨rfl, rfl⟩ : g = g' ∧ off = off' := by injection he with h1 h2; exact ⟨h1, h2⟩
      exact ⟨g, off, rfl, hg, hcell⟩))
  have HL := Lib.hid hl
  have HY := Lib.hid h.byt
  clear h hB hl
  go_enter Try.func10, Try.ntmps10
  go_wp2_with fail
  refine CP.out.mono ?_
  rintro e w2 ⟨A2, c2, rfl, hc2, hm2, hown2, hk2⟩
  have H := Lib.hid (HR.out w2 A2 c2 hk2 ⟨HY.out, by simpa using hown2⟩)
  have K2 := Lib.hid hk2
  clear hc2 hm2 hown2 hk2 HR CP
  go_wp2_with fail
  refine H.out.mono ?_
  intro e w1 hd
  obtain rfl := hd.1
  have H2 := Lib.hid (bytesOf_done hd (w := w) (((Only.refl _ _).alloc _).trans K2.out) (by simp) (by
    intro zs hz
    have h1 := elem_len hz
    rw [List.length_cons] at h1
    have h2 := HL.out
    omega))
  clear hd H
  go_wp2_with fail
  refine H2.out.mono ?_
  rintro e w2 ⟨A2, c2, ys, ok, rfl, h1⟩
  have HQ := Lib.hid h1
  clear h1 H2
  go_wp2_with fail
  go_ret2
  exact ⟨A2, c2, ys, ok, rfl, HQ.out⟩

end Go.Proofs.Ytpndhbhkmfcgaaa
