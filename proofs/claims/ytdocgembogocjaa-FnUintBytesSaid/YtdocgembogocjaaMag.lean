/- The bytes of an integer, read by the package out of an element of a tag: contracts. -/
import Derived.Test.YtdocgembogocjaaMth
namespace Go.Proofs.Ytdocgembogocjaa
open Go.RowKit

theorem SreadASN1Bytes_of (b bo : Nat) (ws : List Int) (hw : ws.length ≤ 1048576) (xs : List Int) (w : World) (B : Nat) (h : Sl w B b 55 xs) (ho : Sl w B bo 22 ws) (hbo : bo ≠ b) (hB : B ≤ bo) (hn : xs.length ≤ 1048576) :
    Calls Try.prog 53 #[.pointer (some ⟨b, 0, none⟩), .pointer (some ⟨bo, 0, none⟩)] w (Gave w B b bo 22 (asOf magOf xs 2)) := by
  have H := Lib.hid (fun W h' ho' => SReadASN1_of b w.heap.size 55 2 [] xs W B h' ho' (by have := h.lt; omega) hn (by simp))
  have HH := Lib.hid h
  have HO := Lib.hid ho
  have HL := Lib.hid (And.intro h.lt ho.lt)
  have HE := Lib.hid hbo
  have HB := Lib.hid hB
  have HN := Lib.hid hn
  have HW := Lib.hid hw
  clear hw
  clear h ho hbo hB hn
  go_enter Try.func53, Try.ntmps53
  go_wp2_with fail
  refine (H.out _ (HH.out.alloc _) (Sl.new w B _ _ rfl HH.out.low)).mono ?_
  rintro e w1 ⟨ok, zs, ys, rfl, hk, hzs, hys, hlz, hly, hg⟩
  have hk' : Only [b] w w1 := ((Only.refl _ _).alloc _).then hk (by
    intro i hi hlt
    simp at hi ⊢
    omega)
  have hvo := (HO.out.alloc _).only hk (by
    have := HE.out
    have := HL.out
    simp
    omega) (by have := HH.out.1; have := HH.out.low; simp; omega)
  have K := Lib.hid hk'
  have KK := Lib.hid hk
  have HVO := Lib.hid hvo
  have HYS := Lib.hid hys
  have HLY := Lib.hid hly
  have HLZ := Lib.hid hlz
  clear hk' hk hvo hys hly hlz H
  cases hf : firstOf xs 2 with
  | none =>
    rw [hf] at hg
    have hg : ok = false := hg
    subst hg
    have HF := Lib.hid hf
    clear hf hzs
    go_wp2_with fail
    go_ret
    exact ⟨false, ws, ys, rfl, K.out.more (by simp), HVO.out, HYS.out, HW.out, HLY.out, by unfold asOf; rw [HF.out]; rfl⟩
  | some q =>
    obtain ⟨c, r⟩ := q
    rw [hf] at hg
    obtain ⟨rfl, rfl, rfl⟩ : ok = true ∧ zs = c ∧ ys = r := hg
    have HF := Lib.hid hf
    clear hf
    obtain ⟨hBn, A1, c1, hvz, hc1, hm1, hrz⟩ := hzs
    have hcz := hvz.cell
    have R := Lib.hid hrz
    have VZ := Lib.hid hvz
    clear hvz hrz
    have HBad : Hid (∀ W, Only [b, bo] w W → Sl W B bo 22 ws → Sl W B b 55 ys → magOf zs = none → Gave w B b bo 22 (asOf magOf xs 2) (.returned (.bool false)) W) := Lib.hid (fun W h1 h2 h3 h4 => ⟨false, ws, ys, rfl, h1, h2, h3, HW.out, HLY.out, by unfold asOf; rw [HF.out]; simp only [h4]; rfl⟩)
    have HG : Hid (∀ W v, Only [b, bo] w W → Sl W B bo 22 v → Sl W B b 55 ys → magOf zs = some v → Gave w B b bo 22 (asOf magOf xs 2) (.returned (.bool true)) W) := Lib.hid (fun W v h1 h2 h3 h4 => by
      have hl := HLZ.out
      have hv : v.length ≤ 1048576 := by
        unfold magOf at h4
        split at h4
        · simp only [Option.some.injEq] at h4
          subst h4
          split
          · simp; omega
          · exact hl
        · cases h4
      refine ⟨true, v, ys, rfl, h1, h2, h3, hv, HLY.out, ?_⟩
      unfold asOf
      rw [HF.out]
      simp only [h4]
      exact ⟨rfl, rfl, rfl⟩)
    go_wp2_with fail
    refine (check_any A1 zs.length c1 zs w1 B R.out rfl).mono ?_
    rintro e w1' ⟨rfl, rfl⟩
    cases hir : intRight zs with
    | false =>
      have HV : Hid (magOf zs = none) := Lib.hid (by unfold magOf; rw [if_neg (by simp [hir])])
      clear hir
      go_wp2_with fail
      go_ret
      exact HBad.out _ (K.out.more (by simp)) HVO.out HYS.out HV.out
    | true =>
      have hp0 : 0 < zs.length := intRight_pos hir
      obtain ⟨ab, aoff, rfl, hab, hcells⟩ := R.out.2 hp0
      have hcell0 := hcells 0 hp0
      rw [Nat.add_zero] at hcell0
      obtain ⟨x0, x1⟩ := Byt.getD R.out.byt 0
      have ha := u8_and128 _ x0 x1
      have HC := Lib.hid hcells
      have hmag : magOf zs = if zs.getD 0 0 < 128 then some (if 1 < zs.length ∧ zs.getD 0 0 = 0 then zs.drop 1 else zs) else none := by
        unfold magOf
        by_cases hc : zs.getD 0 0 < 128
        · rw [if_pos ⟨hir, hc⟩, if_pos hc]
        · rw [if_neg (fun h => hc h.2), if_neg hc]
      have hnext : 1 < zs.length → zs.getD 0 0 = 0 → zs.getD 1 0 ≠ 0 := by
        intro h1 h2 h3
        unfold intRight at hir
        simp only [decide_eq_true_eq] at hir
        omega
      have HN1 := Lib.hid hnext
      clear hcells hir hnext hab
      by_cases hlt : zs.getD 0 0 < 128
      · rw [if_pos hlt] at ha hmag
        have hfz := VZ.out.free
        have h0eq : (0 : Int) ≤ 0 := Int.le_refl _
        clear h0eq
        by_cases hone : 1 < zs.length ∧ zs.getD 0 0 = 0
        · rw [if_pos hone] at hmag
          obtain ⟨h2, e0⟩ := hone
          have hne := HN1.out h2 e0
          have hcell1 := HC.out 1 h2
          rw [e0] at hcell0 ha
          have hcut := R.out.cut (k := 1) hc1
          have hc1' : ¬ c1 = 1 := by omega
          unfold cutA at hcut
          rw [if_neg hc1'] at hcut
          have HV := Lib.hid hmag
          have HCut := Lib.hid hcut
          have hnb : (zs.getD 1 0 == 0) = false := beq_eq_false_iff_ne.2 hne
          have hle1 : (1 : Int) ≤ (zs.length : Int) := by omega
          have hlec : (1 : Int) ≤ (c1 : Int) := by omega
          have HC1 := Lib.hid hc1
          have HM1 := Lib.hid hm1
          clear hmag x0 x1 hlt hBn e0 hne hcut HN1 HC hc1 hm1
          generalize zs.getD 1 0 = a1 at *
          generalize zs.getD 0 0 = a0 at *
          have hlz : B ≤ w.heap.size := HH.out.low
          have HEnd : Hid (Gave w B b bo 22 (asOf magOf xs 2) (.returned (.bool true)) ((w1.setCell ⟨w.heap.size, 0, none⟩ (.slice (some ⟨ab, aoff + 1, none⟩) (zs.length - 1) (c1 - 1))).setCell ⟨bo, 0, none⟩ (.slice (some ⟨ab, aoff + 1, none⟩) (zs.length - 1) (c1 - 1)))) := Lib.hid (by
            have hlo := HL.out
            have hz1 : w.heap.size < w1.heap.size := by have := VZ.out.lt; exact this
            have hk1 : Only [b, bo] w (w1.setCell ⟨w.heap.size, 0, none⟩ (.slice (some ⟨ab, aoff + 1, none⟩) (zs.length - 1) (c1 - 1))) := (K.out.more (by simp)).setCell (.inr (Nat.le_refl _)) _
            refine HG.out _ (zs.drop 1) (hk1.setCell (.inl (by simp)) _) ?_ ?_ HV.out
            · obtain ⟨_, _, _, hvo, _⟩ := HVO.out
              have hm := HM1.out
              have hc := HC1.out
              refine ⟨HB.out, _, c1 - 1, ?_, by simp; omega, by omega, (HCut.out.setCell hlz _).setCell HB.out _⟩
              rw [List.length_drop]
              exact (hvo.far (p := ⟨w.heap.size, 0, none⟩) (by simp; omega) _).set _
            · refine (HYS.out.far (p := ⟨w.heap.size, 0, none⟩) (by simp; omega) hlz _).far (Ne.symm HE.out) HB.out _)
          obtain ⟨_, _, _, hvo, _⟩ := HVO.out
          have hco := hvo.cell
          have hfo := hvo.free
          have hne2 : bo ≠ w.heap.size := by have := HL.out; omega
          clear hvo
          go_wp2_with fail
          refine wp_loop_rounds 2 ?_
          rw [rounds_succ]
          go_wp2_with fail
          rw [rounds_succ]
          go_wp2_with fail
          all_goals
            go_ret
            exact HEnd.out
        · rw [if_neg hone] at hmag
          have HV := Lib.hid hmag
          have HC1 := Lib.hid hc1
          have HM1 := Lib.hid hm1
          have HEnd : Hid (Gave w B b bo 22 (asOf magOf xs 2) (.returned (.bool true)) (w1.setCell ⟨bo, 0, none⟩ (.slice (some ⟨ab, aoff, none⟩) zs.length c1))) := Lib.hid (by
            refine HG.out _ zs ?_ ?_ ?_ HV.out
            · exact (K.out.more (by simp)).setCell (.inl (by simp)) _
            · obtain ⟨_, _, _, hvo, _⟩ := HVO.out
              exact ⟨HB.out, _, c1, hvo.set _, HC1.out, HM1.out, R.out.setCell HB.out _⟩
            · exact HYS.out.far (Ne.symm HE.out) HB.out _)
          obtain ⟨_, _, _, hvo, _⟩ := HVO.out
          have hco := hvo.cell
          have hfo := hvo.free
          have hne0 : (zs.getD 0 0 == 0) = false ∨ decide (1 < zs.length) = false := by
            by_cases h1 : 1 < zs.length
            · left
              exact beq_eq_false_iff_ne.2 (fun e => hone ⟨h1, e⟩)
            · right
              exact decide_eq_false h1
          clear hmag x0 x1 hlt hBn HN1 HC hc1 hm1 hvo hone
          by_cases h1 : 1 < zs.length
          · have hne1 : (zs.getD 0 0 == 0) = false := by
              rcases hne0 with h | h
              · exact h
              · simp [h1] at h
            clear hne0
            generalize zs.getD 0 0 = a0 at *
            go_wp2_with fail
            refine wp_loop_rounds 1 ?_
            rw [rounds_succ]
            go_wp2_with fail
            go_ret
            exact HEnd.out
          · clear hne0
            have hd1 : decide (1 < zs.length) = false := decide_eq_false h1
            generalize zs.getD 0 0 = a0 at *
            go_wp2_with fail
            refine wp_loop_rounds 1 ?_
            rw [rounds_succ]
            go_wp2_with fail
            go_ret
            exact HEnd.out
      · rw [if_neg hlt] at ha hmag
        have HV := Lib.hid hmag
        clear hmag x0 x1 hlt
        generalize zs.getD 0 0 = a0 at *
        go_wp2_with fail
        go_ret
        exact HBad.out _ (K.out.more (by simp)) HVO.out HYS.out HV.out
end Go.Proofs.Ytdocgembogocjaa
