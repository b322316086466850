/- Values read by the package out of an element of a tag: contracts. -/
import Derived.Test.YtpndhbhkmfcgaaaMth
namespace Go.Proofs.Ytpndhbhkmfcgaaa
open Go.RowKit


theorem SReadBool_of (b bo : Nat) (x0 : Bool) (xs : List Int) (w : World) (B : Nat) (h : Sl w B b 43 xs) (ho : Var w bo 4 (.bool x0)) (hbo : bo ≠ b) (hB : B ≤ bo) (hn : xs.length ≤ 4194304) :
    Calls Try.prog 52 #[.pointer (some ⟨b, 0, none⟩), .pointer (some ⟨bo, 0, none⟩)] w (GaveV .bool w B b bo 4 (asOf boolOf xs 1)) := by
  have H := Lib.hid (fun W h' ho' => SReadASN1_of b w.heap.size 43 1 [] xs W B h' ho' (by have := h.lt; omega) hn (by simp))
  have HH := Lib.hid h
  have HO := Lib.hid ho
  have HL := Lib.hid (And.intro h.lt ho.lt)
  have HE := Lib.hid hbo
  have HB := Lib.hid hB
  have HN := Lib.hid hn
  clear h ho hbo hB hn
  go_enter Try.func52, Try.ntmps52
  go_wp2_with fail
  refine (H.out _ (HH.out.alloc _) (Sl.new w B _ _ rfl HH.out.low)).mono ?_
  rintro e w1 ⟨ok, zs, ys, rfl, hk, hzs, hys, hlz, hly, hg⟩
  have hk' : Only [b] w w1 := ((Only.refl _ _).alloc _).then hk (by
    intro i hi hlt
    simp at hi ⊢
    omega)
  have hvo := (HO.out.alloc _).only hk (by
    have := HE.out
    have := HL.out
    simp
    omega)
  have K := Lib.hid hk'
  have KK := Lib.hid hk
  have HVO := Lib.hid hvo
  have HYS := Lib.hid hys
  have HLY := Lib.hid hly
  have HLZ := Lib.hid hlz
  clear hk' hk hvo hys hly hlz H
  cases hf : firstOf xs 1 with
  | none =>
    rw [hf] at hg
    have hg : ok = false := hg
    subst hg
    have HF := Lib.hid hf
    clear hf hzs
    go_wp2_with fail
    go_ret
    exact ⟨false, x0, ys, rfl, K.out.more (by simp), HVO.out, HYS.out, HLY.out, by unfold asOf; rw [HF.out]; rfl⟩
  | some q =>
    obtain ⟨c, r⟩ := q
    rw [hf] at hg
    obtain ⟨rfl, rfl, rfl⟩ : ok = true ∧ zs = c ∧ ys = r := hg
    have HF := Lib.hid hf
    clear hf
    obtain ⟨hBn, A1, c1, hvz, hc1, hm1, hrz⟩ := hzs
    have hcz := hvz.cell
    have R := Lib.hid hrz
    have VZ := Lib.hid hvz
    clear hvz hrz
    have HG : Hid (∀ W v, Only [b, bo] w W → Var W bo 4 (.bool v) → Sl W B b 43 ys → boolOf zs = some v → GaveV .bool w B b bo 4 (asOf boolOf xs 1) (.returned (.bool true)) W) := Lib.hid (fun W v h1 h2 h3 h4 => ⟨true, v, ys, rfl, h1, h2, h3, HLY.out, by unfold asOf; rw [HF.out]; simp only [h4]; exact ⟨rfl, rfl, rfl⟩⟩)
    have HBad : Hid (∀ W v, Only [b, bo] w W → Var W bo 4 (.bool v) → Sl W B b 43 ys → boolOf zs = none → GaveV .bool w B b bo 4 (asOf boolOf xs 1) (.returned (.bool false)) W) := Lib.hid (fun W v h1 h2 h3 h4 => ⟨false, v, ys, rfl, h1, h2, h3, HLY.out, by unfold asOf; rw [HF.out]; simp only [h4]; rfl⟩)
    by_cases h1 : zs.length = 1
    · obtain ⟨ab, aoff, rfl, hab, hcells⟩ := R.out.2 (by omega)
      have hcell0 := hcells 0 (by omega)
      rw [Nat.add_zero] at hcell0
      have hz1 : ((zs.length : Int) != 1) = false := by simp [h1]
      have hp0 : 0 < zs.length := by omega
      have hvo := HVO.out
      have hfree := hvo.free
      have hcvo := hvo.cell
      have H1 := Lib.hid h1
      clear hcells h1 hvo
      by_cases h0 : zs.getD 0 0 = 0
      · have HV : Hid (boolOf zs = some false) := Lib.hid (by unfold boolOf; rw [if_neg (by have := H1.out; omega), if_pos h0])
        rw [h0] at hcell0
        clear h0
        go_wp2_with fail
        go_ret
        exact HG.out _ _ ((K.out.more (by simp)).setCell (.inl (by simp)) _) (HVO.out.set _) (HYS.out.far (fun e => HE.out e.symm) HB.out _) HV.out
      · by_cases h255 : zs.getD 0 0 = 255
        · have HV : Hid (boolOf zs = some true) := Lib.hid (by unfold boolOf; rw [if_neg (by have := H1.out; omega), if_neg h0, if_pos h255])
          rw [h255] at hcell0
          clear h0 h255
          go_wp2_with fail
          go_ret
          exact HG.out _ _ ((K.out.more (by simp)).setCell (.inl (by simp)) _) (HVO.out.set _) (HYS.out.far (fun e => HE.out e.symm) HB.out _) HV.out
        · have HV : Hid (boolOf zs = none) := Lib.hid (by unfold boolOf; rw [if_neg (by have := H1.out; omega), if_neg h0, if_neg h255])
          have hq0 : (zs.getD 0 0 == 0) = false := by simpa using h0
          have hq1 : (zs.getD 0 0 == 255) = false := by simpa using h255
          clear h0 h255
          generalize zs.getD 0 0 = a0 at *
          go_wp2_with fail
          go_ret
          exact HBad.out _ _ (K.out.more (by simp)) HVO.out HYS.out HV.out
    · have hz1 : ((zs.length : Int) != 1) = true := by simp; omega
      have HV : Hid (boolOf zs = none) := Lib.hid (by unfold boolOf; rw [if_pos h1])
      clear h1
      go_wp2_with fail
      go_ret
      exact HBad.out _ _ (K.out.more (by simp)) HVO.out HYS.out HV.out




end Go.Proofs.Ytpndhbhkmfcgaaa
