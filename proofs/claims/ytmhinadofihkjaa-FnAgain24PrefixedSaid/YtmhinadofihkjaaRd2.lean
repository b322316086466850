/- The package's length-prefixed reading, and CopyBytes: contracts. -/
import Derived.Test.YtmhinadofihkjaaRd1
import Derived.Laws.CopyOwn
namespace Go.Proofs.Ytmhinadofihkjaa
open Go.RowKit

/-- What stands behind a length in m bytes. -/
def lpSize (xs : List Int) (m : Nat) : Nat := (beN (xs.take m)).toNat
theorem SreadLP_short (b bo : Nat) (m : Nat) (xs : List Int) (w : World) (B : Nat) (h : Sl w B b 58 xs) (hl : xs.length < m) :
    Calls Try.prog 64 #[.pointer (some ⟨b, 0, none⟩), .int .i64 m, .pointer (some ⟨bo, 0, none⟩)] w fun e w' => e = .returned (.bool false) ∧ w = w' := by
  have H := Lib.hid (read_sl_no b m xs w B h (by omega))
  clear h hl
  go_enter Try.func64, Try.ntmps64
  go_wp2_with fail
  refine H.out.mono ?_
  rintro e w1 ⟨rfl, rfl⟩
  go_wp2
  go_ret
  exact ⟨rfl, rfl⟩

theorem SreadLP_ok (b bo : Nat) (m : Nat) (vo : Value) (xs : List Int) (w : World) (B : Nat) (h : Sl w B b 58 xs) (ho : Var w bo 58 vo) (hne : bo ≠ b) (hB : B ≤ bo) (h1 : 1 ≤ m) (h3 : m ≤ 3) (hl : m ≤ xs.length) :
    Calls Try.prog 64 #[.pointer (some ⟨b, 0, none⟩), .int .i64 m, .pointer (some ⟨bo, 0, none⟩)] w fun e w' =>
      (e = .returned (.bool (decide (lpSize xs m ≤ xs.length - m))) ∧ Only [b, bo] w w') ∧ (lpSize xs m ≤ xs.length - m → Sl w' B bo 58 ((xs.drop m).take (lpSize xs m)) ∧ Sl w' B b 58 (xs.drop (m + lpSize xs m))) ∧
      (¬ lpSize xs m ≤ xs.length - m → Var w' bo 58 vo ∧ Sl w' B b 58 (xs.drop m)) := by
  have H := Lib.hid (read_sl b m xs w B h (by omega) (by omega))
  have hby := h.byt
  have HL := Lib.hid hl
  have HY := Lib.hid hby
  have hbo : b ≠ bo := fun e => hne e.symm
  rw [Int.toNat_natCast] at H
  clear h hl hby
  go_enter Try.func64, Try.ntmps64
  go_wp2_with fail
  refine H.out.mono ?_
  rintro e w1 ⟨A, c, rfl, hc, hm, hA, hr, hs, hk⟩
  obtain ⟨ab, aoff, rfl, hab, hcells⟩ := Rd.cells hr HL.out h1
  have NNw : NN w1 b := (hA (.inl (by have := HL.out; omega))).2
  have NNH := Lib.hid NNw
  clear NNw
  have hv := ho.only hk (by simpa using hne)
  have HC := Lib.hid hcells
  have HS := Lib.hid hs
  have HK := Lib.hid hk
  have HV := Lib.hid hv
  clear hcells hs hk hv hr hA H ho hab
  go_wp2_with fail
  go_loop [8, 19] (fun v i => ∃ k : Nat, k ≤ m ∧ i = .int .i64 k ∧ v = .int .u32 (beN (xs.take k))) (fun _ i => m - (intOf i).toNat)
  case atStart => exact ⟨0, Nat.zero_le _, rfl, rfl⟩
  case round =>
    obtain ⟨k, hk, rfl, rfl⟩ := hrel
    by_cases hlt : k < m
    · have hcell := HC.out k hlt
      obtain ⟨x0, x1⟩ := Byt.getD HY.out k
      obtain ⟨b0, b2⟩ := beN_take_le2 xs HY.out k (by omega)
      have hsu := Lib.hid (beN_take_succ xs k (by have := HL.out; omega))
      generalize beN (xs.take k) = v at *
      generalize xs.getD k 0 = x at *
      have e1 : bits .or .u32 (v * 256) x = v * 256 + x := or_join_u32 _ _ 8 256 rfl (by omega) (by omega) x0 (by omega) (by omega)
      go_wp2
      go_round
      case rel => exact ⟨k + 1, by omega, by go_num, by rw [hsu.out]⟩
      case measure => simp [intOf]; omega
    · have e : k = m := by omega
      subst e
      obtain ⟨b0, b2⟩ := beN_take_le3 xs HY.out k (by omega)
      have hsz : ((lpSize xs k : Nat) : Int) = beN (xs.take k) := by unfold lpSize; omega
      have hdl : (xs.drop k).length = xs.length - k := by simp
      have NNw := NNH.out
      by_cases hfit : lpSize xs k ≤ xs.length - k
      · have R := Lib.hid (fun w h => read_sl (t := 58) b (beN (xs.take k)) (xs.drop k) w B h b0 (by rw [hdl]; omega))
        have hn : (beN (xs.take k)).toNat = lpSize xs k := rfl
        rw [hn] at R
        have HF := Lib.hid hfit
        have HSZ := Lib.hid hsz
        have HDL := Lib.hid hdl
        have HNN := Lib.hid (NNw)
        clear hfit hsz hdl hn hlt NNw
        generalize beN (xs.take k) = v at *
        go_wp2_with fail
        refine (R.out _ HS.out).mono ?_
        rintro e w2 ⟨A2, c2, rfl, hc2, hm2, hA2, hr2, hs2, hk2⟩
        obtain ⟨⟨ad2, rfl⟩, _⟩ := hA2 (.inr HNN.out)
        have hv2 := HV.out.only hk2 (by simpa using hne)
        have hcell2 := hv2.cell
        have hfree2 := hv2.free
        have hfin : ∀ u, Only [b, bo] w (w2.setCell ⟨bo, 0, none⟩ u) := fun u => ((HK.out.trans hk2).more (by simp)).setCell (.inl (by simp)) u
        have hfin2 : Sl (w2.setCell ⟨bo, 0, none⟩ (.slice (some ad2) (lpSize xs k) c2)) B bo 58 ((xs.drop k).take (lpSize xs k)) := by
          have e : ((xs.drop k).take (lpSize xs k)).length = lpSize xs k := by have := HF.out; simp; omega
          exact ⟨hB, some ad2, c2, by rw [e]; exact hv2.set _, by omega, hm2, hr2.setCell hB _⟩
        have hfin3 : ∀ u, Sl (w2.setCell ⟨bo, 0, none⟩ u) B b 58 (xs.drop (k + lpSize xs k)) := fun u => by
          have := hs2.far (p := ⟨bo, 0, none⟩) hbo hB u
          rwa [List.drop_drop] at this
        have J1 := Lib.hid hfin
        have J2 := Lib.hid hfin2
        have J3 := Lib.hid hfin3
        clear hfin hfin2 hfin3 hs2 hk2 hr2 hv2 hA2 R
        go_wp2_with fail
        go_ret
        exact ⟨⟨by simp [HF.out], J1.out _⟩, fun _ => ⟨J2.out, J3.out _⟩, fun hno => absurd HF.out hno⟩
      · have R := Lib.hid (fun w h => read_sl_no (t := 58) b (beN (xs.take k)) (xs.drop k) w B h (.inr (by rw [hdl]; omega)))
        have HF := Lib.hid hfit
        clear hfit hsz hdl hlt NNw
        generalize beN (xs.take k) = v at *
        go_wp2_with fail
        refine (R.out _ HS.out).mono ?_
        rintro e w2 ⟨rfl, rfl⟩
        go_wp2_with fail
        go_ret
        exact ⟨⟨by simp [HF.out], HK.out.more (by simp)⟩, fun h => absurd h HF.out, fun _ => ⟨HV.out, HS.out⟩⟩
theorem SReadUint8LengthPrefixed_ok (b bo : Nat) (vo : Value) (xs : List Int) (w : World) (B : Nat) (h : Sl w B b 58 xs) (ho : Var w bo 58 vo) (hne : bo ≠ b) (hB : B ≤ bo) (hl : 1 ≤ xs.length) :
    Calls Try.prog 55 #[.pointer (some ⟨b, 0, none⟩), .pointer (some ⟨bo, 0, none⟩)] w fun e w' =>
      (e = .returned (.bool (decide (lpSize xs 1 ≤ xs.length - 1))) ∧ Only [b, bo] w w') ∧ (lpSize xs 1 ≤ xs.length - 1 → Sl w' B bo 58 ((xs.drop 1).take (lpSize xs 1)) ∧ Sl w' B b 58 (xs.drop (1 + lpSize xs 1))) ∧
      (¬ lpSize xs 1 ≤ xs.length - 1 → Var w' bo 58 vo ∧ Sl w' B b 58 (xs.drop 1)) := by
  have H := Lib.hid (SreadLP_ok b bo 1 vo xs w B h ho hne hB (by omega) (by omega) hl)
  clear h ho hne hB hl
  go_enter Try.func55, Try.ntmps55
  go_wp2_with fail
  refine H.out.mono ?_
  rintro e w1 ⟨⟨rfl, h1⟩, h2, h3⟩
  have J1 := Lib.hid h1
  have J2 := Lib.hid h2
  have J3 := Lib.hid h3
  clear h1 h2 h3 H
  go_wp2_with fail
  go_ret
  exact ⟨⟨rfl, J1.out⟩, J2.out, J3.out⟩
theorem SReadUint8LengthPrefixed_short (b bo : Nat) (xs : List Int) (w : World) (B : Nat) (h : Sl w B b 58 xs) (hl : xs.length < 1) :
    Calls Try.prog 55 #[.pointer (some ⟨b, 0, none⟩), .pointer (some ⟨bo, 0, none⟩)] w fun e w' => e = .returned (.bool false) ∧ w = w' := by
  have H := Lib.hid (SreadLP_short b bo 1 xs w B h hl)
  clear h hl
  go_enter Try.func55, Try.ntmps55
  go_wp2_with fail
  refine H.out.mono ?_
  rintro e w1 ⟨rfl, rfl⟩
  go_wp2_with fail
  go_ret
  exact ⟨rfl, rfl⟩
theorem SReadUint16LengthPrefixed_ok (b bo : Nat) (vo : Value) (xs : List Int) (w : World) (B : Nat) (h : Sl w B b 58 xs) (ho : Var w bo 58 vo) (hne : bo ≠ b) (hB : B ≤ bo) (hl : 2 ≤ xs.length) :
    Calls Try.prog 51 #[.pointer (some ⟨b, 0, none⟩), .pointer (some ⟨bo, 0, none⟩)] w fun e w' =>
      (e = .returned (.bool (decide (lpSize xs 2 ≤ xs.length - 2))) ∧ Only [b, bo] w w') ∧ (lpSize xs 2 ≤ xs.length - 2 → Sl w' B bo 58 ((xs.drop 2).take (lpSize xs 2)) ∧ Sl w' B b 58 (xs.drop (2 + lpSize xs 2))) ∧
      (¬ lpSize xs 2 ≤ xs.length - 2 → Var w' bo 58 vo ∧ Sl w' B b 58 (xs.drop 2)) := by
  have H := Lib.hid (SreadLP_ok b bo 2 vo xs w B h ho hne hB (by omega) (by omega) hl)
  clear h ho hne hB hl
  go_enter Try.func51, Try.ntmps51
  go_wp2_with fail
  refine H.out.mono ?_
  rintro e w1 ⟨⟨rfl, h1⟩, h2, h3⟩
  have J1 := Lib.hid h1
  have J2 := Lib.hid h2
  have J3 := Lib.hid h3
  clear h1 h2 h3 H
  go_wp2_with fail
  go_ret
  exact ⟨⟨rfl, J1.out⟩, J2.out, J3.out⟩
theorem SReadUint16LengthPrefixed_short (b bo : Nat) (xs : List Int) (w : World) (B : Nat) (h : Sl w B b 58 xs) (hl : xs.length < 2) :
    Calls Try.prog 51 #[.pointer (some ⟨b, 0, none⟩), .pointer (some ⟨bo, 0, none⟩)] w fun e w' => e = .returned (.bool false) ∧ w = w' := by
  have H := Lib.hid (SreadLP_short b bo 2 xs w B h hl)
  clear h hl
  go_enter Try.func51, Try.ntmps51
  go_wp2_with fail
  refine H.out.mono ?_
  rintro e w1 ⟨rfl, rfl⟩
  go_wp2_with fail
  go_ret
  exact ⟨rfl, rfl⟩
theorem SReadUint24LengthPrefixed_ok (b bo : Nat) (vo : Value) (xs : List Int) (w : World) (B : Nat) (h : Sl w B b 58 xs) (ho : Var w bo 58 vo) (hne : bo ≠ b) (hB : B ≤ bo) (hl : 3 ≤ xs.length) :
    Calls Try.prog 54 #[.pointer (some ⟨b, 0, none⟩), .pointer (some ⟨bo, 0, none⟩)] w fun e w' =>
      (e = .returned (.bool (decide (lpSize xs 3 ≤ xs.length - 3))) ∧ Only [b, bo] w w') ∧ (lpSize xs 3 ≤ xs.length - 3 → Sl w' B bo 58 ((xs.drop 3).take (lpSize xs 3)) ∧ Sl w' B b 58 (xs.drop (3 + lpSize xs 3))) ∧
      (¬ lpSize xs 3 ≤ xs.length - 3 → Var w' bo 58 vo ∧ Sl w' B b 58 (xs.drop 3)) := by
  have H := Lib.hid (SreadLP_ok b bo 3 vo xs w B h ho hne hB (by omega) (by omega) hl)
  clear h ho hne hB hl
  go_enter Try.func54, Try.ntmps54
  go_wp2_with fail
  refine H.out.mono ?_
  rintro e w1 ⟨⟨rfl, h1⟩, h2, h3⟩
  have J1 := Lib.hid h1
  have J2 := Lib.hid h2
  have J3 := Lib.hid h3
  clear h1 h2 h3 H
  go_wp2_with fail
  go_ret
  exact ⟨⟨rfl, J1.out⟩, J2.out, J3.out⟩
theorem SReadUint24LengthPrefixed_short (b bo : Nat) (xs : List Int) (w : World) (B : Nat) (h : Sl w B b 58 xs) (hl : xs.length < 3) :
    Calls Try.prog 54 #[.pointer (some ⟨b, 0, none⟩), .pointer (some ⟨bo, 0, none⟩)] w fun e w' => e = .returned (.bool false) ∧ w = w' := by
  have H := Lib.hid (SreadLP_short b bo 3 xs w B h hl)
  clear h hl
  go_enter Try.func54, Try.ntmps54
  go_wp2_with fail
  refine H.out.mono ?_
  rintro e w1 ⟨rfl, rfl⟩
  go_wp2_with fail
  go_ret
  exact ⟨rfl, rfl⟩
end Go.Proofs.Ytmhinadofihkjaa
