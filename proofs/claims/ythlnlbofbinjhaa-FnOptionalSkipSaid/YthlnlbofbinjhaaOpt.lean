/- Optional elements: contracts. -/
import Derived.Test.YthlnlbofbinjhaaOf
namespace Go.Proofs.Ythlnlbofbinjhaa
open Go.RowKit

/-- What passing an element over, if it is there, should give. -/
def skipOpt (xs : List Int) (tag : Int) : Option (Unit × List Int) := if peek xs tag then (firstOf xs tag).map fun p => ((), p.2) else some ((), xs)
/-- What reading an element, if it is there, should give. -/
def readOpt (ws xs : List Int) (tag : Int) : Option (List Int × List Int) := if peek xs tag then firstOf xs tag else some (ws, xs)
/-- What reading one octet string within an element, if it is there, should give. -/
def octOf (c : List Int) : Option (List Int) := match firstOf c 4 with | some (d, r) => if r = [] then some d else none | none => none
def readOpt8 (xs : List Int) (tag : Int) : Option (List Int × List Int) := if peek xs tag then asOf octOf xs tag else some ([], xs)
theorem readOpt_no {ws xs : List Int} {tag : Int} (h : peek xs tag = false) : readOpt ws xs tag = some (ws, xs) := by unfold readOpt; rw [h]; rfl
theorem readOpt_yes {ws xs : List Int} {tag : Int} (h : peek xs tag = true) : readOpt ws xs tag = firstOf xs tag := by unfold readOpt; rw [h]; rfl
theorem readOpt8_no {xs : List Int} {tag : Int} (h : peek xs tag = false) : readOpt8 xs tag = some ([], xs) := by unfold readOpt8; rw [h]; rfl
theorem readOpt8_yes {xs : List Int} {tag : Int} (h : peek xs tag = true) : readOpt8 xs tag = asOf octOf xs tag := by unfold readOpt8; rw [h]; rfl
theorem skipOpt_no {xs : List Int} {tag : Int} (h : peek xs tag = false) : skipOpt xs tag = some ((), xs) := by unfold skipOpt; rw [h]; rfl
theorem skipOpt_yes {xs : List Int} {tag : Int} (h : peek xs tag = true) : skipOpt xs tag = (firstOf xs tag).map fun p => ((), p.2) := by unfold skipOpt; rw [h]; rfl

theorem peek_yes {xs : List Int} {tag : Int} (h : peek xs tag = true) : 0 < xs.length ∧ xs.getD 0 0 = tag := by
  unfold peek at h
  simpa only [Bool.and_eq_true, decide_eq_true_eq] using h
theorem peek_no {xs : List Int} {tag : Int} (h : peek xs tag = false) : xs.length = 0 ∨ (0 < xs.length ∧ xs.getD 0 0 ≠ tag) := by
  rcases Nat.eq_zero_or_pos xs.length with h0 | h0
  · exact .inl h0
  · refine .inr ⟨h0, fun e => ?_⟩
    unfold peek at h
    rw [decide_eq_true h0, decide_eq_true e] at h
    cases h

theorem SSkipOptional_of (b : Nat) (tag : Int) (xs : List Int) (w : World) (B : Nat) (h : Sl w B b 37 xs) (hn : xs.length ≤ 1048576) :
    Calls Try.prog 30 #[.pointer (some ⟨b, 0, none⟩), .int .u8 tag] w fun e w' => ∃ ok ys, e = .returned (.bool ok) ∧ Only [b] w w' ∧ Sl w' B b 37 ys ∧ ys.length ≤ 1048576 ∧ Got (skipOpt xs tag) ok () ys := by
  have H := Lib.hid (fun W h' ho' => SReadASN1_of b w.heap.size 37 tag [] xs W B h' ho' (by have := h.lt; omega) hn (by simp))
  have HH := Lib.hid h
  have HN := Lib.hid hn
  obtain ⟨hB, A, c, hv, hc, hm, hr⟩ := h
  have R := Lib.hid hr
  have hcell := hv.cell
  clear hr hv hB hn hc hm
  cases hp : peek xs tag with
  | false =>
    have HP := Lib.hid hp
    clear hp H
    go_enter Try.func30, Try.ntmps30
    go_wp2_with fail
    refine (VPeek_any A _ c tag xs w B R.out rfl).mono ?_
    rw [HP.out]
    rintro e w1 ⟨rfl, rfl⟩
    go_wp2_with fail
    go_ret
    exact ⟨true, xs, rfl, Only.refl _ _, HH.out, HN.out, by rw [skipOpt_no HP.out]; exact ⟨rfl, rfl, rfl⟩⟩
  | true =>
    have HP := Lib.hid hp
    clear hp
    go_enter Try.func30, Try.ntmps30
    go_wp2_with fail
    refine (VPeek_any A _ c tag xs w B R.out rfl).mono ?_
    rw [HP.out]
    rintro e w1 ⟨rfl, rfl⟩
    go_wp2_with fail
    refine (H.out _ (HH.out.alloc _) (Sl.new w B _ _ rfl HH.out.low)).mono ?_
    rintro e w1 ⟨ok, zs, ys, rfl, hk, hzs, hys, hlz, hly, hg⟩
    have K : Hid (Only [b] w w1) := Lib.hid (((Only.refl _ _).alloc _).then hk (by
      intro i hi hlt
      simp at hi ⊢
      omega))
    have HYS := Lib.hid hys
    have HLY := Lib.hid hly
    have HG := Lib.hid hg
    clear hk hzs hys hlz hly hg H
    go_wp2_with fail
    go_ret
    refine ⟨ok, ys, rfl, K.out, HYS.out, HLY.out, ?_⟩
    rw [skipOpt_yes HP.out]
    have := HG.out
    revert this
    cases firstOf xs tag with
    | none => exact fun h => h
    | some q => exact fun h => ⟨h.1, rfl, h.2.2⟩

theorem SReadOptional_of (b bo bp : Nat) (to : TypeId) (tag : Int) (p0 : Bool) (ws xs : List Int) (w : World) (B : Nat) (h : Sl w B b 37 xs) (ho : Sl w B bo to ws) (hp : Var w bp 4 (.bool p0)) (hbo : bo ≠ b) (hbp : bp ≠ b) (hbp2 : bp ≠ bo) (hB : B ≤ bp) (hn : xs.length ≤ 1048576) (hw : ws.length ≤ 1048576) :
    Calls Try.prog 31 #[.pointer (some ⟨b, 0, none⟩), .pointer (some ⟨bo, 0, none⟩), .pointer (some ⟨bp, 0, none⟩), .int .u8 tag] w fun e w' =>
      ∃ ok zs ys, e = .returned (.bool ok) ∧ Only [b, bo, bp] w w' ∧ Sl w' B bo to zs ∧ Sl w' B b 37 ys ∧ Var w' bp 4 (.bool (peek xs tag)) ∧ zs.length ≤ 1048576 ∧ ys.length ≤ 1048576 ∧ Got (readOpt ws xs tag) ok zs ys := by
  have H := Lib.hid (fun W h' ho' => SReadASN1_of b bo to tag ws xs W B h' ho' hbo hn hw)
  have HH := Lib.hid (h.far (p := ⟨bp, 0, none⟩) (fun e => hbp e.symm) hB (.bool (peek xs tag)))
  have HO := Lib.hid (ho.far (p := ⟨bp, 0, none⟩) (fun e => hbp2 e.symm) hB (.bool (peek xs tag)))
  have HP := Lib.hid (hp.set (.bool (peek xs tag)))
  have HN := Lib.hid (And.intro hn hw)
  have HE := Lib.hid (And.intro hbp hbp2)
  have hfree := hp.free
  have hcp := hp.cell
  have K : Hid (Only [b, bo, bp] w (w.setCell ⟨bp, 0, none⟩ (.bool (peek xs tag)))) := Lib.hid ((Only.refl _ _).setCell (.inl (by simp)) _)
  obtain ⟨hB0, A, c, hv, hc, hm, hr⟩ := h
  have R := Lib.hid hr
  have hcell := hv.cell
  clear hr hv hB hn hw hbo hbp hbp2 ho hp hB0 hc hm
  go_enter Try.func31, Try.ntmps31
  go_wp2_with fail
  refine (VPeek_any A _ c tag xs w B R.out rfl).mono ?_
  rintro e w1 ⟨rfl, rfl⟩
  cases hp : peek xs tag with
  | false =>
    have HQ := Lib.hid hp
    rw [hp] at HP HH HO K
    clear hp H
    go_wp2_with fail
    go_ret
    exact ⟨true, ws, xs, rfl, K.out, HO.out, HH.out, by rw [HQ.out]; exact HP.out, HN.out.2, HN.out.1, by rw [readOpt_no HQ.out]; exact ⟨rfl, rfl, rfl⟩⟩
  | true =>
    have HQ := Lib.hid hp
    rw [hp] at HP HH HO K
    clear hp
    go_wp2_with fail
    refine (H.out _ HH.out HO.out).mono ?_
    rintro e w1 ⟨ok, zs, ys, rfl, hk, hzs, hys, hlz, hly, hg⟩
    have HF : Hid (∃ zs ys, Only [b, bo, bp] w w1 ∧ Sl w1 B bo to zs ∧ Sl w1 B b 37 ys ∧ Var w1 bp 4 (.bool true) ∧ zs.length ≤ 1048576 ∧ ys.length ≤ 1048576 ∧ Got (readOpt ws xs tag) ok zs ys) :=
      Lib.hid ⟨zs, ys, K.out.trans (hk.more (by simp)), hzs, hys, HP.out.only hk (by have := HE.out; simp; omega), hlz, hly, by rw [readOpt_yes HQ.out]; exact hg⟩
    clear hk hzs hys hlz hly hg H
    cases ok
    all_goals
      go_wp2_with fail
      go_ret
      obtain ⟨zs, ys, h⟩ := HF.out
      refine ⟨_, zs, ys, rfl, ?_⟩
      rw [HQ.out]
      exact h

theorem VEmpty_any (A : Option Addr) (n c : Nat) (w : World) : Calls Try.prog 36 #[.slice A n c] w fun e w' => e = .returned (.bool (decide (n = 0))) ∧ w = w' := by
  go_enter Try.func36, Try.ntmps36
  go_wp2_with fail
  go_ret
  refine ⟨?_, rfl⟩
  by_cases e : n = 0 <;> simp [e]

theorem SReadOctets_of (b bo bp : Nat) (tag : Int) (p0 : Bool) (ws xs : List Int) (w : World) (B : Nat) (h : Sl w B b 37 xs) (ho : Sl w B bo 22 ws) (hp : Var w bp 4 (.bool p0)) (hbo : bo ≠ b) (hbp : bp ≠ b) (hbp2 : bp ≠ bo) (hB : B ≤ bp) (hn : xs.length ≤ 1048576) (hw : ws.length ≤ 1048576) :
    Calls Try.prog 32 #[.pointer (some ⟨b, 0, none⟩), .pointer (some ⟨bo, 0, none⟩), .pointer (some ⟨bp, 0, none⟩), .int .u8 tag] w fun e w' =>
      ∃ ok zs ys p, e = .returned (.bool ok) ∧ Only [b, bo, bp] w w' ∧ Sl w' B bo 22 zs ∧ Sl w' B b 37 ys ∧ Var w' bp 4 (.bool p) ∧ zs.length ≤ 1048576 ∧ ys.length ≤ 1048576 ∧ Got (readOpt8 xs tag) ok zs ys ∧ (ok = true → p = peek xs tag) := by
  have H := Lib.hid (fun W h' ho' hp' => SReadOptional_of b (w.heap.size + 1) w.heap.size 37 tag false [] xs W B h' ho' hp' (by have := h.lt; omega) (by have := h.lt; omega) (by omega) h.low hn (by simp))
  have HH := Lib.hid h
  have HO := Lib.hid ho
  have HP := Lib.hid hp
  have HL := Lib.hid (And.intro h.lt (And.intro ho.lt hp.lt))
  have HE := Lib.hid (And.intro hbo (And.intro hbp hbp2))
  have HB := Lib.hid hB
  have HW := Lib.hid hw
  clear h ho hp hbo hbp hbp2 hB hn hw
  go_enter Try.func32, Try.ntmps32
  go_wp2_with fail
  refine (H.out _ ((HH.out.alloc _).alloc _) (Sl.new _ B _ _ (by simp) (by have := HH.out.low; simp; omega)) ((Var.new _ _ _).alloc _)).mono ?_
  rintro e w1 ⟨ok, zs, ys, rfl, hk, hzs, hys, hpr, hlz, hly, hg⟩
  have K : Hid (Only [b, bo, bp] w w1) := Lib.hid ((((Only.refl _ _).alloc _).alloc _).then hk (by
    intro i hi hlt
    simp at hi ⊢
    omega))
  have ho1 : Sl w1 B bo 22 ws := ((HO.out.alloc _).alloc _).only hk (by have := HE.out; have := HL.out; simp; omega) (by have := HH.out.1; have := HH.out.low; have := HB.out; simp; omega)
  have hp1 : Var w1 bp 4 (.bool p0) := ((HP.out.alloc _).alloc _).only hk (by have := HE.out; have := HL.out; simp; omega)
  have HO1 := Lib.hid ho1
  have HP1 := Lib.hid hp1
  have HYS := Lib.hid hys
  have HLY := Lib.hid hly
  have HS1 := Lib.hid K.out.size
  have hsz := hk.size
  simp at hsz
  have HS2 := Lib.hid hsz
  clear hk hys hly ho1 H HH HO HP hsz
  cases ok with
  | false =>
    have HG : Hid (Got (readOpt8 xs tag) false ws ys) := Lib.hid (by
      unfold readOpt readOpt8 at *
      revert hg
      cases peek xs tag with
      | false => intro h; exact absurd h.1 (by simp)
      | true =>
        simp only [if_true]
        unfold asOf
        cases firstOf xs tag with
        | none => intro _; rfl
        | some q => intro h; exact absurd h.1 (by simp))
    clear hg hzs hpr hp1
    go_wp2_with fail
    go_ret
    exact ⟨false, ws, ys, p0, rfl, K.out, HO1.out, HYS.out, HP1.out, HW.out, HLY.out, HG.out, fun h => by cases h⟩
  | true =>
    have hcp := hpr.cell
    have hfp := hp1.free
    have hcb := hp1.cell
    have HZS := Lib.hid hzs
    have HLZ := Lib.hid hlz
    have HEz := Lib.hid (show bp ≠ w.heap.size ∧ bp ≠ w.heap.size + 1 ∧ bo ≠ w.heap.size ∧ bo ≠ w.heap.size + 1 by have := HL.out; omega)
    have hnb : bp ≠ w.heap.size := HEz.out.1
    cases hpk : peek xs tag with
    | false =>
      rw [hpk] at hcp
      have HG : Hid (Got (readOpt8 xs tag) true [] ys ∧ peek xs tag = false) := Lib.hid ⟨by rw [readOpt_no hpk] at hg; rw [readOpt8_no hpk]; exact ⟨rfl, rfl, hg.2.2⟩, hpk⟩
      obtain ⟨hBo, Ao, co, hvo, _⟩ := HO1.out
      have hfo := hvo.free
      have hco := hvo.cell
      have hne1 : bo ≠ bp := fun e => HE.out.2.2 e.symm
      have HVO := Lib.hid hvo
      have HBo := Lib.hid hBo
      clear hg hzs hpr hp1 hpk hlz hvo hBo
      go_wp2_with fail
      go_ret
      refine ⟨true, [], ys, false, rfl, (K.out.setCell (.inl (by simp)) _).setCell (.inl (by simp)) _, ⟨HBo.out, none, 0, (HVO.out.far (fun e => HE.out.2.2 e.symm) _).set _, Nat.zero_le _, Nat.zero_le _, Rd.nil _ _ _⟩, (HYS.out.far (fun e => HE.out.2.1 e.symm) HB.out _).far (fun e => HE.out.1 e.symm) HBo.out _, (HP1.out.set _).far (fun e => HE.out.2.2 e) _, by simp, HLY.out, HG.out.1, fun _ => HG.out.2.symm⟩
    | true =>
      rw [hpk] at hcp
      rw [readOpt_yes hpk] at hg
      have H2 := Lib.hid (fun W h' ho' => SReadASN1_of (w.heap.size + 1) w1.heap.size 37 4 [] zs W B h' ho' (by have := HS2.out; omega) HLZ.out (by simp))
      have HPK := Lib.hid hpk
      have HG0 := Lib.hid hg
      clear hg hzs hpr hp1 hpk hlz
      go_wp2_with fail
      have hz2 : Sl (w1.setCell ⟨bp, 0, none⟩ (.bool true)) B (w.heap.size + 1) 37 zs := HZS.out.far (fun e => HEz.out.2.1 e.symm) HB.out _
      refine (H2.out _ (hz2.alloc _) (Sl.new _ B _ _ (by simp) (by have := HYS.out.low; simp; omega))).mono ?_
      rintro e w2 ⟨ok2, ds, rs, rfl, hk2, hds, hrs, hld, hlr, hg2⟩
      have K2 : Hid (Only [b, bo, bp] w w2) := Lib.hid ((((K.out.setCell (.inl (by simp)) _)).alloc _).then hk2 (by
        have := HS2.out
        intro i hi hlt
        simp at hi ⊢
        omega))
      have hy2 : Sl w2 B b 37 ys := (((HYS.out.far (fun e => HE.out.2.1 e.symm) HB.out _).alloc _)).only hk2 (by have := HL.out; have := HS2.out; simp; omega) (by have := HS2.out; have := HB.out; have := HL.out; simp; omega)
      have ho2 : Sl w2 B bo 22 ws := (((HO1.out.far (fun e => HE.out.2.2 e.symm) HB.out _).alloc _)).only hk2 (by have := HL.out; have := HS2.out; simp; omega) (by have := HS2.out; have := HB.out; have := HL.out; simp; omega)
      have hp2 : Var w2 bp 4 (.bool true) := (((HP1.out.set _).alloc _)).only hk2 (by have := HL.out; have := HS2.out; simp; omega)
      have HY2 := Lib.hid hy2
      have HO2 := Lib.hid ho2
      have HP2 := Lib.hid hp2
      have HLD := Lib.hid hld
      have HG2 := Lib.hid hg2
      have HRS := Lib.hid hrs
      obtain ⟨hBo, Ao, co, hvo, _⟩ := ho2
      have hfo := hvo.free
      have hco := hvo.cell
      have HVO := Lib.hid hvo
      have HBo := Lib.hid hBo
      obtain ⟨_, Ad, cd, hvd, hcd, hmd, hrd⟩ := hds
      have hcd' := hvd.cell
      have HRD := Lib.hid (And.intro hcd (And.intro hmd hrd))
      have hne2 : w1.heap.size ≠ bo := by have := HL.out; have := HS2.out; omega
      clear hk2 hy2 hp2 hg2 hrs hld hlr hvo hBo hvd hrd hcd hmd hz2 H2 hcp hfp hcb
      cases ok2 with
      | false =>
        go_wp2_with fail
        go_ret
        refine ⟨false, ws, ys, true, rfl, K2.out, HO2.out, HY2.out, HP2.out, HW.out, HLY.out, ?_, fun h => by cases h⟩
        rw [readOpt8_yes HPK.out]
        have h1 := HG0.out
        have h2 := HG2.out
        unfold asOf octOf
        revert h1
        cases firstOf xs tag with
        | none => intro _; rfl
        | some q =>
          obtain ⟨qc, qr⟩ := q
          rintro ⟨_, hz, _⟩
          simp only at hz ⊢
          rw [← hz]
          revert h2
          cases firstOf zs 4 with
          | none => intro _; rfl
          | some q2 => intro h; exact absurd h.1 (by simp)
      | true =>
        obtain ⟨_, Ar, cr, hvr, _⟩ := HRS.out
        have hcr := hvr.cell
        have hgf : ∃ d r, firstOf zs 4 = some (d, r) ∧ ds = d ∧ rs = r := by
          have h2 := HG2.out
          revert h2
          cases firstOf zs 4 with
          | none => intro h; cases h
          | some q => intro h; exact ⟨q.1, q.2, rfl, h.2.1, h.2.2⟩
        have HGF := Lib.hid hgf
        clear hvr hgf
        go_wp2_with fail
        refine (VEmpty_any Ar rs.length cr _).mono ?_
        rintro e w3 ⟨rfl, rfl⟩
        by_cases hre : rs.length = 0
        · rw [decide_eq_true hre]
          have HR := Lib.hid (List.length_eq_zero_iff.1 hre)
          clear hre
          go_wp2_with fail
          go_ret
          refine ⟨true, ds, ys, true, rfl, K2.out.setCell (.inl (by simp)) _, ⟨HBo.out, Ad, cd, HVO.out.set _, HRD.out.1, HRD.out.2.1, HRD.out.2.2.setCell HBo.out _⟩, HY2.out.far (fun e => HE.out.1 e.symm) HBo.out _, HP2.out.far (fun e => HE.out.2.2 e) _, HLD.out, HLY.out, ?_, fun _ => HPK.out.symm⟩
          rw [readOpt8_yes HPK.out]
          obtain ⟨d, r, h1, h2, h3⟩ := HGF.out
          have h0 := HG0.out
          unfold asOf octOf
          revert h0
          cases firstOf xs tag with
          | none => intro h; cases h
          | some q =>
            obtain ⟨qc, qr⟩ := q
            rintro ⟨_, hz, hy⟩
            simp only at hz hy ⊢
            rw [← hz, h1, ← h3, HR.out, h2, hy]
            exact ⟨rfl, rfl, rfl⟩
        · rw [decide_eq_false hre]
          have HR := Lib.hid (show rs ≠ [] from fun e => hre (by rw [e]; rfl))
          clear hre
          go_wp2_with fail
          go_ret
          refine ⟨false, ws, ys, true, rfl, K2.out, HO2.out, HY2.out, HP2.out, HW.out, HLY.out, ?_, fun h => by cases h⟩
          rw [readOpt8_yes HPK.out]
          obtain ⟨d, r, h1, h2, h3⟩ := HGF.out
          have h0 := HG0.out
          unfold asOf octOf
          revert h0
          cases firstOf xs tag with
          | none => intro h; cases h
          | some q =>
            obtain ⟨qc, qr⟩ := q
            rintro ⟨_, hz, hy⟩
            simp only at hz hy ⊢
            rw [← hz, h1]
            simp only
            rw [if_neg (by rw [← h3]; exact HR.out)]
            rfl
end Go.Proofs.Ythlnlbofbinjhaa
