/- Optional elements: contracts. -/
import Derived.Test.YtpndhbhkmfcgaaaOf
namespace Go.Proofs.Ytpndhbhkmfcgaaa
open Go.RowKit

/-- What passing an element over, if it is there, should give. -/
def skipOpt (xs : List Int) (tag : Int) : Option (Unit × List Int) := if peek xs tag then (firstOf xs tag).map fun p => ((), p.2) else some ((), xs)
/-- What reading an element, if it is there, should give. -/
def readOpt (ws xs : List Int) (tag : Int) : Option (List Int × List Int) := if peek xs tag then firstOf xs tag else some (ws, xs)
/-- What reading one octet string within an element, if it is there, should give. -/
def octOf (c : List Int) : Option (List Int) := match firstOf c 4 with | some (d, r) => if r = [] then some d else none | none => none
def readOpt8 (xs : List Int) (tag : Int) : Option (List Int × List Int) := if peek xs tag then asOf octOf xs tag else some ([], xs)
theorem readOpt_no {ws xs : List Int} {tag : Int} (h : peek xs tag = false) : readOpt ws xs tag = some (ws, xs) := by unfold readOpt; rw [h]; rfl
theorem readOpt_yes {ws xs : List Int} {tag : Int} (h : peek xs tag = true) : readOpt ws xs tag = firstOf xs tag := by unfold readOpt; rw [h]; rfl
theorem readOpt8_no {xs : List Int} {tag : Int} (h : peek xs tag = false) : readOpt8 xs tag = some ([], xs) := by unfold readOpt8; rw [h]; rfl
theorem readOpt8_yes {xs : List Int} {tag : Int} (h : peek xs tag = true) : readOpt8 xs tag = asOf octOf xs tag := by unfold readOpt8; rw [h]; rfl
theorem skipOpt_no {xs : List Int} {tag : Int} (h : peek xs tag = false) : skipOpt xs tag = some ((), xs) := by unfold skipOpt; rw [h]; rfl
theorem skipOpt_yes {xs : List Int} {tag : Int} (h : peek xs tag = true) : skipOpt xs tag = (firstOf xs tag).map fun p => ((), p.2) := by unfold skipOpt; rw [h]; rfl

theorem peek_yes {xs : List Int} {tag : Int} (h : peek xs tag = true) : 0 < xs.length ∧ xs.getD 0 0 = tag := by
  unfold peek at h
  simpa only [Bool.and_eq_true, decide_eq_true_eq] using h
theorem peek_no {xs : List Int} {tag : Int} (h : peek xs tag = false) : xs.length = 0 ∨ (0 < xs.length ∧ xs.getD 0 0 ≠ tag) := by
  rcases Nat.eq_zero_or_pos xs.length with h0 | h0
  · exact .inl h0
  · refine .inr ⟨h0, fun e => ?_⟩
    unfold peek at h
    rw [decide_eq_true h0, decide_eq_true e] at h
    cases h


theorem SReadOptional_of (b bo bp : Nat) (to : TypeId) (tag : Int) (p0 : Bool) (ws xs : List Int) (w : World) (B : Nat) (h : Sl w B b 43 xs) (ho : Sl w B bo to ws) (hp : Var w bp 4 (.bool p0)) (hbo : bo ≠ b) (hbp : bp ≠ b) (hbp2 : bp ≠ bo) (hB : B ≤ bp) (hn : xs.length ≤ 4194304) (hw : ws.length ≤ 4194304) :
    Calls Try.prog 51 #[.pointer (some ⟨b, 0, none⟩), .pointer (some ⟨bo, 0, none⟩), .pointer (some ⟨bp, 0, none⟩), .int .u8 tag] w fun e w' =>
      ∃ ok zs ys, e = .returned (.bool ok) ∧ Only [b, bo, bp] w w' ∧ Sl w' B bo to zs ∧ Sl w' B b 43 ys ∧ Var w' bp 4 (.bool (peek xs tag)) ∧ zs.length ≤ 4194304 ∧ ys.length ≤ 4194304 ∧ Got (readOpt ws xs tag) ok zs ys := by
  have H := Lib.hid (fun W h' ho' => SReadASN1_of b bo to tag ws xs W B h' ho' hbo hn hw)
  have HH := Lib.hid (h.far (p := ⟨bp, 0, none⟩) (fun e => hbp e.symm) hB (.bool (peek xs tag)))
  have HO := Lib.hid (ho.far (p := ⟨bp, 0, none⟩) (fun e => hbp2 e.symm) hB (.bool (peek xs tag)))
  have HP := Lib.hid (hp.set (.bool (peek xs tag)))
  have HN := Lib.hid (And.intro hn hw)
  have HE := Lib.hid (And.intro hbp hbp2)
  have hfree := hp.free
  have hcp := hp.cell
  have K : Hid (Only [b, bo, bp] w (w.setCell ⟨bp, 0, none⟩ (.bool (peek xs tag)))) := Lib.hid ((Only.refl _ _).setCell (.inl (by simp)) _)
  obtain ⟨hB0, A, c, hv, hc, hm, hr⟩ := h
  have R := Lib.hid hr
  have hcell := hv.cell
  clear hr hv hB hn hw hbo hbp hbp2 ho hp hB0 hc hm
  go_enter Try.func51, Try.ntmps51
  go_wp2_with fail
  refine (VPeek_any A _ c tag xs w B R.out rfl).mono ?_
  rintro e w1 ⟨rfl, rfl⟩
  cases hp : peek xs tag with
  | false =>
    have HQ := Lib.hid hp
    rw [hp] at HP HH HO K
    clear hp H
    go_wp2_with fail
    go_ret
    exact ⟨true, ws, xs, rfl, K.out, HO.out, HH.out, by rw [HQ.out]; exact HP.out, HN.out.2, HN.out.1, by rw [readOpt_no HQ.out]; exact ⟨rfl, rfl, rfl⟩⟩
  | true =>
    have HQ := Lib.hid hp
    rw [hp] at HP HH HO K
    clear hp
    go_wp2_with fail
    refine (H.out _ HH.out HO.out).mono ?_
    rintro e w1 ⟨ok, zs, ys, rfl, hk, hzs, hys, hlz, hly, hg⟩
    have HF : Hid (∃ zs ys, Only [b, bo, bp] w w1 ∧ Sl w1 B bo to zs ∧ Sl w1 B b 43 ys ∧ Var w1 bp 4 (.bool true) ∧ zs.length ≤ 4194304 ∧ ys.length ≤ 4194304 ∧ Got (readOpt ws xs tag) ok zs ys) :=
      Lib.hid ⟨zs, ys, K.out.trans (hk.more (by simp)), hzs, hys, HP.out.only hk (by have := HE.out; simp; omega), hlz, hly, by rw [readOpt_yes HQ.out]; exact hg⟩
    clear hk hzs hys hlz hly hg H
    cases ok
    all_goals
      go_wp2_with fail
      go_ret
      obtain ⟨zs, ys, h⟩ := HF.out
      refine ⟨_, zs, ys, rfl, ?_⟩
      rw [HQ.out]
      exact h


end Go.Proofs.Ytpndhbhkmfcgaaa
