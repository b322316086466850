/- One step of the reference: contract over the kinds. Steps of the reference: contract. The reference's Build: contract. The reference's Right, its TakesBack: contracts. The reference's builder and what steps come to: plain laws. -/
import Derived.Test.YtlpmjahhdbcfiaaZ14
import Derived.Test.YtlpmjahhdbcfiaaZ15
import Derived.Test.YtlpmjahhdbcfiaaZ16
import Derived.Test.YtlpmjahhdbcfiaaZ10
import Derived.Test.YtlpmjahhdbcfiaaZ6
/-! ### One step of the reference: contract over the kinds. -/
namespace Go.Proofs.Ytlpmjahhdbcfiaa
open Go.RowKit
set_option linter.unusedVariables false

theorem sstep_all (k n t : Int) (d o : List Int) (kids : Its) (Ad : Option Addr) (cd : Nat) (Ao : Option Addr) (co : Nat) (Ak : Option Addr) (ck : Nat) (w : World) (base b : Nat) (r : Value) (s : St) (B : Nat) (g : SGood w base b r s B) (hi : ItemRd w B n t d o kids Ad Ao Ak) (hl : s.out.length + (24 + d.length + 5 * o.length + wt kids) ≤ 4000000) (hk : RunOK kids) (ins : Bool) (hok : Ok kids ins) (hrg : Rng kids) (ht : 0 ≤ t ∧ t ≤ 255) (k0 : 0 ≤ k) (k1 : k ≤ 25) :
    Calls Try.prog 28 #[.pointer (some ⟨b, 0, none⟩), itemV k n t d o kids Ad cd Ao co Ak ck] w (SpecP w base b r (sOne k n t d o (sRun kids St.nil) (sRun kids) s)) := by
  by_cases e0 : k = 0
  · subst e0
    exact sstep0 n t d o kids Ad cd Ao co Ak ck w base b r s B g hi hl
  by_cases e1 : k = 1
  · subst e1
    exact sstep1 n t d o kids Ad cd Ao co Ak ck w base b r s B g hi hl
  by_cases e2 : k = 2
  · subst e2
    exact sstep2 n t d o kids Ad cd Ao co Ak ck w base b r s B g hi hl
  by_cases e3 : k = 3
  · subst e3
    exact sstep3 n t d o kids Ad cd Ao co Ak ck w base b r s B g hi hl
  by_cases e4 : k = 4
  · subst e4
    exact sstep4 n t d o kids Ad cd Ao co Ak ck w base b r s B g hi hl
  by_cases e5 : k = 5
  · subst e5
    exact sstep5 n t d o kids Ad cd Ao co Ak ck w base b r s B g hi hl
  by_cases e6 : k = 6
  · subst e6
    exact sstep6 n t d o kids Ad cd Ao co Ak ck w base b r s B g hi hl
  by_cases e7 : k = 7
  · subst e7
    exact sstep7 n t d o kids Ad cd Ao co Ak ck w base b r s B g hi hl hk ins hok hrg
  by_cases e8 : k = 8
  · subst e8
    exact sstep8 n t d o kids Ad cd Ao co Ak ck w base b r s B g hi hl hk ins hok hrg
  by_cases e9 : k = 9
  · subst e9
    exact sstep9 n t d o kids Ad cd Ao co Ak ck w base b r s B g hi hl hk ins hok hrg
  by_cases e10 : k = 10
  · subst e10
    exact sstep10 n t d o kids Ad cd Ao co Ak ck w base b r s B g hi hl hk ins hok hrg
  by_cases e11 : k = 11
  · subst e11
    exact sstep11 n t d o kids Ad cd Ao co Ak ck w base b r s B g hi hl hk ins hok hrg ht
  by_cases e12 : k = 12
  · subst e12
    exact sstep12 n t d o kids Ad cd Ao co Ak ck w base b r s B g hi hl
  by_cases e13 : k = 13
  · subst e13
    exact sstep13 n t d o kids Ad cd Ao co Ak ck w base b r s B g hi hl
  by_cases e14 : k = 14
  · subst e14
    exact sstep14 n t d o kids Ad cd Ao co Ak ck w base b r s B g hi hl
  by_cases e15 : k = 15
  · subst e15
    exact sstep15 n t d o kids Ad cd Ao co Ak ck w base b r s B g hi hl
  by_cases e16 : k = 16
  · subst e16
    exact sstep16 n t d o kids Ad cd Ao co Ak ck w base b r s B g hi hl
  by_cases e17 : k = 17
  · subst e17
    exact sstep17 n t d o kids Ad cd Ao co Ak ck w base b r s B g hi hl
  by_cases e18 : k = 18
  · subst e18
    exact sstep18 n t d o kids Ad cd Ao co Ak ck w base b r s B g hi hl
  by_cases e19 : k = 19
  · subst e19
    exact sstep19 n t d o kids Ad cd Ao co Ak ck w base b r s B g hi hl
  by_cases e20 : k = 20
  · subst e20
    exact sstep20 n t d o kids Ad cd Ao co Ak ck w base b r s B g hi hl
  by_cases e21 : k = 21
  · subst e21
    exact sstep21 n t d o kids Ad cd Ao co Ak ck w base b r s B g hi hl
  by_cases e22 : k = 22
  · subst e22
    exact sstep22 n t d o kids Ad cd Ao co Ak ck w base b r s B g hi hl
  by_cases e23 : k = 23
  · subst e23
    exact sstep23 n t d o kids Ad cd Ao co Ak ck w base b r s B g hi hl
  by_cases e24 : k = 24
  · subst e24
    exact sstep24 n t d o kids Ad cd Ao co Ak ck w base b r s B g hi hl hk ins hok hrg
  by_cases e25 : k = 25
  · subst e25
    exact sstep25 n t d o kids Ad cd Ao co Ak ck w base b r s B g hi hl hk ins hok hrg
  omega

end Go.Proofs.Ytlpmjahhdbcfiaa

/-! ### Steps of the reference: contract. -/
namespace Go.Proofs.Ytlpmjahhdbcfiaa
open Go.RowKit

/-- How the loop's state is held. -/
def RunAt (w : World) (base b : Nat) (r0 : Value) (ins : Bool) (B : Nat) (A : Option Addr) (n : Nat) (fin : St) (j : Nat) (its : Its) (r : Value) (s : St) (W : World) : Prop :=
  LeftAt w B A j its ∧ j + its.len = n ∧ Kids RunOK its ∧ Ok its ins ∧ Rng its ∧ s.out.length + wt its ≤ 4000000 ∧ sRun its s = fin ∧ SGood W base b r s B ∧ OwnLe w r0 r ∧ Only (b :: own r0) w W
theorem RunAt.done {w : World} {base b : Nat} {r0 : Value} {ins : Bool} {B : Nat} {A : Option Addr} {n : Nat} {fin : St} {j : Nat} {its : Its} {r : Value} {s : St} {W : World} (h : RunAt w base b r0 ins B A n fin j its r s W) (he : sRun its s = s) : SpecP w base b r0 fin (.returned (.tuple #[])) W := by
  obtain ⟨_, _, _, _, _, _, h, g, ho, hk⟩ := h
  rw [he] at h
  subst h
  exact ⟨rfl, hk, r, g.sb, g.row, ho, g.dir⟩
theorem sstop (its : Its) (s : St) (h : s.fl = true ∨ s.wr = true) : sRun its s = s := by
  cases its with
  | nil => rfl
  | cons k n t d o kids rest =>
    unfold sRun
    rw [if_pos (by rcases h with h | h <;> simp [h])]
theorem RunAt.step {w : World} {base b : Nat} {r0 : Value} {ins : Bool} {B : Nat} {blk off : Nat} {n : Nat} {fin : St} {j : Nat} {k i t : Int} {d o : List Int} {kids rest : Its} {r : Value} {s : St} {W : World} {Ad : Option Addr} {cd : Nat} {Ao : Option Addr} {co : Nat} {Ak : Option Addr} {ck : Nat}
    (h : RunAt w base b r0 ins B (some ⟨blk, off, none⟩) n fin j (.cons k i t d o kids rest) r s W) (hf : s.fl = false) (hw : s.wr = false) (hn : LeftAt w B (some ⟨blk, off, none⟩) (j + 1) rest) (hrd : Rd W B Ad d) (hro : RdI W B Ao o) (hkd : ItsRd W B Ak kids) :
    Calls Try.prog 28 #[.pointer (some ⟨b, 0, none⟩), itemV k i t d o kids Ad cd Ao co Ak ck] W fun e w' => e = .returned (.tuple #[]) ∧ ∃ r' s', RunAt w base b r0 ins B (some ⟨blk, off, none⟩) n fin (j + 1) rest r' s' w' := by
  obtain ⟨_, hj, hall, hok, hrg, hl, he, g, ho, hk⟩ := h
  obtain ⟨o1, o2, o3, o4, o5, o6, o7, o8⟩ := hok
  obtain ⟨g1, g2, g3⟩ := hrg
  simp only [wt] at hl
  have h1 := sOne_le k i t d o (sRun kids St.nil) (sRun kids) s (wt kids) g1 o6 (by have := srun_le kids _ St.nil g2 o7; simpa [St.nil] using this) (srun_le kids _ s g2 o7)
  refine Calls.mono (sstep_all k i t d o kids Ad cd Ao co Ak ck W base b r s B g ⟨g1, ⟨o3, o4⟩, hrd, hro, hkd, o6, by omega, by omega⟩ (by omega) hall.1 _ o7 g2 ⟨o3, o4⟩ o1 o2) ?_
  intro e w' hh
  obtain ⟨he', r', g', hr', ho'⟩ := hh.next g
  have hsz := hk.size
  refine ⟨he', r', _, hn, by simp only [Its.len] at hj; omega, hall.2, o8, g3, by omega, ?_, g', ho.trans hr' hsz, hk.then ho' ?_⟩
  · rw [← he]
    conv => rhs; unfold sRun
    rw [if_neg (by simp [hf, hw])]
  · intro x hx hlt
    rcases List.mem_cons.1 hx with rfl | hx
    · simp
    · rcases ho x hx with h | h
      · simp [h]
      · omega
theorem srun_ok (its : Its) (hall : Kids RunOK its) : RunOK its := by
  intro ins b r s w base B A n c g hi hn hok hrg hw
  obtain ⟨fin, hfin⟩ : ∃ fin, sRun its s = fin := ⟨_, rfl⟩
  rw [hfin]
  have H0 : Hid (RunAt w base b r ins B A n fin 0 its r s w) := Lib.hid ⟨hi, by omega, hall, hok, hrg, hw, hfin, g, OwnLe.refl _ _, Only.refl _ _⟩
  have HB := Lib.hid g.hB
  have hnb : n ≤ 4000000 := by have := len_wt its; omega
  have HLo := Lib.hid g.low
  clear g hi hn hok hrg hw hall hfin
  go_enter Try.func20, Try.ntmps20
  go_wp2_with fail
  go_loopw [4] (fun i W => ∃ (j : Nat) (its' : Its) (r' : Value) (s' : St), i = .int .i64 (j : Int) ∧ RunAt w base b r ins B A n fin j its' r' s' W) (fun i _ => n - (intOf i).toNat)
  case atStart => exact ⟨0, its, r, s, by simp, H0.out⟩
  case round =>
    obtain ⟨j, its', r', s', rfl, hst⟩ := hrel
    cases its' with
    | nil =>
      have HQ := Lib.hid (hst.done rfl)
      have hjn : j = n := hst.2.1
      subst hjn
      clear H0 hst
      go_wp2_with fail
      go_end0
      exact HQ.out
    | cons k i t d o kids rest =>
      have HS := Lib.hid hst
      obtain ⟨hl, hj, _, _, _, _, _, g, _, ho⟩ := hst
      have c2 := g.sb.c2
      have c3 := g.sb.c3
      have hlt : (j : Int) < (n : Int) := by simp only [Its.len] at hj; omega
      by_cases hf : s'.fl = true
      · rw [hf] at c2
        have HQ := Lib.hid (HS.out.done (sstop _ _ (.inl hf)))
        clear H0 HS hl hj g ho c3 hf
        go_wp2_with fail
        go_end0
        exact HQ.out
      by_cases hwr : s'.wr = true
      · rw [hwr] at c3
        have hf' : s'.fl = false := by simpa using hf
        rw [hf'] at c2
        have HQ := Lib.hid (HS.out.done (sstop _ _ (.inr hwr)))
        clear H0 HS hl hj g ho hf hwr hf'
        go_wp2_with fail
        go_end0
        exact HQ.out
      have hf' : s'.fl = false := by simpa using hf
      have hw' : s'.wr = false := by simpa using hwr
      rw [hf'] at c2
      rw [hw'] at c3
      obtain ⟨blk, off, Ad, cd, Ao, co, Ak, ck, rfl, hbl, hcell, hrn, hrd, _, hro, _, hck, hkd, hnx⟩ := hl.cells (W := wr) (fun p hp => ho.cell (by have := HB.out; omega) (by intro hm; have := HLo.out _ hm; omega))
      have hc0 := hcell 0 _ rfl
      have hc1 := hcell 1 _ rfl
      have hc2 := hcell 2 _ rfl
      have hc3 := hcell 3 _ rfl
      have hc4 := hcell 4 _ rfl
      have hc5 := hcell 5 _ rfl
      rw [Nat.add_zero] at hc0
      have H := Lib.hid (RunAt.step (cd := cd) (co := co) (ck := ck) HS.out hf' hw' hnx hrd hro hkd)
      have HJ := Lib.hid hlt
      have hw64 : wrap64 ((j : Int) + 1) = (j : Int) + 1 := by unfold wrap64; omega
      unfold itemV at H
      clear H0 HS hl hj g ho hf hwr hf' hw' hcell hrn hrd hro hck hkd hnx
      go_wp2_with fail
      refine H.out.mono ?_
      rintro e w' ⟨rfl, r2, s2, hh⟩
      have HS := Lib.hid hh
      clear hh H c2 c3 hc0 hc1 hc2 hc3 hc4 hc5 hlt hbl
      go_wp2_with fail
      go_roundw
      case rel => exact ⟨j + 1, rest, r2, s2, by rw [hw64]; rfl, HS.out⟩
      case measure =>
        rw [hw64]
        exact meas _ j HJ.out
theorem srun_all (its : Its) : RunOK its := by
  suffices h : RunOK its ∧ Kids RunOK its from h.1
  induction its with
  | nil => exact ⟨srun_ok _ trivial, trivial⟩
  | cons k n t d o kids rest ihk ihr => exact ⟨srun_ok _ ⟨ihk.1, ihr.2⟩, ihk.1, ihr.2⟩

end Go.Proofs.Ytlpmjahhdbcfiaa

/-! ### The reference's Build: contract. -/
namespace Go.Proofs.Ytlpmjahhdbcfiaa
open Go.RowKit
set_option linter.unusedVariables false

/-- What the reference's Build makes. -/
def BuildP (w : World) (s : St) (e : Ending) (w' : World) : Prop :=
  ∃ A c ys, e = .returned (.tuple #[.slice A ys.length c, .bool (!(s.fl || s.wr)), .bool (!s.wr)]) ∧ Rd w' w'.heap.size A ys ∧ Only [] w w' ∧ ys.length ≤ c ∧ c ≤ maxLen ∧ (s.fl = false → s.wr = false → ys = s.out)
theorem sbuild_any (its : Its) (ins : Bool) (A : Option Addr) (n c : Nat) (w : World) (B : Nat) (hi : ItsRd w B A its) (hn : n = its.len) (hB : B ≤ w.heap.size) (hok : Ok its ins) (hrg : Rng its) (hw : wt its ≤ 4000000) :
    Calls Try.prog 9 #[.slice A n c] w (BuildP w (sRun its St.nil)) := by
  have g1 : SGood (w.alloc (.cells (SbC (.slice none 0 0) St.nil) 45)) w.heap.size w.heap.size (.slice none 0 0) St.nil B :=
    ⟨SbAt.new w St.nil, Row.nil _ _, by simp, Nat.le_refl _, by intro k hk; simp [own, Value.ownBlock] at hk; omega, by simp; omega⟩
  have H := Lib.hid (srun_all its ins w.heap.size (.slice none 0 0) St.nil (w.alloc (.cells (SbC (.slice none 0 0) St.nil) 45)) w.heap.size B A n c g1 (hi.only (l := []) ((Only.refl _ _).alloc _) (by simp) hB) hn hok hrg (by simp [St.nil]; omega))
  obtain ⟨s, hs⟩ : ∃ s, sRun its St.nil = s := ⟨_, rfl⟩
  rw [hs] at H ⊢
  clear g1 hi hn hok hrg hw hB hs
  go_enter Try.func9, Try.ntmps9
  go_wp2_with fail
  refine H.out.mono ?_
  rintro e w1 ⟨rfl, ho, r1, h1, h2, h3, h4⟩
  have ho' : Only [] w w1 := ((Only.refl _ _).alloc _).then ho (by intro k hk hlt; simp [own, Value.ownBlock] at hk; omega)
  obtain ⟨A2, cap2, hr2, hcc, hmm, _⟩ := h2.form
  have c0 := h1.c0
  have c2 := h1.c2
  have c3 := h1.c3
  rw [hr2] at c0
  rw [hr2] at h2
  have HR := Lib.hid (h2.rd rfl)
  have HO := Lib.hid ho'
  have HC := Lib.hid (And.intro hcc hmm)
  clear ho h1 h2 h3 h4 ho' hr2 hcc hmm H
  cases s with
  | mk out dir fl wr =>
    simp only at c0 c2 c3
    cases fl with
    | true =>
      go_wp2_with fail
      go_quiet (fail)
      go_wp2_with fail
      go_ret3
      exact ⟨none, 0, [], rfl, Rd.nil _ _ _, (by first | exact HO.out.drewN _ | exact HO.out.drew | exact HO.out), by simp, by simp, fun h => by cases h⟩
    | false =>
      cases wr with
      | true =>
        go_wp2_with fail
        go_quiet (fail)
        go_wp2_with fail
        go_ret3
        exact ⟨none, 0, [], rfl, Rd.nil _ _ _, (by first | exact HO.out.drewN _ | exact HO.out.drew | exact HO.out), by simp, by simp, fun _ h => by cases h⟩
      | false =>
        go_wp2_with fail
        go_ret3
        exact ⟨A2, cap2, out, rfl, HR.out, HO.out, HC.out.1, HC.out.2, fun _ _ => rfl⟩

end Go.Proofs.Ytlpmjahhdbcfiaa

/-! ### The reference's Right, its TakesBack: contracts. -/
namespace Go.Proofs.Ytlpmjahhdbcfiaa
open Go.RowKit
set_option linter.unusedVariables false

theorem items_all (its : Its) : ItemsOK its := by
  suffices h : ItemsOK its ∧ Kids ItemsOK its from h.1
  induction its with
  | nil => exact ⟨items_ok _ trivial, trivial⟩
  | cons k n t d o kids rest ihk ihr => exact ⟨items_ok _ ⟨ihk.1, ihr.2⟩, ihk.1, ihr.2⟩
theorem holds_all (its : Its) : HoldsOK its := by
  suffices h : HoldsOK its ∧ Kids HoldsOK its from h.1
  induction its with
  | nil => exact ⟨holds_ok _ trivial, trivial⟩
  | cons k n t d o kids rest ihk ihr => exact ⟨holds_ok _ ⟨ihk.1, ihr.2⟩, ihk.1, ihr.2⟩
theorem chk_all (its : Its) : ChkOK its := by
  suffices h : ChkOK its ∧ Kids ChkOK its from h.1
  induction its with
  | nil => exact ⟨chk_ok _ trivial, trivial⟩
  | cons k n t d o kids rest ihk ihr => exact ⟨chk_ok _ ⟨ihk.1, ihr.2⟩, ihk.1, ihr.2⟩
theorem tb_all (its : Its) : TbOK its := by
  suffices h : TbOK its ∧ Kids TbOK its from h.1
  induction its with
  | nil => exact ⟨tb_ok _ trivial, trivial⟩
  | cons k n t d o kids rest ihk ihr => exact ⟨tb_ok _ ⟨ihk.1, ihr.2⟩, ihk.1, ihr.2⟩
/-- Steps that are right. -/
def Fine (its : Its) : Prop := its.len + kc its ≤ 300 ∧ hold its ≤ 200000 ∧ Ok its false ∧ Arc its
theorem wt_le (its : Its) : wt its ≤ 24 * (its.len + kc its) + hold its := by
  induction its with
  | nil => simp [wt]
  | cons k n t d o kids rest ihk ihr => simp only [wt, Its.len, kc, hold]; omega
theorem Fine.wt {its : Its} (h : Fine its) : wt its ≤ 207200 := by
  have := wt_le its
  obtain ⟨h1, h2, _⟩ := h
  omega
theorem specRight_any (its : Its) (A : Option Addr) (n c : Nat) (w : World) (B : Nat) (hi : ItsRd w B A its) (hn : n = its.len) (hn1 : n ≤ 140737488355328) (hB : B ≤ w.heap.size) (hs : Sz its) :
    Calls Try.prog 8 #[.slice A n c] w (Tells w fun r => r = true → Fine its) := by
  have H1 := Lib.hid (items_all its 300 A n c w B (by decide) (by decide) hi hn hn1 hB hs)
  have H2 := Lib.hid (fun (W : World) (ho : Only [] w W) (hk : its.len + kc its ≤ 300) => holds_all its A n c W B (hi.only ho (by simp) hB) hn (Nat.le_trans hB ho.size) hs (by omega))
  have H3 := Lib.hid (fun (W : World) (ho : Only [] w W) => chk_all its false 12 A n c W B (by decide) (by decide) (hi.only ho (by simp) hB) hn hn1 (Nat.le_trans hB ho.size) hs)
  clear hi hn hn1 hB hs
  go_enter Try.func8, Try.ntmps8
  go_wp2_with fail
  refine H1.out.mono ?_
  rintro e w1 ⟨v, rfl, v0, v1, v2, hk1⟩
  have HK1 := Lib.hid hk1
  clear hk1 H1
  by_cases hv : v ≤ 300
  · have HI := Lib.hid (v2 hv)
    have HC := Lib.hid (H2.out w1 HK1.out (by have := HI.out; omega))
    clear v2
    go_wp2_with fail
    refine HC.out.mono ?_
    rintro e w2 ⟨rfl, hk2⟩
    have HK2 := Lib.hid (HK1.out.trans hk2)
    clear hk2 HC H2
    obtain ⟨t, ht⟩ : ∃ t : Nat, hold its = t := ⟨_, rfl⟩
    rw [ht]
    by_cases hh : t ≤ 200000
    · have HC := Lib.hid (H3.out w2 HK2.out)
      clear H3
      go_wp2_with fail
      refine HC.out.mono ?_
      rintro e w3 ⟨r, rfl, hr, hk3⟩
      have HK3 := Lib.hid (HK2.out.trans hk3)
      have HR := Lib.hid hr
      clear hk3 hr HC
      have HH := Lib.hid (And.intro ht (And.intro hh hv))
      clear ht hh v0 v1 hv
      go_wp2_with fail
      go_ret
      refine ⟨r, rfl, ?_, HK3.out⟩
      intro h
      have := HR.out h
      have h1 := HI.out
      have h2 := HH.out
      exact ⟨by omega, by omega, this.1, this.2⟩
    · clear ht v0 v1 H3
      go_wp2_with fail
      go_ret
      exact ⟨false, rfl, (by intro h; cases h), HK2.out⟩
  · clear H2 H3 v2
    go_wp2_with fail
    go_ret
    exact ⟨false, rfl, (by intro h; cases h), HK1.out⟩

end Go.Proofs.Ytlpmjahhdbcfiaa

/-! ### The reference's builder and what steps come to: plain laws. -/
namespace Go.Proofs.Ytlpmjahhdbcfiaa
open Go.RowKit

/-- What the reference's builder tells of a result: nothing where it is wrong; bytes behind others; an error. -/
def Agree (ins : Bool) (pre : List Int) (s : St) (o : Option Res) : Prop :=
  s.wr = true ∨ (s.fl = false ∧ o = some (.good (pre ++ s.out))) ∨ (s.fl = true ∧ (o = some .err ∨ (o = some .pan ∧ ins = true)))
theorem Agree.cat {ins : Bool} {pre bs : List Int} {s0 s : St} (hf : s.fl = false) (ho : s.out = s0.out ++ bs) : Agree ins pre s (some (resCat (pre ++ s0.out) (some bs))) :=
  .inr (.inl ⟨hf, by rw [ho]; simp [resCat]⟩)
theorem Agree.bad {ins : Bool} {pre cs : List Int} {s : St} (hf : s.fl = true) : Agree ins pre s (some (resCat cs none)) := .inr (.inr ⟨hf, .inl rfl⟩)
theorem agree_elem (ins : Bool) (pre : List Int) (t : Int) (xs : List Int) (s : St) (hf : s.fl = false) : Agree ins pre (sElem t xs s) (some (resCat (pre ++ s.out) (elem t xs))) := by
  unfold sElem elem
  by_cases h : t % 32 = 31
  · rw [if_pos h, if_pos h]; exact Agree.bad rfl
  · rw [if_neg h, if_neg h]; exact Agree.cat hf rfl
theorem right_valid (o : List Int) (hv : ∀ v ∈ o, v ≤ 2147483647) (h1 : o.getD 1 0 ≤ 2147483567) : oidRight o = validOID o := by
  unfold oidRight validOID
  apply decide_eq_decide.2
  cases o with
  | nil => simp
  | cons a r =>
    cases r with
    | nil => simp
    | cons b r =>
      simp only [List.length_cons, List.getD_cons_zero, List.getD_cons_succ, List.drop_succ_cons, List.drop_zero, List.mem_cons] at hv h1 ⊢
      constructor
      · rintro ⟨p1, p2, p3, p4, p5, p6⟩
        refine ⟨p1, p3, by omega, ?_⟩
        rintro v (rfl | h)
        · exact p2
        · exact (p6 v h).1
      · rintro ⟨p1, p2, p3, p4⟩
        have := p4 a (.inl rfl)
        refine ⟨p1, this, p2, by omega, by omega, ?_⟩
        intro v h
        exact ⟨p4 v (.inr h), hv v (.inr h)⟩
theorem agree_oid (ins : Bool) (pre o : List Int) (s : St) (hf : s.fl = false) (hv : ∀ v ∈ o, v ≤ 2147483647) (h1 : o.getD 1 0 ≤ 2147483567) : Agree ins pre (sOid o s) (some (resCat (pre ++ s.out) ((oidCs o).bind (elem 6)))) := by
  unfold sOid oidCs
  rw [right_valid o hv h1]
  cases h : validOID o with
  | true => exact agree_elem ins pre 6 (oidC o) s hf
  | false => exact Agree.bad rfl
theorem agree_pre (ins : Bool) (pre : List Int) (m : Nat) (inn s : St) (rt : Option Res) (hf : s.fl = false) (h : Agree true [] inn rt) :
    Agree ins pre (sPre m inn.out (sIn inn s)) (rt.map fun r => (lpRes false m ins r).pre (pre ++ s.out)) := by
  rcases h with h | ⟨h, rfl⟩ | ⟨h, h2⟩
  · left
    unfold sPre
    split <;> simp [sIn, h]
  · rw [List.nil_append]
    unfold sPre
    by_cases hl : 256 ^ m ≤ inn.out.length
    · rw [if_pos hl]
      right; right
      refine ⟨rfl, .inl ?_⟩
      simp only [Option.map_some, lpRes, fl, Bool.false_eq_true, if_false]
      rw [if_neg (by omega)]
      rfl
    · rw [if_neg hl]
      right; left
      refine ⟨by simp [sIn, hf, h], ?_⟩
      simp only [Option.map_some, lpRes, fl, Bool.false_eq_true, if_false]
      rw [if_pos (by omega)]
      simp [Res.pre, sIn]
  · right; right
    refine ⟨by unfold sPre; split <;> simp [sIn, h], ?_⟩
    rcases h2 with rfl | ⟨rfl, _⟩
    · left; rfl
    · cases ins with
      | true => right; exact ⟨rfl, rfl⟩
      | false => left; rfl
theorem agree_asn (ins : Bool) (pre : List Int) (t : Int) (inn s : St) (rt : Option Res) (hf : s.fl = false) (h : Agree true [] inn rt) :
    Agree ins pre (sElem t inn.out (sIn inn s)) (rt.map fun r => (asnAll t ins r).pre (pre ++ s.out)) := by
  unfold sElem asnAll
  by_cases ht : t % 32 = 31
  · simp only [if_pos ht]
    rcases h with h | ⟨h, rfl⟩ | ⟨h, h2⟩
    · left; simp [sIn, h]
    · right; right; exact ⟨rfl, .inl rfl⟩
    · right; right
      refine ⟨rfl, .inl ?_⟩
      rcases h2 with rfl | ⟨rfl, _⟩ <;> rfl
  · simp only [if_neg ht]
    rcases h with h | ⟨h, rfl⟩ | ⟨h, h2⟩
    · left; simp [sIn, h]
    · right; left
      refine ⟨by simp [sIn, hf, h], ?_⟩
      simp [Res.pre, asnRes, sIn]
    · right; right
      refine ⟨by simp [sIn, h], ?_⟩
      rcases h2 with rfl | ⟨rfl, _⟩
      · left; rfl
      · cases ins with
        | true => right; exact ⟨rfl, rfl⟩
        | false => left; rfl
theorem sdir_elem (t : Int) (xs : List Int) (s : St) (h : s.dir ≤ s.out.length) : (sElem t xs s).dir ≤ (sElem t xs s).out.length := by
  unfold sElem; split
  · exact h
  · exact Nat.zero_le _
theorem sdir_pre (m : Nat) (xs : List Int) (s : St) (h : s.dir ≤ s.out.length) : (sPre m xs s).dir ≤ (sPre m xs s).out.length := by
  unfold sPre; split
  · exact h
  · exact Nat.zero_le _
theorem sdir_back (n : Int) (s : St) (h : s.dir ≤ s.out.length) : (sBack n s).dir ≤ (sBack n s).out.length := by
  unfold sBack; split
  · simp only [List.length_take]; omega
  · exact h
theorem sdir_wr (xs : List Int) (s : St) (h : s.dir ≤ s.out.length) : (sWr xs s).dir ≤ (sWr xs s).out.length := by
  simp only [sWr, List.length_append]; omega
theorem sdir_one (k n t : Int) (d o : List Int) (inn : St) (on : St → St) (s : St) (h : s.dir ≤ s.out.length) (hon : (on s).dir ≤ (on s).out.length) : (sOne k n t d o inn on s).dir ≤ (sOne k n t d o inn on s).out.length := by
  have hin : (sIn inn s).dir ≤ (sIn inn s).out.length := h
  have key : ∀ (c : Prop) [Decidable c] (a e : St), a.dir ≤ a.out.length → e.dir ≤ e.out.length → (if c then a else e).dir ≤ (if c then a else e).out.length := by
    intro c _ a e ha he
    by_cases hc : c
    · rw [if_pos hc]; exact ha
    · rw [if_neg hc]; exact he
  unfold sOne sLeaf sOid
  repeat' refine key _ _ _ ?_ ?_
  all_goals first
    | exact sdir_wr _ _ h
    | exact sdir_pre _ _ _ hin
    | exact sdir_elem _ _ _ hin
    | exact sdir_elem _ _ _ h
    | exact sdir_back _ _ h
    | exact hon
    | exact h
    | exact Nat.zero_le _
    | (simp only [List.length_take]; omega)
theorem sdir_run : ∀ (its : Its) (s : St), s.dir ≤ s.out.length → (sRun its s).dir ≤ (sRun its s).out.length := by
  intro its
  induction its with
  | nil => intro s h; exact h
  | cons k n t d o kids rest ihk ihr =>
    intro s h
    unfold sRun
    split
    · exact h
    · exact ihr _ (sdir_one _ _ _ _ _ _ _ _ h (ihk s h))
theorem srun_stop (its : Its) (s : St) (h : s.fl = true ∨ s.wr = true) : sRun its s = s := by
  cases its with
  | nil => rfl
  | cons k n t d o kids rest =>
    unfold sRun
    rw [if_pos (by rcases h with h | h <;> simp [h])]
theorem runE_ins : ∀ (its : Its) (ins : Bool), Ok its ins → runE its = .pan → ins = true := by
  intro its
  induction its with
  | nil => intro ins _ h; cases h
  | cons k n t d o kids rest ihk ihr =>
    intro ins ho h
    obtain ⟨_, _, _, _, o5, _, o7, o8⟩ := ho
    unfold runE at h
    split at h
    · rename_i h1
      unfold oneE at h1
      split at h1
      · rename_i e; exact o5 e
      · split at h1
        · rename_i e
          have h2 : runE kids = .pan := by
            rcases runE_two kids with q | q
            · rw [q] at h1; cases h1
            · exact q
          have := ihk _ o7 h2
          have hd : decide (7 ≤ k ∧ k ≤ 11) = false := by rcases e with rfl | rfl <;> decide
          rw [hd, Bool.or_false] at this
          exact this
        · cases h1
    · exact ihr _ o8 h
theorem agree_one (ins : Bool) (pre : List Int) (k n t : Int) (d o : List Int) (s inn : St) (on : St → St) (rt : Option Res) (ri : List Int → Option Res) (k0 : 0 ≤ k) (k1 : k ≤ 25) (h23 : k = 23 → ins = true) (hv : ∀ v ∈ o, v ≤ 2147483647) (h1 : o.getD 1 0 ≤ 2147483567) (hf : s.fl = false) (hd : s.dir ≤ s.out.length)
    (hin : 7 ≤ k → k ≤ 11 → Agree true [] inn rt) (hon : k = 24 ∨ k = 25 → Agree ins pre (on s) (ri (pre ++ s.out))) :
    Agree ins pre (sOne k n t d o inn on s) (one ins k n t d o rt ri (pre ++ s.out)) := by
  by_cases e0 : k = 0
  · subst e0; exact Agree.cat hf rfl
  by_cases e1 : k = 1
  · subst e1; exact Agree.cat hf rfl
  by_cases e2 : k = 2
  · subst e2; exact Agree.cat hf rfl
  by_cases e3 : k = 3
  · subst e3; exact Agree.cat hf rfl
  by_cases e4 : k = 4
  · subst e4; exact Agree.cat hf rfl
  by_cases e5 : k = 5
  · subst e5; exact Agree.cat hf rfl
  by_cases e6 : k = 6
  · subst e6; exact Agree.cat hf rfl
  by_cases e7 : k = 7
  · subst e7; exact agree_pre ins pre 1 inn s rt hf (hin (by decide) (by decide))
  by_cases e8 : k = 8
  · subst e8; exact agree_pre ins pre 2 inn s rt hf (hin (by decide) (by decide))
  by_cases e9 : k = 9
  · subst e9; exact agree_pre ins pre 3 inn s rt hf (hin (by decide) (by decide))
  by_cases e10 : k = 10
  · subst e10; exact agree_pre ins pre 4 inn s rt hf (hin (by decide) (by decide))
  by_cases e11 : k = 11
  · subst e11; exact agree_asn ins pre t inn s rt hf (hin (by decide) (by decide))
  by_cases e12 : k = 12
  · subst e12; exact agree_elem ins pre 1 [if n = 1 then 255 else 0] s hf
  by_cases e13 : k = 13
  · subst e13; exact agree_elem ins pre 2 (octs n) s hf
  by_cases e14 : k = 14
  · subst e14; exact agree_elem ins pre t (octs n) s hf
  by_cases e15 : k = 15
  · subst e15; exact agree_elem ins pre 2 (uocts (n % 18446744073709551616)) s hf
  by_cases e16 : k = 16
  · subst e16; exact agree_elem ins pre 10 (octs n) s hf
  by_cases e17 : k = 17
  · subst e17; exact agree_elem ins pre 5 [] s hf
  by_cases e18 : k = 18
  · subst e18; exact agree_elem ins pre 4 d s hf
  by_cases e19 : k = 19
  · subst e19; exact agree_elem ins pre 3 (0 :: d) s hf
  by_cases e20 : k = 20
  · subst e20; exact agree_oid ins pre o s hf hv h1
  by_cases e21 : k = 21
  · subst e21; exact .inr (.inr ⟨rfl, .inl rfl⟩)
  by_cases e22 : k = 22
  · subst e22
    show Agree ins pre (sBack n s) (if 0 ≤ n ∧ n ≤ (pre ++ s.out).length then some (.good ((pre ++ s.out).take ((pre ++ s.out).length - n.toNat))) else none)
    unfold sBack
    by_cases hn : 0 ≤ n ∧ n ≤ s.dir
    · rw [if_pos hn, if_pos (by simp only [List.length_append]; omega)]
      right; left
      refine ⟨hf, ?_⟩
      have hle : n.toNat ≤ s.out.length := by omega
      rw [List.take_append, List.take_of_length_le (by simp only [List.length_append]; omega), show (pre ++ s.out).length - n.toNat - pre.length = s.out.length - n.toNat by simp only [List.length_append]; omega]
    · rw [if_neg hn]; exact .inl rfl
  by_cases e23 : k = 23
  · subst e23; exact .inr (.inr ⟨rfl, .inr ⟨rfl, h23 rfl⟩⟩)
  by_cases e24 : k = 24
  · subst e24
    have h := hon (.inl rfl)
    show Agree ins pre { on s with fl := (on s).fl || decide ((24 : Int) = 25) } (ri (pre ++ s.out))
    rw [show decide ((24 : Int) = 25) = false by decide, Bool.or_false]
    exact h
  obtain rfl : k = 25 := by omega
  have h := hon (.inr rfl)
  show Agree ins pre { on s with fl := (on s).fl || decide ((25 : Int) = 25) } ((ri (pre ++ s.out)).map fun r => match r with
    | .pan => .pan
    | _ => .err)
  rcases h with h | ⟨h, e⟩ | ⟨h, e | ⟨e, hi⟩⟩
  · exact .inl h
  · rw [e]; exact .inr (.inr ⟨by simp, .inl rfl⟩)
  · rw [e]; exact .inr (.inr ⟨by simp, .inl rfl⟩)
  · rw [e]; exact .inr (.inr ⟨by simp, .inr ⟨rfl, hi⟩⟩)
theorem agree_run : ∀ (its : Its) (ins : Bool) (pre : List Int) (s : St), Ok its ins → Arc its → s.fl = false → s.wr = false → s.dir ≤ s.out.length → Agree ins pre (sRun its s) (run its ins (pre ++ s.out)) := by
  intro its
  induction its with
  | nil => intro ins pre s _ _ hf _ _; exact .inr (.inl ⟨hf, rfl⟩)
  | cons k n t d o kids rest ihk ihr =>
    intro ins pre s ho ha hf hw hd
    obtain ⟨o1, o2, o3, o4, o5, o6, o7, o8⟩ := ho
    obtain ⟨a1, a2, a3⟩ := ha
    have h1 := agree_one ins pre k n t d o s (sRun kids St.nil) (sRun kids) (run kids true []) (run kids ins) o1 o2 o5 o6 a1 hf hd
      (fun h7 h11 => ihk true [] St.nil (by rw [show decide (7 ≤ k ∧ k ≤ 11) = true by simp [h7, h11], Bool.or_true] at o7; exact o7) a2 rfl rfl (Nat.le_refl _))
      (fun h24 => ihk ins pre s (by rw [show decide (7 ≤ k ∧ k ≤ 11) = false by simp; omega, Bool.or_false] at o7; exact o7) a2 hf hw hd)
    have hd1 := sdir_one k n t d o (sRun kids St.nil) (sRun kids) s hd (sdir_run kids s hd)
    unfold sRun run
    rw [if_neg (by simp [hf, hw])]
    obtain ⟨s1, hs1⟩ : ∃ s1, sOne k n t d o (sRun kids St.nil) (sRun kids) s = s1 := ⟨_, rfl⟩
    rw [hs1] at h1 hd1 ⊢
    by_cases hwr : s1.wr = true
    · rw [srun_stop rest s1 (.inr hwr)]; exact .inl hwr
    rcases h1 with h | ⟨h, e⟩ | ⟨h, e | ⟨e, hi⟩⟩
    · exact absurd h hwr
    · rw [e]; exact ihr ins pre s1 o8 a3 h (by simpa using hwr) hd1
    · rw [e, srun_stop rest s1 (.inl h)]
      refine .inr (.inr ⟨h, ?_⟩)
      rcases runE_two rest with q | q
      · left; show some (runE rest) = _; rw [q]
      · right; exact ⟨by show some (runE rest) = _; rw [q], runE_ins rest ins o8 q⟩
    · rw [e, srun_stop rest s1 (.inl h)]
      exact .inr (.inr ⟨h, .inr ⟨rfl, hi⟩⟩)

/-! ### steps behind steps -/
def Its.app : Its → Its → Its
  | .nil, b => b
  | .cons k n t d o kids rest, b => .cons k n t d o kids (rest.app b)
theorem app_len (a b : Its) : (a.app b).len = a.len + b.len := by
  induction a with
  | nil => simp [Its.app, Its.len]
  | cons k n t d o kids rest _ ih => simp only [Its.app, Its.len, ih]; omega
theorem app_wt (a b : Its) : wt (a.app b) = wt a + wt b := by
  induction a with
  | nil => simp [Its.app, wt]
  | cons k n t d o kids rest _ ih => simp only [Its.app, wt, ih]; omega
theorem app_ok {a b : Its} {ins : Bool} (ha : Ok a ins) (hb : Ok b ins) : Ok (a.app b) ins := by
  induction a with
  | nil => exact hb
  | cons k n t d o kids rest _ ih =>
    obtain ⟨o1, o2, o3, o4, o5, o6, o7, o8⟩ := ha
    exact ⟨o1, o2, o3, o4, o5, o6, o7, ih o8⟩
theorem app_rng {a b : Its} (ha : Rng a) (hb : Rng b) : Rng (a.app b) := by
  induction a with
  | nil => exact hb
  | cons k n t d o kids rest _ ih => exact ⟨ha.1, ha.2.1, ih ha.2.2⟩
theorem app_runE (a b : Its) : runE (a.app b) = match runE a with
    | .pan => .pan
    | _ => runE b := by
  induction a with
  | nil => rfl
  | cons k n t d o kids rest _ ih =>
    simp only [Its.app, runE]
    cases h : oneE k (runE kids) with
    | pan => rfl
    | good cs => exact ih
    | err => exact ih
theorem app_run (a b : Its) (ins : Bool) : ∀ (cs : List Int), run (a.app b) ins cs = match run a ins cs with
    | none => none
    | some (.good cs') => run b ins cs'
    | some .err => some (runE b)
    | some .pan => some .pan := by
  induction a with
  | nil => intro cs; rfl
  | cons k n t d o kids rest _ ih =>
    intro cs
    simp only [Its.app, run]
    cases h : one ins k n t d o (run kids true []) (run kids ins) cs with
    | none => rfl
    | some r =>
      cases r with
      | good cs' => exact ih cs'
      | err =>
        simp only [app_runE]
        rcases runE_two rest with q | q <;> rw [q]
      | pan => rfl

end Go.Proofs.Ytlpmjahhdbcfiaa
