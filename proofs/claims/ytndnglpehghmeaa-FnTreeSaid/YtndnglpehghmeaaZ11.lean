/- The reference's Right, its TakesBack: contracts. The reference's builder and what steps come to: plain laws. Rows of steps that a slice owns; steps behind steps. -/
import Derived.Test.YtndnglpehghmeaaZ10
import Derived.Test.YtndnglpehghmeaaZ6
import Derived.Test.YtndnglpehghmeaaZ9
import Derived.Test.YtndnglpehghmeaaZ2
/-! ### The reference's Right, its TakesBack: contracts. -/
namespace Go.Proofs.Ytndnglpehghmeaa
open Go.RowKit
set_option linter.unusedVariables false

theorem items_all (its : Its) : ItemsOK its := by
  suffices h : ItemsOK its ∧ Kids ItemsOK its from h.1
  induction its with
  | nil => exact ⟨items_ok _ trivial, trivial⟩
  | cons k n t d o kids rest ihk ihr => exact ⟨items_ok _ ⟨ihk.1, ihr.2⟩, ihk.1, ihr.2⟩
theorem holds_all (its : Its) : HoldsOK its := by
  suffices h : HoldsOK its ∧ Kids HoldsOK its from h.1
  induction its with
  | nil => exact ⟨holds_ok _ trivial, trivial⟩
  | cons k n t d o kids rest ihk ihr => exact ⟨holds_ok _ ⟨ihk.1, ihr.2⟩, ihk.1, ihr.2⟩
theorem chk_all (its : Its) : ChkOK its := by
  suffices h : ChkOK its ∧ Kids ChkOK its from h.1
  induction its with
  | nil => exact ⟨chk_ok _ trivial, trivial⟩
  | cons k n t d o kids rest ihk ihr => exact ⟨chk_ok _ ⟨ihk.1, ihr.2⟩, ihk.1, ihr.2⟩
/-- Steps that are right. -/
def Fine (its : Its) : Prop := its.len + kc its ≤ 300 ∧ hold its ≤ 200000 ∧ Ok its false ∧ Arc its
theorem wt_le (its : Its) : wt its ≤ 24 * (its.len + kc its) + hold its := by
  induction its with
  | nil => simp [wt]
  | cons k n t d o kids rest ihk ihr => simp only [wt, Its.len, kc, hold]; omega
theorem Fine.wt {its : Its} (h : Fine its) : wt its ≤ 207200 := by
  have := wt_le its
  obtain ⟨h1, h2, _⟩ := h
  omega
theorem specRight_dp (its : Its) (A : Option Addr) (n c : Nat) (w : World) (B : Nat) (hi : ItsRd w B A its) (hn : n = its.len) (hn1 : n ≤ 140737488355328) (hB : B ≤ w.heap.size) (hs : Sz its) :
    Calls Try.prog 8 #[.slice A n c] w (Tells w fun r => r = true → Fine its ∧ Dp its 12) := by
  have H1 := Lib.hid (items_all its 300 A n c w B (by decide) (by decide) hi hn hn1 hB hs)
  have H2 := Lib.hid (fun (W : World) (ho : Only [] w W) (hk : its.len + kc its ≤ 300) => holds_all its A n c W B (hi.only ho (by simp) hB) hn (Nat.le_trans hB ho.size) hs (by omega))
  have H3 := Lib.hid (fun (W : World) (ho : Only [] w W) => chk_all its false 12 A n c W B (by decide) (by decide) (hi.only ho (by simp) hB) hn hn1 (Nat.le_trans hB ho.size) hs)
  clear hi hn hn1 hB hs
  go_enter Try.func8, Try.ntmps8
  go_wp2_with fail
  refine H1.out.mono ?_
  rintro e w1 ⟨v, rfl, v0, v1, v2, hk1⟩
  have HK1 := Lib.hid hk1
  clear hk1 H1
  by_cases hv : v ≤ 300
  · have HI := Lib.hid (v2 hv)
    have HC := Lib.hid (H2.out w1 HK1.out (by have := HI.out; omega))
    clear v2
    go_wp2_with fail
    refine HC.out.mono ?_
    rintro e w2 ⟨rfl, hk2⟩
    have HK2 := Lib.hid (HK1.out.trans hk2)
    clear hk2 HC H2
    obtain ⟨t, ht⟩ : ∃ t : Nat, hold its = t := ⟨_, rfl⟩
    rw [ht]
    by_cases hh : t ≤ 200000
    · have HC := Lib.hid (H3.out w2 HK2.out)
      clear H3
      go_wp2_with fail
      refine HC.out.mono ?_
      rintro e w3 ⟨r, rfl, hr, hk3⟩
      have HK3 := Lib.hid (HK2.out.trans hk3)
      have HR := Lib.hid hr
      clear hk3 hr HC
      have HH := Lib.hid (And.intro ht (And.intro hh hv))
      clear ht hh v0 v1 hv
      go_wp2_with fail
      go_ret
      refine ⟨r, rfl, ?_, HK3.out⟩
      intro h
      have := HR.out h
      have h1 := HI.out
      have h2 := HH.out
      exact ⟨⟨by omega, by omega, this.1, this.2.1⟩, this.2.2⟩
    · clear ht v0 v1 H3
      go_wp2_with fail
      go_ret
      exact ⟨false, rfl, (by intro h; cases h), HK2.out⟩
  · clear H2 H3 v2
    go_wp2_with fail
    go_ret
    exact ⟨false, rfl, (by intro h; cases h), HK1.out⟩
theorem specRight_any (its : Its) (A : Option Addr) (n c : Nat) (w : World) (B : Nat) (hi : ItsRd w B A its) (hn : n = its.len) (hn1 : n ≤ 140737488355328) (hB : B ≤ w.heap.size) (hs : Sz its) :
    Calls Try.prog 8 #[.slice A n c] w (Tells w fun r => r = true → Fine its) :=
  (specRight_dp its A n c w B hi hn hn1 hB hs).mono fun _ _ ⟨r, h1, h2, h3⟩ => ⟨r, h1, fun h => (h2 h).1, h3⟩

end Go.Proofs.Ytndnglpehghmeaa

/-! ### The reference's builder and what steps come to: plain laws. -/
namespace Go.Proofs.Ytndnglpehghmeaa
open Go.RowKit

/-- What the reference's builder tells of a result: nothing where it is wrong; bytes behind others; an error. -/
def Agree (ins : Bool) (pre : List Int) (s : St) (o : Option Res) : Prop :=
  s.wr = true ∨ (s.fl = false ∧ o = some (.good (pre ++ s.out))) ∨ (s.fl = true ∧ (o = some .err ∨ (o = some .pan ∧ ins = true)))
theorem Agree.cat {ins : Bool} {pre bs : List Int} {s0 s : St} (hf : s.fl = false) (ho : s.out = s0.out ++ bs) : Agree ins pre s (some (resCat (pre ++ s0.out) (some bs))) :=
  .inr (.inl ⟨hf, by rw [ho]; simp [resCat]⟩)
theorem Agree.bad {ins : Bool} {pre cs : List Int} {s : St} (hf : s.fl = true) : Agree ins pre s (some (resCat cs none)) := .inr (.inr ⟨hf, .inl rfl⟩)
theorem agree_elem (ins : Bool) (pre : List Int) (t : Int) (xs : List Int) (s : St) (hf : s.fl = false) : Agree ins pre (sElem t xs s) (some (resCat (pre ++ s.out) (elem t xs))) := by
  unfold sElem elem
  by_cases h : t % 32 = 31
  · rw [if_pos h, if_pos h]; exact Agree.bad rfl
  · rw [if_neg h, if_neg h]; exact Agree.cat hf rfl
theorem right_valid (o : List Int) (hv : ∀ v ∈ o, v ≤ 2147483647) (h1 : o.getD 1 0 ≤ 2147483567) : oidRight o = validOID o := by
  unfold oidRight validOID
  apply decide_eq_decide.2
  cases o with
  | nil => simp
  | cons a r =>
    cases r with
    | nil => simp
    | cons b r =>
      simp only [List.length_cons, List.getD_cons_zero, List.getD_cons_succ, List.drop_succ_cons, List.drop_zero, List.mem_cons] at hv h1 ⊢
      constructor
      · rintro ⟨p1, p2, p3, p4, p5, p6⟩
        refine ⟨p1, p3, by omega, ?_⟩
        rintro v (rfl | h)
        · exact p2
        · exact (p6 v h).1
      · rintro ⟨p1, p2, p3, p4⟩
        have := p4 a (.inl rfl)
        refine ⟨p1, this, p2, by omega, by omega, ?_⟩
        intro v h
        exact ⟨p4 v (.inr h), hv v (.inr h)⟩
theorem agree_oid (ins : Bool) (pre o : List Int) (s : St) (hf : s.fl = false) (hv : ∀ v ∈ o, v ≤ 2147483647) (h1 : o.getD 1 0 ≤ 2147483567) : Agree ins pre (sOid o s) (some (resCat (pre ++ s.out) ((oidCs o).bind (elem 6)))) := by
  unfold sOid oidCs
  rw [right_valid o hv h1]
  cases h : validOID o with
  | true => exact agree_elem ins pre 6 (oidC o) s hf
  | false => exact Agree.bad rfl
theorem agree_pre (ins : Bool) (pre : List Int) (m : Nat) (inn s : St) (rt : Option Res) (hf : s.fl = false) (h : Agree true [] inn rt) :
    Agree ins pre (sPre m inn.out (sIn inn s)) (rt.map fun r => (lpRes false m ins r).pre (pre ++ s.out)) := by
  rcases h with h | ⟨h, rfl⟩ | ⟨h, h2⟩
  · left
    unfold sPre
    split <;> simp [sIn, h]
  · rw [List.nil_append]
    unfold sPre
    by_cases hl : 256 ^ m ≤ inn.out.length
    · rw [if_pos hl]
      right; right
      refine ⟨rfl, .inl ?_⟩
      simp only [Option.map_some, lpRes, fl, Bool.false_eq_true, if_false]
      rw [if_neg (by omega)]
      rfl
    · rw [if_neg hl]
      right; left
      refine ⟨by simp [sIn, hf, h], ?_⟩
      simp only [Option.map_some, lpRes, fl, Bool.false_eq_true, if_false]
      rw [if_pos (by omega)]
      simp [Res.pre, sIn]
  · right; right
    refine ⟨by unfold sPre; split <;> simp [sIn, h], ?_⟩
    rcases h2 with rfl | ⟨rfl, _⟩
    · left; rfl
    · cases ins with
      | true => right; exact ⟨rfl, rfl⟩
      | false => left; rfl
theorem agree_asn (ins : Bool) (pre : List Int) (t : Int) (inn s : St) (rt : Option Res) (hf : s.fl = false) (h : Agree true [] inn rt) :
    Agree ins pre (sElem t inn.out (sIn inn s)) (rt.map fun r => (asnAll t ins r).pre (pre ++ s.out)) := by
  unfold sElem asnAll
  by_cases ht : t % 32 = 31
  · simp only [if_pos ht]
    rcases h with h | ⟨h, rfl⟩ | ⟨h, h2⟩
    · left; simp [sIn, h]
    · right; right; exact ⟨rfl, .inl rfl⟩
    · right; right
      refine ⟨rfl, .inl ?_⟩
      rcases h2 with rfl | ⟨rfl, _⟩ <;> rfl
  · simp only [if_neg ht]
    rcases h with h | ⟨h, rfl⟩ | ⟨h, h2⟩
    · left; simp [sIn, h]
    · right; left
      refine ⟨by simp [sIn, hf, h], ?_⟩
      simp [Res.pre, asnRes, sIn]
    · right; right
      refine ⟨by simp [sIn, h], ?_⟩
      rcases h2 with rfl | ⟨rfl, _⟩
      · left; rfl
      · cases ins with
        | true => right; exact ⟨rfl, rfl⟩
        | false => left; rfl
theorem sdir_elem (t : Int) (xs : List Int) (s : St) (h : s.dir ≤ s.out.length) : (sElem t xs s).dir ≤ (sElem t xs s).out.length := by
  unfold sElem; split
  · exact h
  · exact Nat.zero_le _
theorem sdir_pre (m : Nat) (xs : List Int) (s : St) (h : s.dir ≤ s.out.length) : (sPre m xs s).dir ≤ (sPre m xs s).out.length := by
  unfold sPre; split
  · exact h
  · exact Nat.zero_le _
theorem sdir_back (n : Int) (s : St) (h : s.dir ≤ s.out.length) : (sBack n s).dir ≤ (sBack n s).out.length := by
  unfold sBack; split
  · simp only [List.length_take]; omega
  · exact h
theorem sdir_wr (xs : List Int) (s : St) (h : s.dir ≤ s.out.length) : (sWr xs s).dir ≤ (sWr xs s).out.length := by
  simp only [sWr, List.length_append]; omega
theorem sdir_one (k n t : Int) (d o : List Int) (inn : St) (on : St → St) (s : St) (h : s.dir ≤ s.out.length) (hon : (on s).dir ≤ (on s).out.length) : (sOne k n t d o inn on s).dir ≤ (sOne k n t d o inn on s).out.length := by
  have hin : (sIn inn s).dir ≤ (sIn inn s).out.length := h
  have key : ∀ (c : Prop) [Decidable c] (a e : St), a.dir ≤ a.out.length → e.dir ≤ e.out.length → (if c then a else e).dir ≤ (if c then a else e).out.length := by
    intro c _ a e ha he
    by_cases hc : c
    · rw [if_pos hc]; exact ha
    · rw [if_neg hc]; exact he
  unfold sOne sLeaf sOid
  repeat' refine key _ _ _ ?_ ?_
  all_goals first
    | exact sdir_wr _ _ h
    | exact sdir_pre _ _ _ hin
    | exact sdir_elem _ _ _ hin
    | exact sdir_elem _ _ _ h
    | exact sdir_back _ _ h
    | exact hon
    | exact h
    | exact Nat.zero_le _
    | (simp only [List.length_take]; omega)
theorem sdir_run : ∀ (its : Its) (s : St), s.dir ≤ s.out.length → (sRun its s).dir ≤ (sRun its s).out.length := by
  intro its
  induction its with
  | nil => intro s h; exact h
  | cons k n t d o kids rest ihk ihr =>
    intro s h
    unfold sRun
    split
    · exact h
    · exact ihr _ (sdir_one _ _ _ _ _ _ _ _ h (ihk s h))
theorem srun_stop (its : Its) (s : St) (h : s.fl = true ∨ s.wr = true) : sRun its s = s := by
  cases its with
  | nil => rfl
  | cons k n t d o kids rest =>
    unfold sRun
    rw [if_pos (by rcases h with h | h <;> simp [h])]
theorem runE_ins : ∀ (its : Its) (ins : Bool), Ok its ins → runE its = .pan → ins = true := by
  intro its
  induction its with
  | nil => intro ins _ h; cases h
  | cons k n t d o kids rest ihk ihr =>
    intro ins ho h
    obtain ⟨_, _, _, _, o5, _, o7, o8⟩ := ho
    unfold runE at h
    split at h
    · rename_i h1
      unfold oneE at h1
      split at h1
      · rename_i e; exact o5 e
      · split at h1
        · rename_i e
          have h2 : runE kids = .pan := by
            rcases runE_two kids with q | q
            · rw [q] at h1; cases h1
            · exact q
          have := ihk _ o7 h2
          have hd : decide (7 ≤ k ∧ k ≤ 11) = false := by rcases e with rfl | rfl <;> decide
          rw [hd, Bool.or_false] at this
          exact this
        · cases h1
    · exact ihr _ o8 h
theorem agree_one (ins : Bool) (pre : List Int) (k n t : Int) (d o : List Int) (s inn : St) (on : St → St) (rt : Option Res) (ri : List Int → Option Res) (k0 : 0 ≤ k) (k1 : k ≤ 25) (h23 : k = 23 → ins = true) (hv : ∀ v ∈ o, v ≤ 2147483647) (h1 : o.getD 1 0 ≤ 2147483567) (hf : s.fl = false) (hd : s.dir ≤ s.out.length)
    (hin : 7 ≤ k → k ≤ 11 → Agree true [] inn rt) (hon : k = 24 ∨ k = 25 → Agree ins pre (on s) (ri (pre ++ s.out))) :
    Agree ins pre (sOne k n t d o inn on s) (one ins k n t d o rt ri (pre ++ s.out)) := by
  by_cases e0 : k = 0
  · subst e0; exact Agree.cat hf rfl
  by_cases e1 : k = 1
  · subst e1; exact Agree.cat hf rfl
  by_cases e2 : k = 2
  · subst e2; exact Agree.cat hf rfl
  by_cases e3 : k = 3
  · subst e3; exact Agree.cat hf rfl
  by_cases e4 : k = 4
  · subst e4; exact Agree.cat hf rfl
  by_cases e5 : k = 5
  · subst e5; exact Agree.cat hf rfl
  by_cases e6 : k = 6
  · subst e6; exact Agree.cat hf rfl
  by_cases e7 : k = 7
  · subst e7; exact agree_pre ins pre 1 inn s rt hf (hin (by decide) (by decide))
  by_cases e8 : k = 8
  · subst e8; exact agree_pre ins pre 2 inn s rt hf (hin (by decide) (by decide))
  by_cases e9 : k = 9
  · subst e9; exact agree_pre ins pre 3 inn s rt hf (hin (by decide) (by decide))
  by_cases e10 : k = 10
  · subst e10; exact agree_pre ins pre 4 inn s rt hf (hin (by decide) (by decide))
  by_cases e11 : k = 11
  · subst e11; exact agree_asn ins pre t inn s rt hf (hin (by decide) (by decide))
  by_cases e12 : k = 12
  · subst e12; exact agree_elem ins pre 1 [if n = 1 then 255 else 0] s hf
  by_cases e13 : k = 13
  · subst e13; exact agree_elem ins pre 2 (octs n) s hf
  by_cases e14 : k = 14
  · subst e14; exact agree_elem ins pre t (octs n) s hf
  by_cases e15 : k = 15
  · subst e15; exact agree_elem ins pre 2 (uocts (n % 18446744073709551616)) s hf
  by_cases e16 : k = 16
  · subst e16; exact agree_elem ins pre 10 (octs n) s hf
  by_cases e17 : k = 17
  · subst e17; exact agree_elem ins pre 5 [] s hf
  by_cases e18 : k = 18
  · subst e18; exact agree_elem ins pre 4 d s hf
  by_cases e19 : k = 19
  · subst e19; exact agree_elem ins pre 3 (0 :: d) s hf
  by_cases e20 : k = 20
  · subst e20; exact agree_oid ins pre o s hf hv h1
  by_cases e21 : k = 21
  · subst e21; exact .inr (.inr ⟨rfl, .inl rfl⟩)
  by_cases e22 : k = 22
  · subst e22
    show Agree ins pre (sBack n s) (if 0 ≤ n ∧ n ≤ (pre ++ s.out).length then some (.good ((pre ++ s.out).take ((pre ++ s.out).length - n.toNat))) else none)
    unfold sBack
    by_cases hn : 0 ≤ n ∧ n ≤ s.dir
    · rw [if_pos hn, if_pos (by simp only [List.length_append]; omega)]
      right; left
      refine ⟨hf, ?_⟩
      have hle : n.toNat ≤ s.out.length := by omega
      rw [List.take_append, List.take_of_length_le (by simp only [List.length_append]; omega), show (pre ++ s.out).length - n.toNat - pre.length = s.out.length - n.toNat by simp only [List.length_append]; omega]
    · rw [if_neg hn]; exact .inl rfl
  by_cases e23 : k = 23
  · subst e23; exact .inr (.inr ⟨rfl, .inr ⟨rfl, h23 rfl⟩⟩)
  by_cases e24 : k = 24
  · subst e24
    have h := hon (.inl rfl)
    show Agree ins pre { on s with fl := (on s).fl || decide ((24 : Int) = 25) } (ri (pre ++ s.out))
    rw [show decide ((24 : Int) = 25) = false by decide, Bool.or_false]
    exact h
  obtain rfl : k = 25 := by omega
  have h := hon (.inr rfl)
  show Agree ins pre { on s with fl := (on s).fl || decide ((25 : Int) = 25) } ((ri (pre ++ s.out)).map fun r => match r with
    | .pan => .pan
    | _ => .err)
  rcases h with h | ⟨h, e⟩ | ⟨h, e | ⟨e, hi⟩⟩
  · exact .inl h
  · rw [e]; exact .inr (.inr ⟨by simp, .inl rfl⟩)
  · rw [e]; exact .inr (.inr ⟨by simp, .inl rfl⟩)
  · rw [e]; exact .inr (.inr ⟨by simp, .inr ⟨rfl, hi⟩⟩)
theorem agree_run : ∀ (its : Its) (ins : Bool) (pre : List Int) (s : St), Ok its ins → Arc its → s.fl = false → s.wr = false → s.dir ≤ s.out.length → Agree ins pre (sRun its s) (run its ins (pre ++ s.out)) := by
  intro its
  induction its with
  | nil => intro ins pre s _ _ hf _ _; exact .inr (.inl ⟨hf, rfl⟩)
  | cons k n t d o kids rest ihk ihr =>
    intro ins pre s ho ha hf hw hd
    obtain ⟨o1, o2, o3, o4, o5, o6, o7, o8⟩ := ho
    obtain ⟨a1, a2, a3⟩ := ha
    have h1 := agree_one ins pre k n t d o s (sRun kids St.nil) (sRun kids) (run kids true []) (run kids ins) o1 o2 o5 o6 a1 hf hd
      (fun h7 h11 => ihk true [] St.nil (by rw [show decide (7 ≤ k ∧ k ≤ 11) = true by simp [h7, h11], Bool.or_true] at o7; exact o7) a2 rfl rfl (Nat.le_refl _))
      (fun h24 => ihk ins pre s (by rw [show decide (7 ≤ k ∧ k ≤ 11) = false by simp; omega, Bool.or_false] at o7; exact o7) a2 hf hw hd)
    have hd1 := sdir_one k n t d o (sRun kids St.nil) (sRun kids) s hd (sdir_run kids s hd)
    unfold sRun run
    rw [if_neg (by simp [hf, hw])]
    obtain ⟨s1, hs1⟩ : ∃ s1, sOne k n t d o (sRun kids St.nil) (sRun kids) s = s1 := ⟨_, rfl⟩
    rw [hs1] at h1 hd1 ⊢
    by_cases hwr : s1.wr = true
    · rw [srun_stop rest s1 (.inr hwr)]; exact .inl hwr
    rcases h1 with h | ⟨h, e⟩ | ⟨h, e | ⟨e, hi⟩⟩
    · exact absurd h hwr
    · rw [e]; exact ihr ins pre s1 o8 a3 h (by simpa using hwr) hd1
    · rw [e, srun_stop rest s1 (.inl h)]
      refine .inr (.inr ⟨h, ?_⟩)
      rcases runE_two rest with q | q
      · left; show some (runE rest) = _; rw [q]
      · right; exact ⟨by show some (runE rest) = _; rw [q], runE_ins rest ins o8 q⟩
    · rw [e, srun_stop rest s1 (.inl h)]
      exact .inr (.inr ⟨h, .inr ⟨rfl, hi⟩⟩)

/-! ### steps behind steps -/
def Its.app : Its → Its → Its
  | .nil, b => b
  | .cons k n t d o kids rest, b => .cons k n t d o kids (rest.app b)
theorem app_len (a b : Its) : (a.app b).len = a.len + b.len := by
  induction a with
  | nil => simp [Its.app, Its.len]
  | cons k n t d o kids rest _ ih => simp only [Its.app, Its.len, ih]; omega
theorem app_wt (a b : Its) : wt (a.app b) = wt a + wt b := by
  induction a with
  | nil => simp [Its.app, wt]
  | cons k n t d o kids rest _ ih => simp only [Its.app, wt, ih]; omega
theorem app_ok {a b : Its} {ins : Bool} (ha : Ok a ins) (hb : Ok b ins) : Ok (a.app b) ins := by
  induction a with
  | nil => exact hb
  | cons k n t d o kids rest _ ih =>
    obtain ⟨o1, o2, o3, o4, o5, o6, o7, o8⟩ := ha
    exact ⟨o1, o2, o3, o4, o5, o6, o7, ih o8⟩
theorem app_rng {a b : Its} (ha : Rng a) (hb : Rng b) : Rng (a.app b) := by
  induction a with
  | nil => exact hb
  | cons k n t d o kids rest _ ih => exact ⟨ha.1, ha.2.1, ih ha.2.2⟩
theorem app_runE (a b : Its) : runE (a.app b) = match runE a with
    | .pan => .pan
    | _ => runE b := by
  induction a with
  | nil => rfl
  | cons k n t d o kids rest _ ih =>
    simp only [Its.app, runE]
    cases h : oneE k (runE kids) with
    | pan => rfl
    | good cs => exact ih
    | err => exact ih
theorem app_run (a b : Its) (ins : Bool) : ∀ (cs : List Int), run (a.app b) ins cs = match run a ins cs with
    | none => none
    | some (.good cs') => run b ins cs'
    | some .err => some (runE b)
    | some .pan => some .pan := by
  induction a with
  | nil => intro cs; rfl
  | cons k n t d o kids rest _ ih =>
    intro cs
    simp only [Its.app, run]
    cases h : one ins k n t d o (run kids true []) (run kids ins) cs with
    | none => rfl
    | some r =>
      cases r with
      | good cs' => exact ih cs'
      | err =>
        simp only [app_runE]
        rcases runE_two rest with q | q <;> rw [q]
      | pan => rfl

end Go.Proofs.Ytndnglpehghmeaa

/-! ### Rows of steps that a slice owns; steps behind steps. -/
namespace Go.Proofs.Ytndnglpehghmeaa
open Go.RowKit
set_option linter.unusedVariables false

theorem item_info : (Try.prog.info? 42).map (fun i => (i.zero, i.size, i.bytes)) = some (some (.agg #[.int .i64 0, .int .i64 0, .int .i64 0, .slice none 0 0, .slice none 0 0, .slice none 0 0]), 6, 96) := by kernel_rfl

/-- The cells of steps. -/
def ItsCells (w : World) (B : Nat) : Its → List Value → Prop
  | .nil, cs => cs = []
  | .cons k n t d o kids rest, cs => ∃ (Ad : Option Addr) (cd : Nat) (Ao : Option Addr) (co : Nat) (Ak : Option Addr) (ck : Nat) (cs' : List Value),
      cs = itemCells k n t d o Ad cd Ao co Ak kids.len ck ++ cs' ∧
      (-9223372036854775808 ≤ k ∧ k ≤ 9223372036854775807) ∧ (-9223372036854775808 ≤ n ∧ n ≤ 9223372036854775807) ∧ (-9223372036854775808 ≤ t ∧ t ≤ 9223372036854775807) ∧
      Rd w B Ad d ∧ d.length ≤ cd ∧ cd ≤ maxLen ∧ RdI w B Ao o ∧ o.length ≤ co ∧ co ≤ maxLen ∧ kids.len ≤ ck ∧ ck ≤ maxLen ∧ ItsRd w B Ak kids ∧ ItsCells w B rest cs'
theorem ItsCells.len {w : World} {B : Nat} : ∀ {its : Its} {cs : List Value}, ItsCells w B its cs → cs.length = its.len * 6 := by
  intro its
  induction its with
  | nil => intro cs h; have : cs = [] := h; subst this; simp [Its.len]
  | cons k n t d o kids rest _ ih =>
    rintro cs ⟨Ad, cd, Ao, co, Ak, ck, cs', rfl, h⟩
    have := ih h.2.2.2.2.2.2.2.2.2.2.2.2
    simp only [List.length_append, this, itemCells, List.length_cons, List.length_nil, Its.len]
    omega
theorem ItsCells.one {w : World} {B : Nat} : ∀ {its : Its} {cs : List Value}, ItsCells w B its cs → ∀ u ∈ cs, u.oneCell' = true := by
  intro its
  induction its with
  | nil => intro cs h u hu; have : cs = [] := h; subst this; cases hu
  | cons k n t d o kids rest _ ih =>
    rintro cs ⟨Ad, cd, Ao, co, Ak, ck, cs', rfl, h⟩ u hu
    rcases List.mem_append.1 hu with hu | hu
    · simp only [itemCells, List.mem_cons, List.not_mem_nil, or_false] at hu
      rcases hu with rfl | rfl | rfl | rfl | rfl | rfl <;> rfl
    · exact ih h.2.2.2.2.2.2.2.2.2.2.2.2 u hu
theorem RdI.keep' {w w' : World} {B : Nat} {A : Option Addr} {xs : List Int} (h : RdI w B A xs) (hk : ∀ p : Addr, p.block < B → w'.cell? p = w.cell? p) : RdI w' B A xs := h.keep hk
theorem ItsCells.keep {w w' : World} {B : Nat} (hk : ∀ p : Addr, p.block < B → w'.cell? p = w.cell? p) : ∀ {its : Its} {cs : List Value}, ItsCells w B its cs → ItsCells w' B its cs := by
  intro its
  induction its with
  | nil => intro cs h; exact h
  | cons k n t d o kids rest _ ih =>
    rintro cs ⟨Ad, cd, Ao, co, Ak, ck, cs', rfl, r1, r2, r3, r4, r5, r6, r7, r8, r9, r10, r11, r12, r13⟩
    exact ⟨Ad, cd, Ao, co, Ak, ck, cs', rfl, r1, r2, r3, r4.keep hk, r5, r6, r7.keep hk, r8, r9, r10, r11, r12.keep hk, ih r13⟩
theorem ItsAt.mono {w : World} {B B' : Nat} (hB : B ≤ B') : ∀ {its : Its} {b off : Nat}, ItsAt w B its b off → ItsAt w B' its b off := by
  intro its
  induction its with
  | nil => intro _ _ _; trivial
  | cons k n t d o kids rest ihk ihr =>
    rintro b off ⟨Ad, cd, Ao, co, Ak, ck, h1, h2, h3, h4, h5, h6, h7, h8, h9, h10, h11, h12, h13, h14⟩
    refine ⟨Ad, cd, Ao, co, Ak, ck, h1, h2, h3, h4, h5.more hB, h6, h7, h8.more hB, h9, h10, h11, h12, ?_, ihr h14⟩
    intro hp
    obtain ⟨b', off', e, hb', h⟩ := h13 hp
    exact ⟨b', off', e, Nat.lt_of_lt_of_le hb' hB, ihk h⟩
theorem ItsRd.mono {w : World} {B B' : Nat} {A : Option Addr} {its : Its} (h : ItsRd w B A its) (hB : B ≤ B') : ItsRd w B' A its := by
  intro hp
  obtain ⟨b, off, e, hb, h⟩ := h hp
  exact ⟨b, off, e, Nat.lt_of_lt_of_le hb hB, h.mono hB⟩
theorem ItsCells.mono {w : World} {B B' : Nat} (hB : B ≤ B') : ∀ {its : Its} {cs : List Value}, ItsCells w B its cs → ItsCells w B' its cs := by
  intro its
  induction its with
  | nil => intro cs h; exact h
  | cons k n t d o kids rest _ ih =>
    rintro cs ⟨Ad, cd, Ao, co, Ak, ck, cs', rfl, r1, r2, r3, r4, r5, r6, r7, r8, r9, r10, r11, r12, r13⟩
    exact ⟨Ad, cd, Ao, co, Ak, ck, cs', rfl, r1, r2, r3, r4.more hB, r5, r6, r7.more hB, r8, r9, r10, r11, r12.mono hB, ih r13⟩
theorem ItsAt.cells {w : World} {B : Nat} : ∀ {its : Its} {b off : Nat}, ItsAt w B its b off → ∃ cs, ItsCells w B its cs ∧ ∀ j u, cs[j]? = some u → w.cell? ⟨b, off + j, none⟩ = some u := by
  intro its
  induction its with
  | nil => intro b off _; exact ⟨[], rfl, fun j u h => by simp at h⟩
  | cons k n t d o kids rest ihk ihr =>
    rintro b off ⟨Ad, cd, Ao, co, Ak, ck, h1, h2, h3, h4, h5, h6, h7, h8, h9, h10, h11, h12, h13, h14⟩
    obtain ⟨cs', c1, c2⟩ := ihr h14
    refine ⟨itemCells k n t d o Ad cd Ao co Ak kids.len ck ++ cs', ⟨Ad, cd, Ao, co, Ak, ck, cs', rfl, h2, h3, h4, h5, h6, h7, h8, h9, h10, h11, h12, h13, c1⟩, ?_⟩
    intro j u hj
    have hl : (itemCells k n t d o Ad cd Ao co Ak kids.len ck).length = 6 := rfl
    by_cases hlt : j < 6
    · rw [List.getElem?_append_left (by omega)] at hj
      exact h1 j u hj
    · rw [List.getElem?_append_right (by omega), hl] at hj
      have := c2 _ u hj
      rwa [show off + 6 + (j - 6) = off + j by omega] at this
theorem ItsCells.at_ {w : World} {B : Nat} : ∀ {its : Its} {cs : List Value} {b off : Nat}, ItsCells w B its cs → (∀ j u, cs[j]? = some u → w.cell? ⟨b, off + j, none⟩ = some u) → ItsAt w B its b off := by
  intro its
  induction its with
  | nil => intro _ _ _ _ _; trivial
  | cons k n t d o kids rest ihk ihr =>
    rintro cs b off ⟨Ad, cd, Ao, co, Ak, ck, cs', rfl, h2, h3, h4, h5, h6, h7, h8, h9, h10, h11, h12, h13, h14⟩ hc
    have hl : (itemCells k n t d o Ad cd Ao co Ak kids.len ck).length = 6 := rfl
    refine ⟨Ad, cd, Ao, co, Ak, ck, fun i u hu => hc i u ?_, h2, h3, h4, h5, h6, h7, h8, h9, h10, h11, h12, h13, ihr h14 fun j u hu => ?_⟩
    · rw [List.getElem?_append_left (List.getElem?_eq_some_iff.1 hu).1]; exact hu
    · have := hc (6 + j) u (by rw [List.getElem?_append_right (by omega), hl, show 6 + j - 6 = j by omega]; exact hu)
      rwa [show off + (6 + j) = off + 6 + j by omega] at this
theorem ItsCells.append {w : World} {B : Nat} {b : Its} {cb : List Value} (hb : ItsCells w B b cb) : ∀ {a : Its} {ca : List Value}, ItsCells w B a ca → ItsCells w B (a.app b) (ca ++ cb) := by
  intro a
  induction a with
  | nil => intro ca h; have : ca = [] := h; subst this; exact hb
  | cons k n t d o kids rest _ ih =>
    rintro cs ⟨Ad, cd, Ao, co, Ak, ck, cs', rfl, r1, r2, r3, r4, r5, r6, r7, r8, r9, r10, r11, r12, r13⟩
    exact ⟨Ad, cd, Ao, co, Ak, ck, cs' ++ cb, by rw [List.append_assoc], r1, r2, r3, r4, r5, r6, r7, r8, r9, r10, r11, r12, ih r13⟩
/-- A row of steps that a slice owns; what they hold lies below B. -/
def RowT (w : World) (base B : Nat) (v : Value) (its : Its) : Prop := ∃ cs, ItsCells w B its cs ∧ w.ownsRow base 42 6 v its.len cs
theorem RowT.form {w : World} {base B : Nat} {v : Value} {its : Its} (h : RowT w base B v its) : ∃ A c, v = .slice A its.len c ∧ its.len ≤ c ∧ c ≤ maxLen ∧ (∀ b, A = some b → base ≤ b.block) := by
  obtain ⟨cs, _, h⟩ := h
  rcases h.2 with ⟨rfl, h0⟩ | ⟨g, cap, cur, rfl, hg, _, hn, hm, _⟩
  · exact ⟨none, 0, by rw [h0], by omega, Nat.zero_le _, fun b e => by cases e⟩
  · exact ⟨_, cap, rfl, hn, hm, fun b e => by cases e; exact hg⟩
theorem RowT.low {w : World} {base B : Nat} {v : Value} {its : Its} (h : RowT w base B v its) : ∀ k ∈ own v, base ≤ k := by
  obtain ⟨cs, _, h⟩ := h
  exact own_low h
theorem RowT.only {w w' : World} {base B : Nat} {v : Value} {its : Its} {l : List Nat} (h : RowT w base B v its) (ho : Only l w w') (hl : ∀ k ∈ l, k ∉ own v ∧ B ≤ k) (hB : B ≤ w.heap.size) : RowT w' base B v its := by
  obtain ⟨cs, h1, h2⟩ := h
  exact ⟨cs, h1.keep fun _ hp => (ho.below (fun k hk => (hl k hk).2) hB).cell hp, own_only h2 ho fun k hk => (hl k hk).1⟩
theorem RowT.rd {w : World} {base B : Nat} {A : Option Addr} {n c : Nat} {its : Its} (h : RowT w base B (.slice A n c) its) (hB : B ≤ w.heap.size) : ItsRd w w.heap.size A its := by
  obtain ⟨cs, h1, h2⟩ := h
  intro hp
  rcases h2.2 with ⟨hv, h0⟩ | ⟨g, cap, cur, hv, _, hg, hnc, _, hcs, htake⟩
  · omega
  · injection hv with hA _ _
    subst hA
    refine ⟨g, 0, rfl, (Array.getElem?_eq_some_iff.1 hg).1, (h1.mono hB).at_ fun j u hj => ?_⟩
    rw [Nat.zero_add, cell_of_row w g j cur 42 (0, 0) hg]
    rw [← htake] at hj
    have hlt := (List.getElem?_eq_some_iff.1 hj).1
    rw [List.getElem?_take] at hj
    split at hj
    · simpa using hj
    · cases hj
theorem appendT_none (w : World) (base B : Nat) (v : Value) (its : Its) (c : Nat) (h : RowT w base B v its) :
    (Builtin.append_ #[22, 22] 22 #[v, .slice none 0 c]).run Try.prog w = .ok v w := by
  obtain ⟨i0, hi, _⟩ := info_parts item_info
  obtain ⟨cs, _, h⟩ := h
  rcases h.2 with ⟨rfl, h0⟩ | ⟨g, cap, cur, rfl, _, _, hnc, _⟩
  · simp [Builtin.append_, run_underlying Try.underlying22, sizeOf, typeInfo, hi, Builtin.lenOf, Builtin.firstCells]
  · simp [Builtin.append_, run_underlying Try.underlying22, sizeOf, typeInfo, hi, Builtin.lenOf, Builtin.firstCells, hnc, storeCells]
/-- Appending steps that are read to a row of one's own, at the operation. -/
theorem wpList_rowT {ops : Array Oper} {rest : List Oper} {o : Oper} {a : Act} {w : World} {Q : Exit → Act → World → Prop} (hgd : o.guard = none) (s x : Operand)
    (ho : o.op = .call { callee := .builtin .append, args := #[s, x], argTypes := #[22, 22] }) (hty : o.type = 22) (base B : Nat) (v : Value) (i1 i2 : Its) (A : Option Addr) (n c : Nat)
    (hs : a.eval s = v) (hx : a.eval x = .slice A n c) (hr : RowT w base B v i1) (hrd : 0 < i2.len → ∃ b off cs, A = some ⟨b, off, none⟩ ∧ ItsCells w B i2 cs ∧ ∀ j u, cs[j]? = some u → w.cell? ⟨b, off + j, none⟩ = some u) (hn : n = i2.len) (hb : base ≤ w.heap.size) (hBb : B ≤ base) (hl : i1.len + i2.len ≤ 1000000000000)
    (h : ∀ v' w1, RowT w1 base B v' (i1.app i2) → Only (own v) w w1 → (v'.ownBlock = v.ownBlock ∨ ∀ k ∈ own v', w.heap.size ≤ k) → wpList Try.prog ops Q rest (a.put o.dst v') w1) :
    wpList Try.prog ops Q (o :: rest) a w := by
  subst hn
  obtain ⟨i0, hi, hz0, hz1, hz2⟩ := info_parts item_info
  have hnil : ∀ its : Its, its.len = 0 → its = .nil := fun its h => by cases its with | nil => rfl | cons => simp [Its.len] at h
  have happ : i1.app .nil = i1 := by
    clear hr hl h hs
    induction i1 with
    | nil => rfl
    | cons k n t d o kids rest _ ih => simp only [Its.app, ih]
  have hlow := hr.low
  rcases A with _ | ad
  · have h0 : i2 = .nil := by
      refine hnil _ ?_
      rcases Nat.eq_zero_or_pos i2.len with h | h
      · exact h
      · obtain ⟨_, _, _, e', _⟩ := hrd h
        cases e'
    subst h0
    have hq := h v w (by rw [happ]; exact hr) (Only.refl _ _) (.inl rfl)
    refine wpList_plain hgd fun _ hK => ?_
    unfold Oper.wp execOp
    simp only [ho, hty, resolve, invoke, builtin, Sem.run_bind, Sem.run_pure, Result.andThen_ok, List.map_toArray, List.map_cons, List.map_nil, hs, hx, appendT_none w base B v i1 c hr, Its.len]
    exact hK _ _ hq
  · obtain ⟨c1, g1, hown⟩ := hr
    obtain ⟨cs, g2, hcs⟩ : ∃ cs, ItsCells w B i2 cs ∧ ∀ j u, cs[j]? = some u → w.cell? (ad.add j) = some u := by
      rcases Nat.eq_zero_or_pos i2.len with h0 | h0
      · rw [hnil _ h0]
        exact ⟨[], rfl, fun j u h => by simp at h⟩
      · obtain ⟨b, off, cs, e, h1, h2⟩ := hrd h0
        replace e := Option.some.inj e
        subst e
        refine ⟨cs, h1, fun j u hj => ?_⟩
        have hp : (⟨b, off, none⟩ : Addr).add j = ⟨b, off + j, none⟩ := by unfold Addr.add; split <;> simp_all
        rw [hp]
        exact h2 j u hj
    refine wpList_append_own_at w hgd s x 22 ho base 42 i0 _ 6 96 Try.underlying22 hi hz0 hz1 hz2 rfl (by decide) v i1.len c1 hs hown ad i2.len c cs hx g2.len hcs g2.one (by unfold maxLen; omega) (by omega) hb ?_
    intro v' w1 hown' hg _ hat
    have hon : Only (own v) w w1 := Only.grown hg (fun k hk _ => by simp [own, hk])
    have hkeep : ∀ p : Addr, p.block < B → w1.cell? p = w.cell? p := fun _ hp => (hon.below (B := B) (fun k hk => Nat.le_trans hBb (hlow k hk)) (Nat.le_trans hBb hb)).cell hp
    refine h v' w1 ⟨c1 ++ cs, (g2.keep hkeep).append (g1.keep hkeep), by rw [app_len]; exact hown'⟩ hon ?_
    rcases hat with e | e
    · exact .inl e
    · refine .inr fun k hk => ?_
      simp [own, e] at hk
      omega
/-- A literal of no steps. -/
theorem RowT.lit (w : World) (base B : Nat) (hb : base ≤ w.heap.size) : RowT (w.alloc (.cells #[] 42)) base B (.slice (some ⟨w.heap.size, 0, none⟩) 0 0) .nil :=
  ⟨[], rfl, World.ownsRow_lit w #[] 0 hb (by unfold maxLen; omega) rfl⟩
theorem ItsRd.cells {w : World} {B : Nat} {A : Option Addr} {its : Its} (h : ItsRd w B A its) : 0 < its.len → ∃ b off cs, A = some ⟨b, off, none⟩ ∧ ItsCells w B its cs ∧ ∀ j u, cs[j]? = some u → w.cell? ⟨b, off + j, none⟩ = some u := by
  intro hp
  obtain ⟨b, off, e, _, h⟩ := h hp
  obtain ⟨cs, h1, h2⟩ := h.cells
  exact ⟨b, off, cs, e, h1, h2⟩

end Go.Proofs.Ytndnglpehghmeaa
