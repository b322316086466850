/- The law that BytesOrPanic panics just where there is an error: walk. The law on a builder with a buffer: walk. -/
import Derived.Test.YtlpmjahhdbcfiaaZ8
import Derived.Test.YtlpmjahhdbcfiaaZ17
import Derived.Test.YtlpmjahhdbcfiaaZ1
import Derived.Test.YtlpmjahhdbcfiaaZ2
/-! ### The law that BytesOrPanic panics just where there is an error: walk. -/
namespace Go.Proofs.Ytlpmjahhdbcfiaa
open Go.RowKit
set_option linter.unusedVariables false

/-- What steps that are right come to, as the reference tells it. -/
theorem fine_run {its : Its} (h : Fine its) (pre : List Int) : Agree false pre (sRun its St.nil) (run its false pre) := by
  have := agree_run its false pre St.nil h.2.2.1 h.2.2.2 rfl rfl (Nat.le_refl _)
  simpa [St.nil] using this
/-- Where the reference says all: what building comes to. -/
theorem fine_res {its : Its} (h : Fine its) (pre : List Int) (hw : (sRun its St.nil).wr = false) :
    ∃ res, run its false pre = some res ∧ (((sRun its St.nil).fl = false ∧ res = .good (pre ++ (sRun its St.nil).out)) ∨ ((sRun its St.nil).fl = true ∧ res = .err)) := by
  rcases fine_run h pre with q | ⟨q, e⟩ | ⟨q, e | ⟨_, e⟩⟩
  · rw [q] at hw; cases hw
  · exact ⟨_, e, .inl ⟨q, rfl⟩⟩
  · exact ⟨_, e, .inr ⟨q, rfl⟩⟩
  · cases e
theorem Only.bel {w w' : World} (h : Only [] w w') : Below w.heap.size w w' := h.below (by simp) (Nat.le_refl _)

theorem law_FnExactBuildPanics (its : Its) (A : Option Addr) (n c : Nat) (w : World) (hi : ItsRd w w.heap.size A its) (hn : n = its.len) (hn1 : n ≤ 140737488355328) (hs : Sz its) (hrg : Rng its) :
    Calls Try.prog 3 #[.slice A n c] w fun e w' => e = .returned (.bool true) ∧ Below w.heap.size w w' := by
  by_cases hz : 2147483647 < n
  · clear hi hn hs
    go_enter Try.func3, Try.ntmps3
    go_wp2_with fail
    go_ret
    exact ⟨rfl, Below.refl _ _⟩
  have H1 := Lib.hid (specRight_any its A n c w w.heap.size hi hn hn1 (Nat.le_refl _) hs)
  have H2 := Lib.hid (fun (W : World) (ho : Only [] w W) (hf : Fine its) => sbuild_any its false A n c W w.heap.size (hi.only ho (by simp) (Nat.le_refl _)) hn ho.size hf.2.2.1 hrg (by have := hf.wt; omega))
  have H3 := Lib.hid (fun (W : World) (ho : Only [] w W) (hf : Fine its) (res : Res) (hr : run its false [] = some res) => buildPanics_any its A n c W w.heap.size res (hi.only ho (by simp) (Nat.le_refl _)) hn ho.size hf.2.2.1 hrg hr (by have := hf.wt; omega))
  have HF := Lib.hid (fun (hf : Fine its) => fine_res hf [])
  obtain ⟨s, hsr⟩ : ∃ s, sRun its St.nil = s := ⟨_, rfl⟩
  rw [hsr] at H2 HF
  clear hi hn hs hrg hsr hn1
  go_enter Try.func3, Try.ntmps3
  go_wp2_with fail
  refine H1.out.mono ?_
  rintro e w1 ⟨r, rfl, hr, hk1⟩
  have HK1 := Lib.hid hk1
  have HR := Lib.hid hr
  clear hk1 hr H1
  cases r with
  | false =>
    go_wp2_with fail
    go_ret
    exact ⟨rfl, HK1.out.bel⟩
  | true =>
    have hf := HR.out rfl
    have HC := Lib.hid (H2.out w1 HK1.out hf)
    have HB := Lib.hid (fun W (ho : Only [] w W) res hr => H3.out W ho hf res hr)
    have HG := Lib.hid (HF.out hf)
    clear H2 H3 HF hf
    go_wp2_with fail
    refine HC.out.mono ?_
    rintro e w2 ⟨A2, c2, ys, rfl, hrd, hk2, hc2, hm2, hys⟩
    have HK2 := Lib.hid (HK1.out.trans hk2)
    have HY := Lib.hid hys
    have HRD := Lib.hid hrd
    clear hk2 hys hrd HC HK1 HR
    cases s with
    | mk out dir fl wr =>
      cases wr with
      | true =>
        simp only [Bool.or_true, Bool.not_true]
        go_wp2_with fail
        go_ret
        exact ⟨rfl, HK2.out.bel⟩
      | false =>
        obtain ⟨res, hr, hor⟩ := HG.out rfl
        have HC := Lib.hid (HB.out w2 HK2.out res hr)
        clear HB HG hr
        simp only [Bool.or_false, Bool.not_false]
        cases fl with
        | true =>
          obtain rfl : res = .err := by
            rcases hor with ⟨h, _⟩ | ⟨_, h⟩
            · cases h
            · exact h
          clear hor
          go_wp2_with fail
          refine HC.out.mono ?_
          rintro e w3 ⟨A3, c3, zs, pan, rfl, _, hk3, _, _, hp⟩
          obtain rfl : pan = true := hp
          have HK3 := Lib.hid (HK2.out.trans hk3)
          clear hk3
          go_wp2_with fail
          go_ret
          exact ⟨rfl, HK3.out.bel⟩
        | false =>
          obtain rfl : res = .good ([] ++ out) := by
            rcases hor with ⟨_, h⟩ | ⟨h, _⟩
            · exact h
            · cases h
          clear hor
          go_wp2_with fail
          refine HC.out.mono ?_
          rintro e w3 ⟨A3, c3, zs, pan, rfl, hrd3, hk3, _, _, hp⟩
          obtain ⟨rfl, hzs⟩ : pan = false ∧ zs = [] ++ out := hp
          have hyz : zs = ys := by rw [hzs, HY.out (by simp) (by simp)]; rfl
          subst hyz
          have HK3 := Lib.hid (HK2.out.trans hk3)
          have HS := Lib.hid (same_yes A3 A2 zs.length zs.length c3 c2 zs zs w3 w3.heap.size w2.heap.size hrd3 (HRD.out.only hk3 (by simp) (Nat.le_refl _)) rfl rfl rfl)
          clear hk3 hrd3 hzs HC HY HRD
          go_wp2_with fail
          refine HS.out.mono ?_
          rintro e w4 ⟨rfl, rfl⟩
          go_wp2_with fail
          go_ret
          exact ⟨rfl, HK3.out.bel⟩

end Go.Proofs.Ytlpmjahhdbcfiaa

/-! ### The law on a builder with a buffer: walk. -/
namespace Go.Proofs.Ytlpmjahhdbcfiaa
open Go.RowKit
set_option linter.unusedVariables false

theorem fit_yes (A : Option Addr) (n c : Nat) (w : World) (h : n ≤ 1048576) : Calls Try.prog 12 #[.slice A n c] w fun e w' => e = .returned (.bool true) ∧ w = w' := by
  have h' : decide ((n : Int) ≤ 1048576) = true := by simp; omega
  go_enter Try.func12, Try.ntmps12
  go_wp2
  go_ret
  exact ⟨rfl, rfl⟩
theorem fit_no (A : Option Addr) (n c : Nat) (w : World) (h : 1048576 < n) : Calls Try.prog 12 #[.slice A n c] w fun e w' => e = .returned (.bool false) ∧ w = w' := by
  have h' : decide ((n : Int) ≤ 1048576) = false := by simp; omega
  go_enter Try.func12, Try.ntmps12
  go_wp2
  go_ret
  exact ⟨rfl, rfl⟩

set_option maxRecDepth 100000 in
theorem law_FnExactBuildOn (xs : List Int) (A0 : Option Addr) (n0 c0 : Nat) (its : Its) (A : Option Addr) (n c : Nat) (w : World) (hx : Rd w w.heap.size A0 xs) (hn0 : n0 = xs.length) (hi : ItsRd w w.heap.size A its) (hn : n = its.len) (hn1 : n ≤ 140737488355328) (hs : Sz its) (hrg : Rng its) :
    Calls Try.prog 4 #[.slice A0 n0 c0, .slice A n c] w fun e w' => e = .returned (.bool true) ∧ Below w.heap.size w w' := by
  by_cases hz0 : 2147483647 < n0
  · clear hi hn hs hx hn0
    go_enter Try.func4, Try.ntmps4
    go_wp2_with fail
    go_ret
    exact ⟨rfl, Below.refl _ _⟩
  by_cases hz : 2147483647 < n
  · clear hi hn hs hx hn0
    go_enter Try.func4, Try.ntmps4
    go_wp2_with fail
    go_ret
    exact ⟨rfl, Below.refl _ _⟩
  have H1 := Lib.hid (specRight_any its A n c w w.heap.size hi hn hn1 (Nat.le_refl _) hs)
  have H2 := Lib.hid (fun (W : World) (ho : Only [] w W) (hf : Fine its) => sbuild_any its false A n c W w.heap.size (hi.only ho (by simp) (Nat.le_refl _)) hn ho.size hf.2.2.1 hrg (by have := hf.wt; omega))
  have H3 := Lib.hid (fun (W : World) (ho : Only [] w W) (hf : Fine its) (hx1 : n0 ≤ 1048576) (res : Res) (hr : run its false xs = some res) => buildOn_any its A0 n0 c0 xs A n c W w.heap.size res (hx.only ho (by simp) (Nat.le_refl _)) hn0 (by omega) (hi.only ho (by simp) (Nat.le_refl _)) hn ho.size hf.2.2.1 hrg hr (by have := hf.wt; omega))
  have H4 := Lib.hid (fun (W : World) (ho : Only [] w W) (A' : Option Addr) (n' c' : Nat) (zs : List Int) (W0 : World) (h' : Rd W0 W0.heap.size A' zs) (hk : Only [] W0 W) (hn' : n' = zs.length) (hl : xs.length + zs.length ≤ 140737488355328) => behind_any A0 A' n0 n' c0 c' xs zs W w.heap.size W0.heap.size (hx.only ho (by simp) (Nat.le_refl _)) (h'.only hk (by simp) (Nat.le_refl _)) ho.size hk.size hn0 hn' hl)
  have HF := Lib.hid (fun (hf : Fine its) => fine_res hf xs)
  have HBX := Lib.hid hx.byt
  have HLen : Hid (∀ zs, n0 ≤ 1048576 → Fine its → run its false xs = some (.good (xs ++ zs)) → xs.length + zs.length ≤ 140737488355328) := Lib.hid (fun zs h0 hf hr => by
    have h1 := run_le its false false xs _ hrg hf.2.2.1 hr
    have h2 := hf.wt
    rw [List.length_append] at h1
    omega)
  obtain ⟨s, hsr⟩ : ∃ s, sRun its St.nil = s := ⟨_, rfl⟩
  rw [hsr] at H2 HF
  clear hi hn hs hrg hsr hn1 hx hn0
  go_enter Try.func4, Try.ntmps4
  go_wp2_with fail
  refine H1.out.mono ?_
  rintro e w1 ⟨r, rfl, hr, hk1⟩
  have HK1 := Lib.hid hk1
  have HR := Lib.hid hr
  clear hk1 hr H1
  cases r with
  | false =>
    go_wp2_with fail
    go_ret
    exact ⟨rfl, HK1.out.bel⟩
  | true =>
    have hf := HR.out rfl
    have HC := Lib.hid (H2.out w1 HK1.out hf)
    have HB := Lib.hid (fun W (ho : Only [] w W) h1 res hr => H3.out W ho hf h1 res hr)
    have HG := Lib.hid (HF.out hf)
    have HL := Lib.hid (fun zs h0 hr => HLen.out zs h0 hf hr)
    clear H2 H3 HF hf HLen
    by_cases hbig : 1048576 < n0
    · have F := Lib.hid (fun W => fit_no A0 n0 c0 W hbig)
      clear hbig hz0 hz
      go_wp2_with fail
      refine (F.out _).mono ?_
      rintro e w2 ⟨rfl, rfl⟩
      go_wp2_with fail
      go_ret
      exact ⟨rfl, HK1.out.bel⟩
    have F := Lib.hid (fun W => fit_yes A0 n0 c0 W (by omega))
    have hle : n0 ≤ 1048576 := by omega
    have HLE := Lib.hid hle
    clear hbig hz0 hz hle
    go_wp2_with fail
    refine (F.out _).mono ?_
    rintro e w2 ⟨rfl, rfl⟩
    go_wp2_with fail
    refine HC.out.mono ?_
    rintro e w2 ⟨A2, c2, ys, rfl, hrd, hk2, hc2, hm2, hys⟩
    have HK2 := Lib.hid (HK1.out.trans hk2)
    have HY := Lib.hid hys
    have HRD := Lib.hid hrd
    clear hk2 hys hrd HC HK1 HR
    cases s with
    | mk out dir fl wr =>
      cases wr with
      | true =>
        simp only [Bool.or_true, Bool.not_true]
        go_wp2_with fail
        go_ret
        exact ⟨rfl, HK2.out.bel⟩
      | false =>
        obtain ⟨res, hr, hor⟩ := HG.out rfl
        have HC := Lib.hid (HB.out w2 HK2.out HLE.out res hr)
        have HRR := Lib.hid hr
        clear HB HG hr
        simp only [Bool.or_false, Bool.not_false]
        cases fl with
        | true =>
          obtain rfl : res = .err := by
            rcases hor with ⟨h, _⟩ | ⟨_, h⟩
            · cases h
            · exact h
          clear hor
          go_wp2_with fail
          refine HC.out.mono ?_
          rintro e w3 ⟨A3, c3, zs, ok, rfl, _, hk3, _, _, hp⟩
          obtain rfl : ok = false := hp
          have HK3 := Lib.hid (HK2.out.trans hk3)
          clear hk3
          go_wp2_with fail
          go_ret
          exact ⟨rfl, HK3.out.bel⟩
        | false =>
          obtain rfl : res = .good (xs ++ out) := by
            rcases hor with ⟨_, h⟩ | ⟨h, _⟩
            · exact h
            · cases h
          clear hor
          go_wp2_with fail
          refine HC.out.mono ?_
          rintro e w3 ⟨A3, c3, zs, ok, rfl, hrd3, hk3, _, _, hp⟩
          obtain ⟨rfl, hzs⟩ : ok = true ∧ zs = xs ++ out := hp
          have hyo : ys = out := HY.out (by simp) (by simp)
          subst hyo
          have HK3 := Lib.hid (HK2.out.trans hk3)
          have HS := Lib.hid (H4.out w3 HK3.out A2 ys.length c2 ys w2 HRD.out hk3 rfl (HL.out ys HLE.out HRR.out))
          have HR3 := Lib.hid hrd3
          have HZ := Lib.hid hzs
          have HYB := Lib.hid HRD.out.byt
          clear hk3 hrd3 hzs HC HY HRD HRR H4 HL
          go_wp2_with fail
          refine HS.out.mono ?_
          rintro e w4 ⟨A4, c4, rfl, hc4, hm4, hown, hk4⟩
          have HK4 := Lib.hid (HK3.out.trans hk4)
          have HC := Lib.hid (same_yes A3 A4 zs.length (xs.length + ys.length) c3 c4 zs (xs ++ ys) w4 w3.heap.size w4.heap.size (HR3.out.only hk4 (by simp) (Nat.le_refl _)) (Rd.of_own (HBX.out.append HYB.out) hown) rfl (by simp) HZ.out)
          clear hown hk4 HS
          go_wp2_with fail
          refine HC.out.mono ?_
          rintro e w5 ⟨rfl, rfl⟩
          go_wp2_with fail
          go_ret
          exact ⟨rfl, HK4.out.bel⟩

end Go.Proofs.Ytlpmjahhdbcfiaa
