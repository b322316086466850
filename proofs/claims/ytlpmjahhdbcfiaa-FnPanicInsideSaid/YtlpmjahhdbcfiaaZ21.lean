/- The law on bytes that were taken back: walk. -/
import Derived.Test.YtlpmjahhdbcfiaaZ20
/-! ### The law on bytes that were taken back: walk. -/
namespace Go.Proofs.Ytlpmjahhdbcfiaa
open Go.RowKit
set_option linter.unusedVariables false

theorem swr_one (k n t : Int) (d o : List Int) (inn : St) (on : St → St) (s : St) (hk : k ≠ 22) (h : s.wr = false) (hin : inn.wr = false) (hon : (on s).wr = false) : (sOne k n t d o inn on s).wr = false := by
  have key : ∀ (c : Prop) [Decidable c] (a e : St), (c → a.wr = false) → (¬ c → e.wr = false) → (if c then a else e).wr = false := by
    intro c _ a e ha he
    by_cases hc : c
    · rw [if_pos hc]; exact ha hc
    · rw [if_neg hc]; exact he hc
  have hi : (sIn inn s).wr = false := by simp [sIn, h, hin]
  unfold sOne sLeaf sOid
  repeat' refine key _ _ _ (fun _ => ?_) (fun _ => ?_)
  all_goals first
    | exact h
    | exact hi
    | exact hon
    | (rename_i hq _; exact absurd ‹k = 22› hk)
    | (exact absurd ‹k = 22› hk)
theorem swr_run : ∀ (its : Its) (s : St), NoBack its → s.wr = false → (sRun its s).wr = false := by
  intro its
  induction its with
  | nil => intro s _ h; exact h
  | cons k n t d o kids rest ihk ihr =>
    intro s hn h
    unfold sRun
    split
    · exact h
    · exact ihr _ hn.2.2 (swr_one _ _ _ _ _ _ _ _ hn.1 h (ihk _ hn.2.1 rfl) (ihk s hn.2.1 h))
/-- Bytes, and that they are taken back. -/
def two (xs : List Int) : Its := .cons 6 0 0 xs [] .nil (.cons 22 xs.length 0 [] [] .nil .nil)
theorem two_run (xs cs : List Int) : run (two xs) false cs = some (.good cs) := by
  have h1 : one false 6 0 0 xs [] (run .nil true []) (run .nil false) cs = some (.good (cs ++ xs)) := rfl
  have h2 : one false 22 xs.length 0 [] [] (run .nil true []) (run .nil false) (cs ++ xs) = some (.good cs) := by
    show (if 0 ≤ (xs.length : Int) ∧ (xs.length : Int) ≤ ((cs ++ xs).length : Int) then some (Res.good ((cs ++ xs).take ((cs ++ xs).length - (xs.length : Int).toNat))) else none) = _
    rw [if_pos (by simp only [List.length_append]; omega), Int.toNat_natCast, show (cs ++ xs).length - xs.length = cs.length by simp, List.take_left]
  unfold two run
  rw [h1]
  show (match one false 22 xs.length 0 [] [] (run .nil true []) (run .nil false) (cs ++ xs) with
    | none => none
    | some (.good cs') => run .nil false cs'
    | some .err => some (runE .nil)
    | some .pan => some .pan) = _
  rw [h2]
  rfl
theorem two_ok (xs : List Int) : Ok (two xs) false := by
  refine ⟨by decide, by decide, by decide, by decide, (fun h => by cases h), (fun v h => by cases h), trivial, ?_⟩
  exact ⟨by decide, by decide, by decide, by decide, (fun h => by cases h), (fun v h => by cases h), trivial, trivial⟩
theorem two_rng (xs : List Int) (h : xs.length ≤ 200000) : Rng (two xs) := ⟨⟨by omega, by omega⟩, trivial, ⟨by omega, by omega⟩, trivial, trivial⟩
theorem two_wt (xs : List Int) : wt (two xs) = 48 + xs.length := by simp [two, wt]; omega
theorem taken_run {ia : Its} (xs : List Int) (hf : Fine ia) (hn : NoBack ia) :
    ∃ res, run ia false [] = some res ∧ run (ia.app (two xs)) false [] = some res ∧ (((sRun ia St.nil).fl = false ∧ res = .good (sRun ia St.nil).out) ∨ ((sRun ia St.nil).fl = true ∧ res = .err)) := by
  obtain ⟨res, e, h⟩ := fine_res hf [] (swr_run ia St.nil hn rfl)
  refine ⟨res, e, ?_, h⟩
  rw [app_run, e]
  rcases h with ⟨_, rfl⟩ | ⟨_, rfl⟩
  · exact two_run xs _
  · show some (runE (two xs)) = _
    rw [runE_err (two_ok xs)]

set_option maxRecDepth 100000 in
theorem law_FnTakenBack (ia : Its) (A0 : Option Addr) (n0 c0 : Nat) (xs : List Int) (A1 : Option Addr) (n1 c1 : Nat) (w : World) (hia : ItsRd w w.heap.size A0 ia) (hn0 : n0 = ia.len) (hm0 : n0 ≤ 140737488355328) (hsa : Sz ia) (hra : Rng ia) (hx : Rd w w.heap.size A1 xs) (hn1 : n1 = xs.length) (hc1 : xs.length ≤ c1) (hcm : c1 ≤ maxLen) :
    Calls Try.prog 7 #[.slice A0 n0 c0, .slice A1 n1 c1] w fun e w' => e = .returned (.bool true) ∧ Below w.heap.size w w' := by
  subst hn1
  by_cases hz0 : 2147483647 < n0
  · clear hia hn0 hsa hx
    go_enter Try.func7, Try.ntmps7
    go_wp2_with fail
    go_ret
    exact ⟨rfl, Below.refl _ _⟩
  by_cases hz1 : 2147483647 < xs.length
  · clear hia hn0 hsa hx
    go_enter Try.func7, Try.ntmps7
    go_wp2_with fail
    go_ret
    exact ⟨rfl, Below.refl _ _⟩
  have R0 := Lib.hid (specRight_any ia A0 n0 c0 w w.heap.size hia hn0 hm0 (Nat.le_refl _) hsa)
  have T0 := Lib.hid (fun (W : World) (ho : Only [] w W) => tb_all ia A0 n0 c0 W w.heap.size (hia.only ho (by simp) (Nat.le_refl _)) hn0 hm0 ho.size hsa)
  have B0 := Lib.hid (fun (W : World) (ho : Only [] w W) (hf : Fine ia) => sbuild_any ia false A0 n0 c0 W w.heap.size (hia.only ho (by simp) (Nat.le_refl _)) hn0 ho.size hf.2.2.1 hra (by have := hf.wt; omega))
  have I0 := Lib.hid (fun (W : World) (ho : Only [] w W) (hf : Fine ia) (res : Res) (hr : run ia false [] = some res) => build_any ia A0 n0 c0 W w.heap.size res (hia.only ho (by simp) (Nat.le_refl _)) hn0 ho.size hf.2.2.1 hra hr (by have := hf.wt; omega))
  have I2 := Lib.hid (fun (W : World) (A : Option Addr) (n c : Nat) (hi : ItsRd W W.heap.size A (ia.app (two xs))) (hn : n = (ia.app (two xs)).len) (hfa : Fine ia) (hl : xs.length ≤ 200000) (res : Res) (hr : run (ia.app (two xs)) false [] = some res) => build_any (ia.app (two xs)) A n c W W.heap.size res hi hn (Nat.le_refl _) (app_ok hfa.2.2.1 (two_ok xs)) (app_rng hra (two_rng xs hl)) hr (by have := hfa.wt; rw [app_wt, two_wt]; omega))
  have FA := Lib.hid (fun (h1 : Fine ia) (h2 : NoBack ia) => taken_run xs h1 h2)
  have FW := Lib.hid (fun (h2 : NoBack ia) => swr_run ia St.nil h2 rfl)
  have HA := Lib.hid (And.intro hia (And.intro hn0 (And.intro hx (And.intro hc1 hcm))))
  have HSZ : Hid (n0 ≤ 2147483647 ∧ xs.length ≤ 2147483647) := Lib.hid ⟨by omega, by omega⟩
  obtain ⟨sa, hsra⟩ : ∃ s, sRun ia St.nil = s := ⟨_, rfl⟩
  rw [hsra] at B0 FA FW
  clear hia hn0 hm0 hsa hra hx hsra hc1 hcm
  go_enter Try.func7, Try.ntmps7
  go_wp2_with fail
  refine R0.out.mono ?_
  rintro e w1 ⟨r, rfl, hr, hk1⟩
  have HK1 := Lib.hid hk1
  have HR := Lib.hid hr
  clear hk1 hr R0
  cases r with
  | false =>
    go_wp2_with fail
    go_ret
    exact ⟨rfl, HK1.out.bel⟩
  | true =>
  have HFA := Lib.hid (HR.out rfl)
  have HC := Lib.hid (T0.out w1 HK1.out)
  clear HR T0
  go_wp2_with fail
  refine HC.out.mono ?_
  rintro e w2 ⟨r, rfl, hr, hk2⟩
  have HK2 := Lib.hid (HK1.out.trans hk2)
  have HR := Lib.hid hr
  clear hk2 hr HC HK1
  cases r with
  | true =>
    go_wp2_with fail
    go_ret
    exact ⟨rfl, HK2.out.bel⟩
  | false =>
  have HNB := Lib.hid (HR.out rfl)
  obtain ⟨res, hr, hr2, hor⟩ := FA.out HFA.out HNB.out
  have hwr := FW.out HNB.out
  by_cases hbig : 200000 < xs.length
  · clear hr hr2 hor hwr
    go_wp2_with fail
    go_ret
    exact ⟨rfl, HK2.out.bel⟩
  have hl : xs.length ≤ 200000 := by omega
  have H0 := Lib.hid (I0.out w2 HK2.out HFA.out res hr)
  have H2 := Lib.hid (fun W A n c hi hn => I2.out W A n c hi hn HFA.out hl res hr2)
  have HOR := Lib.hid (And.intro hor hwr)
  clear hr hr2 hor hwr I0 I2 FA FW HR
  go_wp2_with fail
  refine H0.out.mono ?_
  rintro e w5 ⟨X0, d0, xa, first, rfl, hxa, hk5, _, _, hp⟩
  have HP := Lib.hid hp
  have HXA := Lib.hid hxa
  have HK5 := Lib.hid (HK2.out.trans hk5)
  clear hxa hk5 hp H0 HK2
  have HS := Lib.hid (RowT.lit w5 w5.heap.size w.heap.size (Nat.le_refl _))
  have HX := Lib.hid (ItsRd.cells (HA.out.1.only (l := []) (HK5.out.alloc (.cells #[] 37)) (by simp) (Nat.le_refl _)))
  go_wp2_with (at_builtin; refine wpList_rowT rfl _ _ rfl rfl w5.heap.size w.heap.size _ .nil ia A0 n0 c0 rfl rfl HS.out HX.out HA.out.2.1 ?c1 ?c2 ?c3 ?_)
  case c1 => simp
  case c2 => exact HK5.out.size
  case c3 => have := HA.out.2.1; have := HSZ.out.1; simp only [Its.len]; omega
  intro v' w7 hr7 hk7 _
  have hk7' : Only [] w5 w7 := ((Only.refl _ _).alloc _).then hk7 (by
    intro i hi hlt
    simp [own, Value.ownBlock] at hi
    omega)
  have HR7 := Lib.hid hr7
  have HK7 := Lib.hid hk7'
  clear hr7 hk7 hk7' HX HS
  have hnew := heap_alloc_new w7 (.cells #[.int .i64 6, .int .i64 0, .int .i64 0, .slice A1 xs.length c1, .slice none 0 0, .slice none 0 0, .int .i64 22, .int .i64 (xs.length : Int), .int .i64 0, .slice none 0 0, .slice none 0 0, .slice none 0 0] 37)
  have HY : Hid (0 < (two xs).len → ∃ b off cs, (some ⟨w7.heap.size, 0, none⟩ : Option Addr) = some ⟨b, off, none⟩ ∧ ItsCells (w7.alloc (.cells #[.int .i64 6, .int .i64 0, .int .i64 0, .slice A1 xs.length c1, .slice none 0 0, .slice none 0 0, .int .i64 22, .int .i64 (xs.length : Int), .int .i64 0, .slice none 0 0, .slice none 0 0, .slice none 0 0] 37)) w.heap.size (two xs) cs ∧ ∀ j u, cs[j]? = some u → (w7.alloc (.cells #[.int .i64 6, .int .i64 0, .int .i64 0, .slice A1 xs.length c1, .slice none 0 0, .slice none 0 0, .int .i64 22, .int .i64 (xs.length : Int), .int .i64 0, .slice none 0 0, .slice none 0 0, .slice none 0 0] 37)).cell? ⟨b, off + j, none⟩ = some u) := Lib.hid (fun _ => by
    refine ⟨w7.heap.size, 0, itemCells 6 0 0 xs [] A1 c1 none 0 none 0 0 ++ (itemCells 22 xs.length 0 [] [] none 0 none 0 none 0 0 ++ []), rfl, ?_, ?_⟩
    · have hrd : Rd (w7.alloc (.cells #[.int .i64 6, .int .i64 0, .int .i64 0, .slice A1 xs.length c1, .slice none 0 0, .slice none 0 0, .int .i64 22, .int .i64 (xs.length : Int), .int .i64 0, .slice none 0 0, .slice none 0 0, .slice none 0 0] 37)) w.heap.size A1 xs := HA.out.2.2.1.only (l := []) ((HK5.out.trans HK7.out).alloc _) (by simp) (Nat.le_refl _)
      have hsz := HSZ.out.2
      have hnil : ItsRd (w7.alloc (.cells #[.int .i64 6, .int .i64 0, .int .i64 0, .slice A1 xs.length c1, .slice none 0 0, .slice none 0 0, .int .i64 22, .int .i64 (xs.length : Int), .int .i64 0, .slice none 0 0, .slice none 0 0, .slice none 0 0] 37)) w.heap.size none .nil := fun h => absurd h (by simp [Its.len])
      refine ⟨A1, c1, none, 0, none, 0, _, rfl, ⟨by decide, by decide⟩, ⟨by decide, by decide⟩, ⟨by decide, by decide⟩, hrd, HA.out.2.2.2.1, HA.out.2.2.2.2, RdI.nil _ _ _, Nat.le_refl _, Nat.zero_le _, Nat.le_refl _, Nat.zero_le _, hnil, ?_⟩
      exact ⟨none, 0, none, 0, none, 0, [], rfl, ⟨by decide, by decide⟩, ⟨by omega, by omega⟩, ⟨by decide, by decide⟩, Rd.nil _ _ _, Nat.le_refl _, Nat.zero_le _, RdI.nil _ _ _, Nat.le_refl _, Nat.zero_le _, Nat.le_refl _, Nat.zero_le _, hnil, rfl⟩
    · intro j u hj
      rw [Nat.zero_add, cell_of_row _ w7.heap.size j _ _ _ hnew, ← Array.getElem?_toList]
      exact hj)
  have HR7' : Hid (RowT (w7.alloc (.cells #[.int .i64 6, .int .i64 0, .int .i64 0, .slice A1 xs.length c1, .slice none 0 0, .slice none 0 0, .int .i64 22, .int .i64 (xs.length : Int), .int .i64 0, .slice none 0 0, .slice none 0 0, .slice none 0 0] 37)) w5.heap.size w.heap.size v' ia) := Lib.hid (HR7.out.only (l := []) ((Only.refl _ _).alloc _) (by simp) (Nat.le_trans HK5.out.size HK7.out.size))
  clear hnew
  go_wp2_with (at_builtin; refine wpList_rowT rfl _ _ rfl rfl w5.heap.size w.heap.size v' ia (two xs) (some ⟨w7.heap.size, 0, none⟩) 2 2 rfl rfl HR7'.out HY.out rfl ?e1 ?e2 ?e3 ?_)
  case e1 => have := HK7.out.size; simp; omega
  case e2 => exact HK5.out.size
  case e3 => have := HA.out.2.1; have := HSZ.out.1; simp only [two, Its.len]; omega
  intro v2 w8 hr8 hk8 _
  have hk8' : Only [] w5 w8 := (HK7.out.alloc _).then hk8 (by
    intro i hi hlt
    have := HR7.out.low i hi
    omega)
  obtain ⟨A8, c8, rfl, h81, h82, _⟩ := hr8.form
  have HK8 := Lib.hid hk8'
  have HC := Lib.hid (H2.out w8 A8 _ c8 (hr8.rd (Nat.le_trans HK5.out.size hk8'.size)) rfl)
  obtain ⟨nl, hnl⟩ : ∃ nl, (ia.app (two xs)).len = nl := ⟨_, rfl⟩
  rw [hnl] at HC h81 ⊢
  clear hr8 hk8 hk8' HY HR7 HK7 H2 hnl HR7'
  go_wp2_with fail
  refine HC.out.mono ?_
  rintro e w9 ⟨X2, d2, xc, ok, rfl, hxc, hk9, _, _, hp⟩
  have HK9 := Lib.hid (HK5.out.trans (HK8.out.trans hk9))
  have HXC := Lib.hid hxc
  have HP2 := Lib.hid hp
  have HSB := Lib.hid (B0.out w9 HK9.out HFA.out)
  clear hxc HC hp B0
  go_wp2_with fail
  refine HSB.out.mono ?_
  rintro e w10 ⟨A10, c10, zs, rfl, _, hk10, _, _, _⟩
  have HK10 := Lib.hid (HK9.out.trans hk10)
  have HXA10 := Lib.hid ((HXA.out.only (HK8.out.trans hk9) (by simp) (Nat.le_refl _)).only hk10 (by simp) (HK8.out.trans hk9).size)
  have HXC10 := Lib.hid (HXC.out.only hk10 (by simp) (Nat.le_refl _))
  clear hk9 hk10 HSB HXC HXA
  obtain ⟨hor, hwr⟩ := HOR.out
  have hp := HP.out
  have hp2 := HP2.out
  clear HP HP2 HOR
  cases sa with
  | mk outa dira fla wra =>
  obtain rfl : wra = false := hwr
  simp only [Bool.or_false, Bool.not_false]
  cases fla with
  | true =>
    obtain rfl : res = .err := by
      rcases hor with ⟨h, q⟩ | ⟨h, q⟩
      · cases h
      · exact q
    obtain rfl : first = false := hp
    obtain rfl : ok = false := hp2
    clear hor
    go_wp2_with fail
    go_ret
    exact ⟨rfl, HK10.out.bel⟩
  | false =>
    obtain rfl : res = .good outa := by
      rcases hor with ⟨h, q⟩ | ⟨h, q⟩
      · exact q
      · cases h
    obtain ⟨rfl, hx1⟩ : first = true ∧ xa = outa := hp
    obtain ⟨rfl, hx2⟩ : ok = true ∧ xc = outa := hp2
    subst xa
    subst xc
    have HC := Lib.hid (same_yes X0 X2 outa.length outa.length d0 d2 outa outa w10 _ _ HXA10.out HXC10.out rfl rfl rfl)
    clear hor HXA10 HXC10
    go_wp2_with fail
    refine HC.out.mono ?_
    rintro e w11 ⟨rfl, rfl⟩
    go_wp2_with fail
    go_ret
    exact ⟨rfl, HK10.out.bel⟩

end Go.Proofs.Ytlpmjahhdbcfiaa
