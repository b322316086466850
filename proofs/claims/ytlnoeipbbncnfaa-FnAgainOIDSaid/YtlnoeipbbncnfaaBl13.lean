/- Object identifiers added: contracts. -/
import Derived.Test.YtlnoeipbbncnfaaBl12
import Derived.Test.YtlnoeipbbncnfaaOidB
import Derived.Test.YtlnoeipbbncnfaaRws
namespace Go.Proofs.Ytlnoeipbbncnfaa
open Go.RowKit

/-- The contents that adding arcs makes: none where they are none of an object identifier. -/
def oidCs (xs : List Int) : Option (List Int) := if validOID xs then some (oidC xs) else none
theorem oidCs_len {xs cs : List Int} (h : oidCs xs = some cs) : cs.length ≤ 5 * xs.length := by
  unfold oidCs at h
  split at h
  · rename_i hv
    simp only [Option.some.injEq] at h
    subst h
    unfold validOID at hv
    simp only [decide_eq_true_eq] at hv
    have h1 := b128s_len (xs.drop 2)
    have h2 := b128_len (xs.getD 0 0 * 40 + xs.getD 1 0)
    have h3 := l7_bd (xs.getD 0 0 * 40 + xs.getD 1 0)
    unfold oidC
    rw [List.length_append]
    rw [List.length_drop] at h1
    omega
  · cases h
theorem Added.then {w w1 w' : World} {base b : Nat} {v : Bv} {ys xs zs : List Int} {r : Value} {e : Ending} (h : Added w1 base b { v with res := r } (ys ++ xs) zs e w') (ho : Only (b :: own v.res) w w1)
    (hr : r.ownBlock = v.res.ownBlock ∨ ∀ k ∈ own r, w.heap.size ≤ k) : Added w base b v ys (xs ++ zs) e w' := by
  obtain ⟨r', rfl, h1, h2, h3, h4⟩ := h
  refine ⟨r', rfl, h1, by rw [← List.append_assoc]; exact h2, ho.then h3 ?_, ?_⟩
  · intro i hi hlt
    rcases List.mem_cons.1 hi with rfl | hi
    · simp
    · rcases hr with h | h
      · refine List.mem_cons_of_mem _ ?_
        rw [own, ← h]
        exact hi
      · have := h i hi
        omega
  · rcases h4 with h4 | h4
    · rcases hr with h | h
      · exact .inl (h4.trans h)
      · refine .inr fun k hk => h k ?_
        simp only [own] at hk ⊢
        rw [← show r'.ownBlock = r.ownBlock from h4]
        exact hk
    · exact .inr fun k hk => Nat.le_trans ho.size (h4 k hk)

theorem holdsI_step {W W' : World} {x c base base' : Nat} {T : TypeId} {v0 r : Value} {xs zs : List Int} {vc : Bv} (hT : T ≠ 54) (hT8 : T ≠ 5) (hv : Var W x T v0) (hri : RowI W base' v0 xs) (hb : Bld W c vc) (hr : Row W base r zs) (ho : Only (c :: own r) W W') : Var W' x T v0 ∧ RowI W' base' v0 xs := by
  refine ⟨hv.only ho ?_, hri.only ho ?_⟩
  · simp only [List.mem_cons, not_or]
    refine ⟨?_, hr.ne hv hT8⟩
    rintro rfl
    have := hv.symm.trans hb
    simp only [Option.some.injEq, Obj.cells.injEq] at this
    exact hT this.2.1
  · intro k hk hm
    rcases hri.2.2 with ⟨rfl, _⟩ | ⟨g, cap, cur, rfl, _, hg, _⟩
    · simp [own, Value.ownBlock] at hm
    · simp only [own, Value.ownBlock, Option.toList_some, List.mem_singleton] at hm
      subst hm
      simp only [List.mem_cons] at hk
      rcases hk with rfl | hk
      · rw [hb] at hg
        simp only [Option.some.injEq, Obj.cells.injEq] at hg
        exact absurd hg.2.1 (by decide)
      · exact hr.ne hg (by decide) hk

set_option maxRecDepth 100000 in
theorem oid_cont (x : Nat) (v0 : Value) (xs : List Int) (w : World) (base b base' : Nat) (vres : Value) (hx : ∀ W, Only (b :: own vres) w W → Var W x 41 v0 ∧ RowI W base' v0 xs) (hl : xs.length ≤ 4194304) (hm : ∀ v ∈ xs, v ≤ 2147483647) :
    ContOK w base b vres 31 #[.pointer (some ⟨x, 0, none⟩)] (oidCs xs) := by
  intro W c vc zs ho hc hb he hch hf hr hz hbase
  obtain ⟨hv, hri⟩ := hx W ho
  have hcell := hv.cell
  obtain ⟨A, k, rfl, hk, hkm, _⟩ := hri.form
  have hrd := hri.rd rfl
  show Calls Try.prog 31 #[.pointer (some ⟨c, 0, none⟩), .pointer (some ⟨x, 0, none⟩)] W _
  have VA := Lib.hid (valid_any A xs.length k xs W W.heap.size hrd rfl hl)
  cases hval : validOID xs with
  | false =>
    have hcs : oidCs xs = none := by unfold oidCs; rw [hval]; rfl
    rw [hcs]
    rw [hval] at VA
    have HB := Lib.hid (fun W1 (hk : Only [] W W1) => hb.only hk (by simp))
    have hlt := hb.lt
    have HE := Lib.hid he
    have HCH := Lib.hid hch
    clear hx ho hb he hch hf hr hz hri hrd hl hc hbase hm hval hcs
    go_enter Try.func31, Try.ntmps31
    go_wp2_with fail
    refine VA.out.mono ?_
    rintro e w1 ⟨rfl, hk1⟩
    have b1 := HB.out _ hk1
    have bf0 := b1.free 0
    have b0 := b1.c0
    rw [HE.out] at b0
    have HB1 := Lib.hid b1
    have K1 := Lib.hid hk1
    have hlt1 := b1.lt
    clear b1 hk1 VA HB
    go_wp2_with fail
    refine (errorsNew_any _ _).mono ?_
    rintro e w' ⟨rfl, rfl⟩
    go_wp2_with fail
    refine bodyPost_ret (results_none rfl _ _ _) rfl ?_
    refine ⟨rfl, ((K1.out.more (by simp)).setCell (.inl (by simp)) _).alloc _, 78, .pointer (some ⟨w1.heap.size, 0, none⟩), _, (HB1.out.set0 _).alloc _, rfl, HCH.out⟩
  | true =>
    have hcs : oidCs xs = some (oidC xs) := by unfold oidCs; rw [hval]; rfl
    rw [hcs]
    rw [hval] at VA
    unfold validOID at hval
    simp only [decide_eq_true_eq] at hval
    obtain ⟨h2, h0le, h40, hall⟩ := hval
    have hvd : ∀ i, i < xs.length → 0 ≤ xs.getD i 0 ∧ xs.getD i 0 ≤ 2147483647 := fun i hi => by
      rw [List.getD_eq_getElem?_getD, List.getElem?_eq_getElem hi]
      exact ⟨hall _ (List.getElem_mem hi), hm _ (List.getElem_mem hi)⟩
    obtain ⟨x0, x1⟩ := hvd 0 (by omega)
    obtain ⟨y0, y1⟩ := hvd 1 (by omega)
    obtain ⟨m, hm2⟩ : ∃ m, xs.length = m + 2 := ⟨xs.length - 2, by omega⟩
    rw [hm2] at hv hri hcell hk VA
    obtain ⟨ab, aoff, rfl, hab, hcells⟩ := hrd.2 (by omega)
    have hc0 := hcells 0 (by omega)
    have hc1 := hcells 1 (by omega)
    rw [Nat.add_zero] at hc0
    have HRD := Lib.hid hrd
    have HRI := Lib.hid hri
    have HVD := Lib.hid hvd
    have HM := Lib.hid hm2
    have HO : Hid (oidC xs = b128 (xs.getD 0 0 * 40 + xs.getD 1 0) ++ b128s (xs.drop 2)) := Lib.hid rfl
    have HB := Lib.hid (And.intro hb (And.intro hr hbase))
    have HS := Lib.hid (fun W' (ho : Only (c :: own vc.res) W W') => holdsI_step (by decide) (by decide) hv hri hb hr ho)
    have HV := Lib.hid (And.intro he (And.intro hch (And.intro hf hz)))
    have hml : m ≤ 4194304 := by omega
    clear hx ho hb he hch hf hr hz hri hrd hl hc hbase hm hcs hall hvd hm2 h2 h40 hv
    obtain ⟨a0, ha0⟩ : ∃ a0, xs.getD 0 0 = a0 := ⟨_, rfl⟩
    obtain ⟨a1, ha1⟩ : ∃ a1, xs.getD 1 0 = a1 := ⟨_, rfl⟩
    rw [ha0] at h0le x0 x1 hc0 HO
    rw [ha1] at y0 y1 hc1 HO
    have HA0 := Lib.hid ha0
    have HA1 := Lib.hid ha1
    clear ha0 ha1
    have w1f : IntKind.i64.wrap (a0 * 40) = a0 * 40 := IntWalk.i64_in _ (by omega)
    have w2f : IntKind.i64.wrap (a0 * 40 + a1) = a0 * 40 + a1 := IntWalk.i64_in _ (by omega)
    have b0f : (0 : Int) < (m : Int) + 2 := by omega
    have b1f : (1 : Int) < (m : Int) + 2 := by omega
    go_enter Try.func31, Try.ntmps31
    go_wp2_with fail
    refine VA.out.mono ?_
    rintro e w1 ⟨rfl, hk1⟩
    have hcellw := (hk1.cell (p := ⟨x, 0, none⟩) (World.block_lt_of_cell? W _ hcell) (by simp)).trans hcell
    have hc0w := (hk1.cell (p := ⟨ab, aoff, none⟩) (World.block_lt_of_cell? W _ hc0) (by simp)).trans hc0
    have hc1w := (hk1.cell (p := ⟨ab, aoff + 1, none⟩) (World.block_lt_of_cell? W _ hc1) (by simp)).trans hc1
    have K1 := Lib.hid hk1
    obtain ⟨hb, hr, hbase⟩ := HB.out
    obtain ⟨he, hch, hf, hz⟩ := HV.out
    have B1 := Lib.hid (BaddBase128_any c vc (a0 * 40 + a1) zs w1.drew base ((hb.only hk1 (by simp)).drew) he hch hf (Row.only (l := []) hr hk1.drew (by simp)) (by have := hk1.size; exact Nat.le_trans hbase this) (by omega) (by omega) (by omega))
    have QFF := Lib.hid (fun w2 (ho2 : Only (c :: own vc.res) W w2) => (show w2.cell? ⟨x, 0, none⟩ = some (.slice (some ⟨ab, aoff, none⟩) (m + 2) k) ∧ ∀ i, i < xs.length → w2.cell? ⟨ab, aoff + i, none⟩ = some (.int .i64 (xs.getD i 0)) from by
      obtain ⟨q1, q2⟩ := HS.out w2 ho2
      obtain ⟨ab', aoff', e', _, hcells⟩ := (q2.rd HM.out.symm).2 (by have := HM.out; omega)
      have e2 := Option.some.inj e'
      obtain ⟨rfl, rfl⟩ : ab = ab' ∧ aoff = aoff' := by injection e2 with h1 h2; exact ⟨h1, h2⟩
      exact ⟨q1.cell, hcells⟩))
    have Q0 := Lib.hid (fun w2 (ho2 : Only (c :: own vc.res) W w2) => (show w2.cell? ⟨x, 0, none⟩ = some (.slice (some ⟨ab, aoff, none⟩) (m + 2) k) ∧ w2.cell? ⟨ab, aoff, none⟩ = some (.int .i64 a0) ∧ w2.cell? ⟨ab, aoff + 1, none⟩ = some (.int .i64 a1) from by
      obtain ⟨q1, q2⟩ := QFF.out w2 ho2
      exact ⟨q1, by have := q2 0 (by have := HM.out; omega); rwa [HA0.out] at this, by have := q2 1 (by have := HM.out; omega); rwa [HA1.out] at this⟩))
    clear hk1 VA hb hr hbase he hch hf hz hcells
    go_wp2_with fail
    go_region_held3 (fun w' => w'.cell? ⟨x, 0, none⟩ = some (.slice (some ⟨ab, aoff, none⟩) (m + 2) k) ∧ w'.cell? ⟨ab, aoff, none⟩ = some (.int .i64 a0) ∧ w'.cell? ⟨ab, aoff + 1, none⟩ = some (.int .i64 a1)) (first | exact ⟨hcellw, hc0w, hc1w⟩ | exact QF.out) ((go_at_call 34; refine B1.out.mono ?_; intro e w2 hA; have HA2 : Hid (Added W base c vc zs (b128 (a0 * 40 + a1)) e w2) := Lib.hid (Added.then (xs := []) (r := vc.res) (by rw [List.append_nil]; exact hA) ((K1.out.drew).more (by simp)) (.inl rfl)); obtain ⟨_, rfl, _⟩ := hA; have QF := Lib.hid (Q0.out w2 (by obtain ⟨_, _, _, _, h, _⟩ := HA2.out; exact h))))
    obtain ⟨hcw, _, _⟩ := QF.out
    clear hcell hc0 hc1 hcellw hc0w hc1w B1 K1 QF Q0
    go_wp2_with fail
    · have hm0 : m = 0 := by have := HM.out; omega
      subst hm0
      go_loopw [25] (fun i W' => i = .int .i64 0 ∧ W' = w2) (fun _ _ => 0)
      case atStart => exact ⟨by simp, rfl⟩
      case round =>
      obtain ⟨rfl, rfl⟩ := hrel
      go_wp2_with fail
      go_end0
      have h := HA2.out
      have hd : xs.drop 2 = [] := List.drop_eq_nil_iff.2 (by have := HM.out; omega)
      rw [HO.out, hd, show b128s [] = [] from rfl, List.append_nil]
      exact h.cont
    · go_loopw [25] (fun i W' => ∃ j : Nat, i = .int .i64 (j : Int) ∧ j ≤ m ∧ Added W base c vc zs (b128 (a0 * 40 + a1) ++ b128s ((xs.drop 2).take j)) (.returned (.tuple #[])) W') (fun i _ => m - (intOf i).toNat)
      case atStart => exact ⟨0, by simp, Nat.zero_le _, by simpa [b128s] using HA2.out⟩
      case round =>
        obtain ⟨j, rfl, hj, hA⟩ := hrel
        have HA := Lib.hid hA
        have hoj := (show Only (c :: own vc.res) W wr from by obtain ⟨_, _, _, _, h, _⟩ := hA; exact h)
        by_cases hlt : j < m
        · have hij : (j : Int) < (m : Int) := by omega
          obtain ⟨hcv, hcells⟩ := QFF.out wr hoj
          have hcj := hcells (2 + j) (by have := HM.out; omega)
          rw [← Nat.add_assoc] at hcj
          have hxb := HVD.out (2 + j) (by have := HM.out; omega)
          have hstep : b128s ((xs.drop 2).take (j + 1)) = b128s ((xs.drop 2).take j) ++ b128 (xs.getD (2 + j) 0) := by
            rw [← b128s_snoc]
            congr 1
            rw [List.take_add_one, List.getElem?_drop, List.getD_eq_getElem?_getD, List.getElem?_eq_getElem (by have := HM.out; omega)]
            rfl
          have HST := Lib.hid hstep
          have hln : (zs ++ (b128 (a0 * 40 + a1) ++ b128s ((xs.drop 2).take j))).length ≤ 4294967295 := by
            have h1 := b128s_len ((xs.drop 2).take j)
            have h4 := b128_len (a0 * 40 + a1)
            have h5 := l7_bd (a0 * 40 + a1)
            have h6 : ((xs.drop 2).take j).length ≤ j := by rw [List.length_take]; omega
            have := HV.out.2.2.2
            rw [List.length_append, List.length_append]
            omega
          obtain ⟨rj, _, hbj, hrj, _, hownj⟩ := hA
          have B2 := Lib.hid (BaddBase128_any c { vc with res := rj } (xs.getD (2 + j) 0) (zs ++ (b128 (a0 * 40 + a1) ++ b128s ((xs.drop 2).take j))) wr base hbj HV.out.1 HV.out.2.1 HV.out.2.2.1 hrj (Nat.le_trans HB.out.2.2 hoj.size) hln hxb.1 (by omega))
          have HOJ := Lib.hid (And.intro hoj hownj)
          have HLT := Lib.hid hlt
          generalize xs.getD (2 + j) 0 = y at *
          clear hcells hstep hln hbj hrj hownj hoj hlt hj hxb HA
          go_wp2_with fail
          refine B2.out.mono ?_
          intro e w3 hA3
          have HA3 := Lib.hid (hA3.then HOJ.out.1 HOJ.out.2)
          obtain ⟨_, rfl, _⟩ := hA3
          clear B2
          go_wp2_with fail
          go_roundw
          case rel =>
            refine ⟨j + 1, by go_num, by have := HLT.out; omega, ?_⟩
            rw [HST.out, ← List.append_assoc]
            exact HA3.out
          case measure => simp [intOf]; have := HLT.out; omega
        · obtain rfl : j = m := by omega
          clear hlt hA hoj hj
          go_wp2_with fail
          go_end0
          have h := HA.out
          rw [List.take_of_length_le (by rw [List.length_drop]; have := HM.out; omega)] at h
          rw [HO.out]
          exact h.cont
end Go.Proofs.Ytlnoeipbbncnfaa
