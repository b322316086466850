/- Object identifiers read by the package: contract. -/
import Derived.Test.YtlnoeipbbncnfaaOidRd
import Derived.Test.YtlnoeipbbncnfaaRws
import Derived.Laws.OwnMore
import Derived.BigQuiet
import Derived.Deep.QuietTactic
namespace Go.Proofs.Ytlnoeipbbncnfaa
open Go.RowKit

theorem RowI.cell {w : World} {base g c n : Nat} {xs : List Int} (h : RowI w base (.slice (some ⟨g, 0, none⟩) n c) xs) (hn : n = xs.length) (i : Nat) (hi : i < xs.length) : w.cell? ⟨g, i, none⟩ = some (.int .i64 (xs.getD i 0)) := by
  subst hn
  rw [World.ownsRow.cellAt h.2 i (by omega)]
  simp [List.getElem?_eq_getElem hi, List.getD_eq_getElem?_getD]
theorem RowI.free {w : World} {base g c n : Nat} {xs : List Int} (h : RowI w base (.slice (some ⟨g, 0, none⟩) n c) xs) (hn : n = xs.length) (i : Nat) : w.frozen? ⟨g, i, none⟩ = false := by
  subst hn
  exact World.ownsRow.frozenAt h.2 i
theorem RowI.set {w : World} {base g c n : Nat} {xs : List Int} (h : RowI w base (.slice (some ⟨g, 0, none⟩) n c) xs) (hn : n = xs.length) (i : Nat) (x : Int) (hx : -9223372036854775808 ≤ x ∧ x ≤ 9223372036854775807) : RowI (w.setCell ⟨g, i, none⟩ (.int .i64 x)) base (.slice (some ⟨g, 0, none⟩) n c) (xs.set i x) := by
  subst hn
  refine ⟨fun y hy => ?_, ?_⟩
  · rcases List.mem_or_eq_of_mem_set hy with h1 | h1
    · exact h.1 y h1
    · subst h1; exact hx
  · have := (World.ownsRow.stored h.2 i (.int .i64 x)).1
    rw [List.length_set, List.map_set]
    exact this
theorem made_ints (n : Nat) : (madeCells #[Value.int .i64 0] n).toList = (List.replicate n (0 : Int)).map (Value.int .i64) := by
  unfold madeCells
  simp only [Array.toList_map, Array.toList_range, List.map_replicate]
  apply List.ext_getElem
  · simp
  · intro i h1 h2
    simp [Nat.mod_one]
theorem oidOfList_len (v : Int) (vs : List Int) : (oidOfList (v :: vs)).length = 2 + vs.length := by
  simp only [oidOfList, List.length_append]
  split
  · rfl
  · split <;> rfl
theorem oidOfList_snoc (v u : Int) (vs : List Int) : oidOfList (v :: (vs ++ [u])) = oidOfList (v :: vs) ++ [u] := by
  unfold oidOfList
  simp
theorem oidOfList_cons (v : Int) (vs : List Int) : oidOfList (v :: vs) = oidOfList [v] ++ vs := by simp [oidOfList]
theorem oidOfList_lo {v : Int} (h0 : 0 ≤ v) (h : v < 80) : oidOfList [v] = [v / 40, v % 40] := by
  unfold oidOfList
  by_cases h40 : v < 40
  · simp [h40]; omega
  · simp [h40, h]; omega
theorem oidOfList_hi {v : Int} (h : ¬ v < 80) : oidOfList [v] = [2, v - 80] := by
  unfold oidOfList
  simp [h, show ¬ v < 40 by omega]
theorem take_set_two (L : Nat) (p q : Int) (h : 1 ≤ L) : (((List.replicate (L + 1) (0 : Int)).set 0 p).set 1 q).take 2 = [p, q] := by
  obtain ⟨m, rfl⟩ : ∃ m, L = m + 1 := ⟨L - 1, by omega⟩
  simp [List.replicate_succ]
theorem take_set_snoc (cs : List Int) (i : Nat) (x : Int) (h : i < cs.length) : (cs.set i x).take (i + 1) = cs.take i ++ [x] := by
  rw [List.take_succ_eq_append_getElem (by simpa using h), List.take_set_of_le (Nat.le_refl _)]
  simp
theorem ra_nil : ra 0 0 [] = some [] := rfl

/-- What a reader of object identifiers leaves in its two variables. -/
def GaveO (w : World) (B b bo : Nat) (R : Option (List Int × List Int)) (e : Ending) (w' : World) : Prop :=
  ∃ ok v ys A c, e = .returned (.bool ok) ∧ Only [b, bo] w w' ∧ Var w' bo 41 (.slice A v.length c) ∧ v.length ≤ c ∧ c ≤ maxLen ∧ RdI w' w'.heap.size A v ∧ v.length ≤ 4194305 ∧ Sl w' B b 39 ys ∧ ys.length ≤ 4194304 ∧ Got R ok v ys
theorem GaveO.no {w : World} {B b bo : Nat} {R : Option (List Int × List Int)} {w' : World} {ys : List Int} (h : Only [b] w w') (ho : Var w' bo 41 (.slice none 0 0)) (hs : Sl w' B b 39 ys) (hy : ys.length ≤ 4194304) (hR : R = none) : GaveO w B b bo R (.returned (.bool false)) w' := by
  subst hR
  exact ⟨false, [], ys, none, 0, rfl, h.more (by simp), ho, Nat.zero_le _, Nat.zero_le _, RdI.nil _ _ _, by simp, hs, hy, rfl⟩

set_option maxHeartbeats 1600000 in
theorem SReadOID_of (b bo : Nat) (xs : List Int) (w : World) (B : Nat) (h : Sl w B b 39 xs) (ho : Var w bo 41 (.slice none 0 0)) (hbo : bo ≠ b) (hB : B ≤ bo) (hn : xs.length ≤ 4194304) :
    Calls Try.prog 19 #[.pointer (some ⟨b, 0, none⟩), .pointer (some ⟨bo, 0, none⟩)] w (GaveO w B b bo (asOf oidOf xs 6)) := by
  have H := Lib.hid (fun W h' ho' => SReadASN1_of b w.heap.size 39 6 [] xs W B h' ho' (by have := h.lt; omega) hn (by simp))
  have HH := Lib.hid h
  have HO := Lib.hid ho
  have HL := Lib.hid (And.intro h.lt ho.lt)
  have HE := Lib.hid hbo
  have HB := Lib.hid hB
  clear h ho hbo hB hn
  go_enter Try.func19, Try.ntmps19
  go_wp2_with fail
  refine (H.out _ (HH.out.alloc _) (Sl.new w B _ _ rfl HH.out.low)).mono ?_
  rintro e w1 ⟨ok, zs, ys, rfl, hk, hzs, hys, hlz, hly, hg⟩
  have hk' : Only [b] w w1 := ((Only.refl _ _).alloc _).then hk (by
    intro i hi hlt
    simp at hi ⊢
    omega)
  have hvo := (HO.out.alloc _).only hk (by
    have := HE.out
    have := HL.out
    simp
    omega)
  have K := Lib.hid hk'
  have HVO := Lib.hid hvo
  have HYS := Lib.hid hys
  have HLY := Lib.hid hly
  have HLZ := Lib.hid hlz
  have HSZ : Hid (w.heap.size < w1.heap.size) := Lib.hid hzs.lt
  clear hk' hk hvo hys hly hlz H
  cases hf : firstOf xs 6 with
  | none =>
    rw [hf] at hg
    have hg : ok = false := hg
    subst hg
    have HF := Lib.hid hf
    clear hf hzs
    go_wp2_with fail
    go_ret
    exact GaveO.no K.out HVO.out HYS.out HLY.out (by unfold asOf; rw [HF.out])
  | some q =>
    obtain ⟨cc, r⟩ := q
    rw [hf] at hg
    obtain ⟨rfl, rfl, rfl⟩ : ok = true ∧ zs = cc ∧ ys = r := hg
    have HF := Lib.hid hf
    clear hf
    have HZS := Lib.hid hzs
    obtain ⟨hBn, A1, c1, hvz, hc1, hm1, hrz⟩ := hzs
    have hcz := hvz.cell
    clear hvz hrz
    rcases hzs0 : zs with _ | ⟨z0, zr⟩
    · rw [hzs0] at hcz
      have HZ0 := Lib.hid hzs0
      have hcz0 : w1.cell? ⟨w.heap.size, 0, none⟩ = some (.slice A1 0 c1) := hcz
      clear hzs0 hcz
      go_wp2_with fail
      go_ret
      exact GaveO.no K.out HVO.out HYS.out HLY.out (by unfold asOf; rw [HF.out, HZ0.out]; rfl)
    · obtain ⟨L, hL⟩ : ∃ L, zs.length = L := ⟨_, rfl⟩
      have hLp : 1 ≤ L := by rw [← hL, hzs0]; simp
      have hne : zs ≠ [] := by rw [hzs0]; simp
      have hL2 : L ≤ 4194304 := by have := HLZ.out; omega
      have HOF : Hid (oidOf zs = (ra 0 0 zs).map oidOfList) := Lib.hid (by unfold oidOf; rw [if_neg hne])
      have HRA : Hid (ra 0 0 zs = (rb 0 0 zs).bind fun p => (ra 0 0 p.2).map (p.1 :: ·)) := Lib.hid (ra_rb zs 0 0 (.inr hne))
      have hL0 : ((L : Int) == 0) = false := by simp; omega
      have hw1 : IntKind.i64.wrap ((L : Int) + 1) = (L : Int) + 1 := IntWalk.i64_in _ (by omega)
      rw [hL] at hcz
      have HLL := Lib.hid hL
      clear hzs0 hL hne hc1
      obtain ⟨i0, hi, hz0, hz1, hz2⟩ := info_parts int_info
      go_wp2_with (at_make; refine wpList_make_full _ rfl _ _ 24 rfl w.heap.size 3 i0 (.int .i64 0) 1 Try.underlying24 hi hz0 hz1 .i64 .i64 _ _ (L + 1) rfl rfl (by simp) (by simp) (by rw [hz2]; omega) (by unfold maxLen; omega) ?cb ?_)
      case cb => have := HSZ.out; omega
      intro w2 hown hgr
      rw [made_ints] at hown
      have hri : RowI w2 w.heap.size (.slice (some ⟨w1.heap.size, 0, none⟩) (L + 1) (L + 1)) (List.replicate (L + 1) 0) := ⟨fun x hx => by obtain ⟨_, rfl⟩ := List.mem_replicate.1 hx; decide, by simpa using hown⟩
      have hk2 : Only [] w1 w2 := Only.grown hgr (by simp)
      have hglt : w1.heap.size < w2.heap.size := own_lt hri.2 _ (by simp [own, Value.ownBlock])
      have hzs2 := (HZS.out.only hk2 (by simp) (by simp)).alloc (.cells #[.int .i64 0] 3)
      have RB := Lib.hid (readB128_any w.heap.size w2.heap.size zs 0 _ B hzs2 (Var.new _ _ _) (by have := HSZ.out; omega) (by have := HSZ.out; omega))
      have HVO2 := Lib.hid ((HVO.out.only hk2 (by simp)).alloc (.cells #[.int .i64 0] 3))
      have HYS2 := Lib.hid ((HYS.out.only hk2 (by simp) (by simp)).alloc (.cells #[.int .i64 0] 3))
      have K2 := Lib.hid ((K.out.trans (hk2.more (by simp))).alloc (.cells #[.int .i64 0] 3))
      have HRI := Lib.hid (hri.only (l := []) ((Only.refl _ _).alloc (.cells #[.int .i64 0] 3)) (by simp))
      have HGL := Lib.hid hglt
      clear hown hgr hri hk2 hglt hzs2 hcz hi hz0 hz1 hz2 i0
      go_wp2_with fail
      refine RB.out.mono ?_
      rintro e w3 ⟨hk3, hm⟩
      have K3 : Hid (Only [b] w w3) := Lib.hid (K2.out.then hk3 (by
        intro i hi hlt
        have := HSZ.out
        have := HGL.out
        simp at hi ⊢
        omega))
      have HVO3 : Hid (Var w3 bo 41 (.slice none 0 0)) := Lib.hid (HVO2.out.only hk3 (by
        have := HL.out
        have := HSZ.out
        have := HGL.out
        simp
        omega))
      have HYS3 : Hid (Sl w3 B b 39 ys) := Lib.hid (HYS2.out.only hk3 (by
        have := HL.out
        have := HSZ.out
        have := HGL.out
        simp
        omega) (by
        have := HSZ.out
        have := HGL.out
        simp
        omega))
      have HRI3 := Lib.hid (HRI.out.only hk3 (by
        have := HSZ.out
        have := HGL.out
        simp [own, Value.ownBlock]
        omega))
      clear hk3 RB HVO2 HYS2 K2 HRI HZS
      cases hrb : rb 0 0 zs with
      | none =>
        rw [hrb] at hm
        have hm : e = .returned (.bool false) := hm
        subst hm
        have HN : Hid (oidOf zs = none) := Lib.hid (by rw [HOF.out, HRA.out, hrb]; rfl)
        clear hrb
        go_wp2_with fail
        go_ret
        exact GaveO.no K3.out HVO3.out HYS3.out HLY.out (by unfold asOf; rw [HF.out]; simp only [HN.out]; rfl)
      | some q =>
        obtain ⟨v0, rs0⟩ := q
        rw [hrb] at hm
        obtain ⟨rfl, hrs, hvv⟩ : e = .returned (.bool true) ∧ Sl w3 B w.heap.size 39 rs0 ∧ Var w3 w2.heap.size 3 (.int .i64 v0) := hm
        obtain ⟨v00, v01, hrsl, _⟩ := rb_le _ _ _ _ _ hrb (by omega)
        have HRS := Lib.hid hrs
        have HVV := Lib.hid hvv
        have hcv := hvv.cell
        have HR0 : Hid (ra 0 0 zs = (ra 0 0 rs0).map (v0 :: ·)) := Lib.hid (by rw [HRA.out, hrb]; rfl)
        have HL0 : Hid (rs0.length < L) := Lib.hid (by rw [← HLL.out]; exact hrsl)
        have hg0 := HRI3.out.free (by simp) 0
        have hg1 := HRI3.out.free (by simp) 1
        have hgc0 := HRI3.out.cell (by simp) 0 (by simp)
        have hgc1 := HRI3.out.cell (by simp) 1 (by simp; omega)
        have hgne : ¬ w1.heap.size = w2.heap.size := by have := HGL.out; omega
        have hgne' : ¬ w2.heap.size = w1.heap.size := by have := HGL.out; omega
        obtain ⟨g, hg⟩ : ∃ g, w1.heap.size = g := ⟨_, rfl⟩
        obtain ⟨bv, hbv⟩ : ∃ bv, w2.heap.size = bv := ⟨_, rfl⟩
        obtain ⟨bz, hbz⟩ : ∃ bz, w.heap.size = bz := ⟨_, rfl⟩
        have HNE : Hid (bz < g ∧ g < bv ∧ b < bz ∧ bo < bz) := Lib.hid (by have := HSZ.out; have := HGL.out; have := HL.out; omega)
        rw [hg] at HRI3 hg0 hg1 hgc0 hgc1 hgne hgne' ⊢
        rw [hbv] at HVV hcv hgne hgne' ⊢
        rw [hbz] at HRS HRI3 ⊢
        have HVB : Hid (-9223372036854775808 ≤ v0 ∧ v0 ≤ 9223372036854775807) := Lib.hid (by omega)
        have hstep : ∀ p q, (-9223372036854775808 ≤ p ∧ p ≤ 9223372036854775807) → (-9223372036854775808 ≤ q ∧ q ≤ 9223372036854775807) → oidOfList [v0] = [p, q] → ∀ w4, (w3.setCell ⟨g, 0, none⟩ (.int .i64 p)).setCell ⟨g, 1, none⟩ (.int .i64 q) = w4 →
            (∃ cs, RowI w4 bz (.slice (some ⟨g, 0, none⟩) (L + 1) (L + 1)) cs ∧ cs.length = L + 1 ∧ cs.take 2 = oidOfList [v0]) ∧ Sl w4 B bz 39 rs0 ∧ Var w4 bv 3 (.int .i64 v0) ∧ Only [b] w w4 ∧ Var w4 bo 41 (.slice none 0 0) ∧ Sl w4 B b 39 ys := by
          intro p q hp hq hpq w4 hw4
          subst hw4
          have n1 := HNE.out
          refine ⟨⟨_, ((HRI3.out.set (by simp) 0 p hp).set (by simp) 1 q hq), by simp, ?_⟩, ?_, ?_, ?_, ?_, ?_⟩
          · rw [take_set_two L p q hLp, hpq]
          · exact (HRS.out.far (p := ⟨g, 0, none⟩) (by simp; omega) (by simp; omega) _).far (p := ⟨g, 1, none⟩) (by simp; omega) (by simp; omega) _
          · exact (HVV.out.far (p := ⟨g, 0, none⟩) (by simp; omega) _).far (p := ⟨g, 1, none⟩) (by simp; omega) _
          · exact (K3.out.setCell (p := ⟨g, 0, none⟩) (.inr (by simp; omega)) _).setCell (p := ⟨g, 1, none⟩) (.inr (by simp; omega)) _
          · exact (HVO3.out.far (p := ⟨g, 0, none⟩) (by simp; omega) _).far (p := ⟨g, 1, none⟩) (by simp; omega) _
          · exact (HYS3.out.far (p := ⟨g, 0, none⟩) (by simp; omega) (by simp; omega) _).far (p := ⟨g, 1, none⟩) (by simp; omega) (by simp; omega) _
        have HSTEP := Lib.hid hstep
        have HBZ : Hid (B ≤ bz) := Lib.hid (by omega)
        clear hstep hrs hvv hrsl hrb
        by_cases h80 : v0 < 80
        · have HLO := Lib.hid (oidOfList_lo v00 h80)
          go_wp2_with fail
          have S4 := HSTEP.out (v0 / 40) (v0 % 40) (by omega) (by omega) HLO.out _ rfl
          obtain ⟨w4, hw4⟩ : ∃ w4, (w3.setCell ⟨g, 0, none⟩ (.int .i64 (v0 / 40))).setCell ⟨g, 1, none⟩ (.int .i64 (v0 % 40)) = w4 := ⟨_, rfl⟩
          rw [hw4] at S4 ⊢
          have HS4 := Lib.hid S4
          clear hw4 S4
          generalize v0 / 40 = p4 at *
          generalize v0 % 40 = q4 at *
          have HX : Hid True := Lib.hid trivial
          clear hgc0 hgc1 hcv hg0 hg1 hgne hgne' h80
          go_loopw [8] (fun i W' => ∃ (vs rs cs : List Int) (u : Int), i = .int .i64 ((2 + vs.length : Nat) : Int) ∧ RowI W' bz (.slice (some ⟨g, 0, none⟩) (L + 1) (L + 1)) cs ∧ cs.length = L + 1 ∧ cs.take (2 + vs.length) = oidOfList [v0] ++ vs ∧ Sl W' B bz 39 rs ∧ Var W' bv 3 (.int .i64 u) ∧ ra 0 0 rs0 = (ra 0 0 rs).map (vs ++ ·) ∧ vs.length + rs.length ≤ rs0.length ∧ Only [b] w W' ∧ Var W' bo 41 (.slice none 0 0) ∧ Sl W' B b 39 ys) (fun i _ => L + 2 - (intOf i).toNat)
          case atStart =>
            obtain ⟨⟨cs, q1, q2, q3⟩, q4, q5, q6, q7, q8⟩ := HS4.out
            exact ⟨[], rs0, cs, v0, by simp, q1, q2, by simpa using q3, q4, q5, by simp, by simp, q6, q7, q8⟩
          case round =>
            obtain ⟨vs, rs, cs, u, rfl, q1, q2, q3, q4, q5, q6, q7, q8, q9, q10⟩ := hrel
            have Q := Lib.hid (And.intro q1 (And.intro q2 (And.intro q3 (And.intro q4 (And.intro q5 (And.intro q6 (And.intro q7 (And.intro q8 (And.intro q9 q10)))))))))
            obtain ⟨hBb, A5, c5, hv5, hc5, hm5, hr5⟩ := q4
            have hcell5 := hv5.cell
            have hvl : 2 + vs.length ≤ L + 1 := by have := HL0.out; omega
            rcases rs with _ | ⟨r0, rr⟩
            · have hcell0 : wr.cell? ⟨bz, 0, none⟩ = some (.slice A5 0 c5) := hcell5
              have hco := q9.cell
              have hfo := q9.free
              have hvl' : (2 : Int) + (vs.length : Int) ≤ (L : Int) + 1 := by omega
              clear q1 q2 q3 q5 q6 q7 q8 q9 q10 hv5 hr5 hcell5
              have HFIN : Hid (GaveO w B b bo (asOf oidOf xs 6) (.returned (.bool true)) (wr.setCell ⟨bo, 0, none⟩ (.slice (some ⟨g, 0, none⟩) (2 + vs.length) (L + 1)))) := Lib.hid (by
                obtain ⟨q1, q2, q3, q4, q5, q6, q7, q8, q9, q10⟩ := Q.out
                have hlen : (oidOfList [v0] ++ vs).length = 2 + vs.length := by rw [← oidOfList_cons, oidOfList_len]
                have n1 := HNE.out
                have hri := q1.only (l := [bo]) ((Only.refl _ _).setCell (p := ⟨bo, 0, none⟩) (.inl (by simp)) (.slice (some ⟨g, 0, none⟩) (2 + vs.length) (L + 1))) (by simp [own, Value.ownBlock]; omega)
                have hrd := (hri.rd q2.symm).take (2 + vs.length)
                rw [q3] at hrd
                refine ⟨true, oidOfList [v0] ++ vs, ys, some ⟨g, 0, none⟩, L + 1, rfl, (q8.more (by simp)).setCell (.inl (by simp)) _, ?_, ?_, ?_, hrd, ?_, q10.far (fun e => HE.out e.symm) HB.out _, HLY.out, ?_⟩
                · rw [hlen]
                  exact q9.set _
                · rw [hlen]; exact hvl
                · unfold maxLen; omega
                · rw [hlen]; omega
                · have ho : oidOf zs = some (oidOfList [v0] ++ vs) := by
                    rw [HOF.out, HR0.out, q6, ra_nil]
                    simp [← oidOfList_cons]
                  unfold asOf
                  rw [HF.out]
                  simp only [ho]
                  exact ⟨rfl, rfl, rfl⟩)
              clear hvl
              go_wp2_with fail
              go_ret
              exact HFIN.out
            · have hcell1 : wr.cell? ⟨bz, 0, none⟩ = some (.slice A5 (rr.length + 1) c5) := by simpa using hcell5
              have hpos : (0 : Int) < (rr.length : Int) + 1 := by omega
              have RB2 := Lib.hid (readB128_any bz bv (r0 :: rr) u wr B ⟨hBb, A5, c5, hv5, hc5, hm5, hr5⟩ q5 (by have := HNE.out; omega) (by have := HNE.out; omega))
              clear q1 q2 q3 q5 q6 q7 q8 q9 q10 hv5 hr5 hcell5 hc5 hm5
              go_wp2_with fail
              refine RB2.out.mono ?_
              rintro e w5 ⟨hk5, hm5⟩
              have n1 := HNE.out
              have HQ5 : Hid (RowI w5 bz (.slice (some ⟨g, 0, none⟩) (L + 1) (L + 1)) cs ∧ Only [b] w w5 ∧ Var w5 bo 41 (.slice none 0 0) ∧ Sl w5 B b 39 ys) := Lib.hid (by
                obtain ⟨q1, q2, q3, q4, q5, q6, q7, q8, q9, q10⟩ := Q.out
                refine ⟨q1.only hk5 (by simp [own, Value.ownBlock]; omega), q8.then hk5 (by intro i hi hlt; simp at hi ⊢; omega), q9.only hk5 (by simp; omega), q10.only hk5 (by simp; omega) (by have := HBZ.out; simp; omega)⟩)
              clear hk5 RB2
              cases hrb2 : rb 0 0 (r0 :: rr) with
              | none =>
                rw [hrb2] at hm5
                have hm5 : e = .returned (.bool false) := hm5
                subst hm5
                have HN : Hid (oidOf zs = none) := Lib.hid (by rw [HOF.out, HR0.out, Q.out.2.2.2.2.2.1, ra_rb (r0 :: rr) 0 0 (.inr (by simp)), hrb2]; rfl)
                clear hrb2 n1
                go_wp2_with fail
                go_ret
                exact GaveO.no HQ5.out.2.1 HQ5.out.2.2.1 HQ5.out.2.2.2 HLY.out (by unfold asOf; rw [HF.out]; simp only [HN.out]; rfl)
              | some q =>
                obtain ⟨x, rs1⟩ := q
                rw [hrb2] at hm5
                obtain ⟨rfl, hrs1, hvv1⟩ : e = .returned (.bool true) ∧ Sl w5 B bz 39 rs1 ∧ Var w5 bv 3 (.int .i64 x) := hm5
                obtain ⟨x0, x1, hrsl1, _⟩ := rb_le _ _ _ _ _ hrb2 (by omega)
                have HRS1 := Lib.hid (And.intro hrs1 hvv1)
                have HRA1 : Hid (ra 0 0 (r0 :: rr) = (ra 0 0 rs1).map (x :: ·)) := Lib.hid (by rw [ra_rb (r0 :: rr) 0 0 (.inr (by simp)), hrb2]; rfl)
                have HRL1 : Hid (rs1.length < rr.length + 1) := Lib.hid (by simpa using hrsl1)
                have hcx := hvv1.cell
                have hlt1 : 2 + vs.length < L + 1 := by
                  have := Q.out.2.2.2.2.2.2.1
                  have := HL0.out
                  simp at *
                  omega
                have hlt2 : (2 : Int) + (vs.length : Int) < (L : Int) + 1 := by omega
                have hgf := HQ5.out.1.free (by rw [Q.out.2.1]) (2 + vs.length)
                have hgc := HQ5.out.1.cell (by rw [Q.out.2.1]) (2 + vs.length) (by rw [Q.out.2.1]; exact hlt1)
                have hq0 : (0 : Int) ≤ 2 + (vs.length : Int) := by omega
                have hnat : ((2 : Int) + (vs.length : Int)).toNat = 2 + vs.length := by omega
                have HX1 : Hid (0 ≤ x ∧ x ≤ 2147483647 ∧ 2 + vs.length < L + 1) := Lib.hid ⟨x0, x1, hlt1⟩
                have hLs : (L : Int) ≤ 4194304 := by omega
                clear hrb2 hrs1 hvv1 hrsl1 n1 x0 x1 hvl hlt1
                go_wp2_with fail
                go_roundw
                case rel =>
                  obtain ⟨q1, q2, q3, q4, q5, q6, q7, q8, q9, q10⟩ := Q.out
                  obtain ⟨p1, p2, p3, p4⟩ := HQ5.out
                  have n1 := HNE.out
                  refine ⟨vs ++ [x], rs1, cs.set (2 + vs.length) x, x, by go_num, p1.set (by rw [q2]) (2 + vs.length) x (by have := HX1.out; omega), by simpa using q2, ?_, HRS1.out.1.far (p := ⟨g, 2 + vs.length, none⟩) (by simp; omega) (by simp; omega) _, HRS1.out.2.far (p := ⟨g, 2 + vs.length, none⟩) (by simp; omega) _, ?_, ?_, p2.setCell (p := ⟨g, 2 + vs.length, none⟩) (.inr (by simp; omega)) _, p3.far (p := ⟨g, 2 + vs.length, none⟩) (by simp; omega) _, p4.far (p := ⟨g, 2 + vs.length, none⟩) (by simp; omega) (by simp; omega) _⟩
                  · rw [List.length_append, show 2 + (vs.length + [x].length) = (2 + vs.length) + 1 by simp; omega, take_set_snoc _ _ _ (by rw [q2]; exact HX1.out.2.2), q3, List.append_assoc]
                  · rw [q6, HRA1.out, Option.map_map]
                    congr 1
                    funext l
                    simp
                  · have := HRL1.out
                    simp at q7 ⊢
                    omega
                case measure => simp [intOf]; have := HX1.out.2.2; omega
        · have HLO := Lib.hid (oidOfList_hi h80)
          go_wp2_with fail
          have S4 := HSTEP.out 2 (v0 - 80) (by omega) (by omega) HLO.out _ rfl
          obtain ⟨w4, hw4⟩ : ∃ w4, (w3.setCell ⟨g, 0, none⟩ (.int .i64 2)).setCell ⟨g, 1, none⟩ (.int .i64 (v0 - 80)) = w4 := ⟨_, rfl⟩
          rw [hw4] at S4 ⊢
          have HS4 := Lib.hid S4
          clear hw4 S4
          generalize v0 - 80 = q4 at *
          have HX : Hid True := Lib.hid trivial
          clear hgc0 hgc1 hcv hg0 hg1 hgne hgne' h80
          go_loopw [8] (fun i W' => ∃ (vs rs cs : List Int) (u : Int), i = .int .i64 ((2 + vs.length : Nat) : Int) ∧ RowI W' bz (.slice (some ⟨g, 0, none⟩) (L + 1) (L + 1)) cs ∧ cs.length = L + 1 ∧ cs.take (2 + vs.length) = oidOfList [v0] ++ vs ∧ Sl W' B bz 39 rs ∧ Var W' bv 3 (.int .i64 u) ∧ ra 0 0 rs0 = (ra 0 0 rs).map (vs ++ ·) ∧ vs.length + rs.length ≤ rs0.length ∧ Only [b] w W' ∧ Var W' bo 41 (.slice none 0 0) ∧ Sl W' B b 39 ys) (fun i _ => L + 2 - (intOf i).toNat)
          case atStart =>
            obtain ⟨⟨cs, q1, q2, q3⟩, q4, q5, q6, q7, q8⟩ := HS4.out
            exact ⟨[], rs0, cs, v0, by simp, q1, q2, by simpa using q3, q4, q5, by simp, by simp, q6, q7, q8⟩
          case round =>
            obtain ⟨vs, rs, cs, u, rfl, q1, q2, q3, q4, q5, q6, q7, q8, q9, q10⟩ := hrel
            have Q := Lib.hid (And.intro q1 (And.intro q2 (And.intro q3 (And.intro q4 (And.intro q5 (And.intro q6 (And.intro q7 (And.intro q8 (And.intro q9 q10)))))))))
            obtain ⟨hBb, A5, c5, hv5, hc5, hm5, hr5⟩ := q4
            have hcell5 := hv5.cell
            have hvl : 2 + vs.length ≤ L + 1 := by have := HL0.out; omega
            rcases rs with _ | ⟨r0, rr⟩
            · have hcell0 : wr.cell? ⟨bz, 0, none⟩ = some (.slice A5 0 c5) := hcell5
              have hco := q9.cell
              have hfo := q9.free
              have hvl' : (2 : Int) + (vs.length : Int) ≤ (L : Int) + 1 := by omega
              clear q1 q2 q3 q5 q6 q7 q8 q9 q10 hv5 hr5 hcell5
              have HFIN : Hid (GaveO w B b bo (asOf oidOf xs 6) (.returned (.bool true)) (wr.setCell ⟨bo, 0, none⟩ (.slice (some ⟨g, 0, none⟩) (2 + vs.length) (L + 1)))) := Lib.hid (by
                obtain ⟨q1, q2, q3, q4, q5, q6, q7, q8, q9, q10⟩ := Q.out
                have hlen : (oidOfList [v0] ++ vs).length = 2 + vs.length := by rw [← oidOfList_cons, oidOfList_len]
                have n1 := HNE.out
                have hri := q1.only (l := [bo]) ((Only.refl _ _).setCell (p := ⟨bo, 0, none⟩) (.inl (by simp)) (.slice (some ⟨g, 0, none⟩) (2 + vs.length) (L + 1))) (by simp [own, Value.ownBlock]; omega)
                have hrd := (hri.rd q2.symm).take (2 + vs.length)
                rw [q3] at hrd
                refine ⟨true, oidOfList [v0] ++ vs, ys, some ⟨g, 0, none⟩, L + 1, rfl, (q8.more (by simp)).setCell (.inl (by simp)) _, ?_, ?_, ?_, hrd, ?_, q10.far (fun e => HE.out e.symm) HB.out _, HLY.out, ?_⟩
                · rw [hlen]
                  exact q9.set _
                · rw [hlen]; exact hvl
                · unfold maxLen; omega
                · rw [hlen]; omega
                · have ho : oidOf zs = some (oidOfList [v0] ++ vs) := by
                    rw [HOF.out, HR0.out, q6, ra_nil]
                    simp [← oidOfList_cons]
                  unfold asOf
                  rw [HF.out]
                  simp only [ho]
                  exact ⟨rfl, rfl, rfl⟩)
              clear hvl
              go_wp2_with fail
              go_ret
              exact HFIN.out
            · have hcell1 : wr.cell? ⟨bz, 0, none⟩ = some (.slice A5 (rr.length + 1) c5) := by simpa using hcell5
              have hpos : (0 : Int) < (rr.length : Int) + 1 := by omega
              have RB2 := Lib.hid (readB128_any bz bv (r0 :: rr) u wr B ⟨hBb, A5, c5, hv5, hc5, hm5, hr5⟩ q5 (by have := HNE.out; omega) (by have := HNE.out; omega))
              clear q1 q2 q3 q5 q6 q7 q8 q9 q10 hv5 hr5 hcell5 hc5 hm5
              go_wp2_with fail
              refine RB2.out.mono ?_
              rintro e w5 ⟨hk5, hm5⟩
              have n1 := HNE.out
              have HQ5 : Hid (RowI w5 bz (.slice (some ⟨g, 0, none⟩) (L + 1) (L + 1)) cs ∧ Only [b] w w5 ∧ Var w5 bo 41 (.slice none 0 0) ∧ Sl w5 B b 39 ys) := Lib.hid (by
                obtain ⟨q1, q2, q3, q4, q5, q6, q7, q8, q9, q10⟩ := Q.out
                refine ⟨q1.only hk5 (by simp [own, Value.ownBlock]; omega), q8.then hk5 (by intro i hi hlt; simp at hi ⊢; omega), q9.only hk5 (by simp; omega), q10.only hk5 (by simp; omega) (by have := HBZ.out; simp; omega)⟩)
              clear hk5 RB2
              cases hrb2 : rb 0 0 (r0 :: rr) with
              | none =>
                rw [hrb2] at hm5
                have hm5 : e = .returned (.bool false) := hm5
                subst hm5
                have HN : Hid (oidOf zs = none) := Lib.hid (by rw [HOF.out, HR0.out, Q.out.2.2.2.2.2.1, ra_rb (r0 :: rr) 0 0 (.inr (by simp)), hrb2]; rfl)
                clear hrb2 n1
                go_wp2_with fail
                go_ret
                exact GaveO.no HQ5.out.2.1 HQ5.out.2.2.1 HQ5.out.2.2.2 HLY.out (by unfold asOf; rw [HF.out]; simp only [HN.out]; rfl)
              | some q =>
                obtain ⟨x, rs1⟩ := q
                rw [hrb2] at hm5
                obtain ⟨rfl, hrs1, hvv1⟩ : e = .returned (.bool true) ∧ Sl w5 B bz 39 rs1 ∧ Var w5 bv 3 (.int .i64 x) := hm5
                obtain ⟨x0, x1, hrsl1, _⟩ := rb_le _ _ _ _ _ hrb2 (by omega)
                have HRS1 := Lib.hid (And.intro hrs1 hvv1)
                have HRA1 : Hid (ra 0 0 (r0 :: rr) = (ra 0 0 rs1).map (x :: ·)) := Lib.hid (by rw [ra_rb (r0 :: rr) 0 0 (.inr (by simp)), hrb2]; rfl)
                have HRL1 : Hid (rs1.length < rr.length + 1) := Lib.hid (by simpa using hrsl1)
                have hcx := hvv1.cell
                have hlt1 : 2 + vs.length < L + 1 := by
                  have := Q.out.2.2.2.2.2.2.1
                  have := HL0.out
                  simp at *
                  omega
                have hlt2 : (2 : Int) + (vs.length : Int) < (L : Int) + 1 := by omega
                have hgf := HQ5.out.1.free (by rw [Q.out.2.1]) (2 + vs.length)
                have hgc := HQ5.out.1.cell (by rw [Q.out.2.1]) (2 + vs.length) (by rw [Q.out.2.1]; exact hlt1)
                have hq0 : (0 : Int) ≤ 2 + (vs.length : Int) := by omega
                have hnat : ((2 : Int) + (vs.length : Int)).toNat = 2 + vs.length := by omega
                have HX1 : Hid (0 ≤ x ∧ x ≤ 2147483647 ∧ 2 + vs.length < L + 1) := Lib.hid ⟨x0, x1, hlt1⟩
                have hLs : (L : Int) ≤ 4194304 := by omega
                clear hrb2 hrs1 hvv1 hrsl1 n1 x0 x1 hvl hlt1
                go_wp2_with fail
                go_roundw
                case rel =>
                  obtain ⟨q1, q2, q3, q4, q5, q6, q7, q8, q9, q10⟩ := Q.out
                  obtain ⟨p1, p2, p3, p4⟩ := HQ5.out
                  have n1 := HNE.out
                  refine ⟨vs ++ [x], rs1, cs.set (2 + vs.length) x, x, by go_num, p1.set (by rw [q2]) (2 + vs.length) x (by have := HX1.out; omega), by simpa using q2, ?_, HRS1.out.1.far (p := ⟨g, 2 + vs.length, none⟩) (by simp; omega) (by simp; omega) _, HRS1.out.2.far (p := ⟨g, 2 + vs.length, none⟩) (by simp; omega) _, ?_, ?_, p2.setCell (p := ⟨g, 2 + vs.length, none⟩) (.inr (by simp; omega)) _, p3.far (p := ⟨g, 2 + vs.length, none⟩) (by simp; omega) _, p4.far (p := ⟨g, 2 + vs.length, none⟩) (by simp; omega) (by simp; omega) _⟩
                  · rw [List.length_append, show 2 + (vs.length + [x].length) = (2 + vs.length) + 1 by simp; omega, take_set_snoc _ _ _ (by rw [q2]; exact HX1.out.2.2), q3, List.append_assoc]
                  · rw [q6, HRA1.out, Option.map_map]
                    congr 1
                    funext l
                    simp
                  · have := HRL1.out
                    simp at q7 ⊢
                    omega
                case measure => simp [intOf]; have := HX1.out.2.2; omega
end Go.Proofs.Ytlnoeipbbncnfaa
