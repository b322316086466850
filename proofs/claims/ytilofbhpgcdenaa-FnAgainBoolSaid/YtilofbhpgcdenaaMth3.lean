/- An integer of 64 bits read, the package's and the thin package's reader: contracts. -/
import Derived.Test.YtilofbhpgcdenaaIm4
namespace Go.Proofs.Ytilofbhpgcdenaa
open Go.RowKit


theorem SreadInt64_of (b bo : Nat) (xs : List Int) (w : World) (B : Nat) (h : Sl w B b 38 xs) (ho : Var w bo 2 (.int .i64 0)) (hbo : bo ≠ b) (hB : B ≤ bo) (hn : xs.length ≤ 4194304) :
    Calls Try.prog 46 #[.pointer (some ⟨b, 0, none⟩), .pointer (some ⟨bo, 0, none⟩)] w (GaveV (Value.int .i64) w B b bo 2 (asOf intOf' xs 2)) := by
  have H := Lib.hid (fun W h' ho' => SReadASN1_of b w.heap.size 38 2 [] xs W B h' ho' (by have := h.lt; omega) hn (by simp))
  have HH := Lib.hid h
  have HO := Lib.hid ho
  have HL := Lib.hid (And.intro h.lt ho.lt)
  have HE := Lib.hid hbo
  have HB := Lib.hid hB
  have HN := Lib.hid hn
  clear h ho hbo hB hn
  go_enter Try.func46, Try.ntmps46
  go_wp2_with fail
  refine (H.out _ (HH.out.alloc _) (Sl.new w B _ _ rfl HH.out.low)).mono ?_
  rintro e w1 ⟨ok, zs, ys, rfl, hk, hzs, hys, hlz, hly, hg⟩
  have hk' : Only [b] w w1 := ((Only.refl _ _).alloc _).then hk (by
    intro i hi hlt
    simp at hi ⊢
    omega)
  have hvo := (HO.out.alloc _).only hk (by
    have := HE.out
    have := HL.out
    simp
    omega)
  have K := Lib.hid hk'
  have KK := Lib.hid hk
  have HVO := Lib.hid hvo
  have HYS := Lib.hid hys
  have HLY := Lib.hid hly
  have HLZ := Lib.hid hlz
  clear hk' hk hvo hys hly hlz H
  cases hf : firstOf xs 2 with
  | none =>
    rw [hf] at hg
    have hg : ok = false := hg
    subst hg
    have HF := Lib.hid hf
    clear hf hzs
    go_wp2_with fail
    go_ret
    exact ⟨false, 0, ys, rfl, K.out.more (by simp), HVO.out, HYS.out, HLY.out, by unfold asOf; rw [HF.out]; rfl⟩
  | some q =>
    obtain ⟨c, r⟩ := q
    rw [hf] at hg
    obtain ⟨rfl, rfl, rfl⟩ : ok = true ∧ zs = c ∧ ys = r := hg
    have HF := Lib.hid hf
    clear hf
    obtain ⟨hBn, A1, c1, hvz, hc1, hm1, hrz⟩ := hzs
    have hcz := hvz.cell
    have R := Lib.hid hrz
    have VZ := Lib.hid hvz
    clear hvz hrz
    have HBad : Hid (∀ W v, Only [b, bo] w W → Var W bo 2 ((Value.int .i64) v) → Sl W B b 38 ys → intOf' zs = none → GaveV (Value.int .i64) w B b bo 2 (asOf intOf' xs 2) (.returned (.bool false)) W) := Lib.hid (fun W v h1 h2 h3 h4 => ⟨false, v, ys, rfl, h1, h2, h3, HLY.out, by unfold asOf; rw [HF.out]; simp only [h4]; rfl⟩)
    have HG : Hid (∀ W v, Only [b, bo] w W → Var W bo 2 ((Value.int .i64) v) → Sl W B b 38 ys → intOf' zs = some v → GaveV (Value.int .i64) w B b bo 2 (asOf intOf' xs 2) (.returned (.bool true)) W) := Lib.hid (fun W v h1 h2 h3 h4 => ⟨true, v, ys, rfl, h1, h2, h3, HLY.out, by unfold asOf; rw [HF.out]; simp only [h4]; exact ⟨rfl, rfl, rfl⟩⟩)
    go_wp2_with fail
    refine (check_any A1 zs.length c1 zs w1 B R.out rfl).mono ?_
    rintro e w1' ⟨rfl, rfl⟩
    cases hir : intRight zs with
    | false =>
      have HV : Hid (intOf' zs = none) := Lib.hid (by unfold intOf'; rw [if_neg (by simp [hir])])
      clear hir
      go_wp2_with fail
      go_ret
      exact HBad.out _ _ (K.out.more (by simp)) HVO.out HYS.out HV.out
    | true =>
      have HI := Lib.hid hir
      have HP := Lib.hid (intRight_pos hir)
      clear hir
      go_wp2_with fail
      refine (signed_any bo A1 zs.length c1 zs w1 B R.out rfl HP.out HVO.out HB.out).mono ?_
      rintro e w2 ⟨v, rfl, hk2, hv2, hsv⟩
      have hys2 : Sl w2 B b 38 ys := HYS.out.only hk2 (by simpa using fun e => HE.out e.symm) (by simpa using HB.out)
      have K2 : Hid (Only [b, bo] w w2) := Lib.hid ((K.out.more (by simp)).trans (hk2.more (by simp)))
      have HS2 := Lib.hid hys2
      have HV2 := Lib.hid hv2
      clear hk2 hys2 hv2
      by_cases h8 : zs.length ≤ 8
      · rw [decide_eq_true h8]
        have HV : Hid (intOf' zs = some v) := Lib.hid (by unfold intOf'; rw [if_pos ⟨HI.out, h8⟩, hsv h8])
        clear h8 hsv
        go_wp2_with fail
        go_ret
        exact HG.out _ _ K2.out HV2.out HS2.out HV.out
      · rw [decide_eq_false h8]
        have HV : Hid (intOf' zs = none) := Lib.hid (by unfold intOf'; rw [if_neg (fun h => h8 h.2)])
        clear h8 hsv
        go_wp2_with fail
        go_ret
        exact HBad.out _ v K2.out HV2.out HS2.out HV.out


theorem SReadASN1Int64_of (b bo : Nat) (v0 : Int) (xs : List Int) (w : World) (B : Nat) (h : Sl w B b 38 xs) (ho : Var w bo 2 (.int .i64 v0)) (hbo : bo ≠ b) (hB : B ≤ bo) (hn : xs.length ≤ 4194304) :
    Calls Try.prog 31 #[.pointer (some ⟨b, 0, none⟩), .pointer (some ⟨bo, 0, none⟩)] w (GaveV (Value.int .i64) w B b bo 2 (asOf intOf' xs 2)) := by
  have H := Lib.hid (fun W h' ho' => SreadInt64_of b w.heap.size xs W B h' ho' (by have := h.lt; omega) h.low hn)
  have HH := Lib.hid h
  have HO := Lib.hid ho
  have HL := Lib.hid (And.intro h.lt ho.lt)
  have HE := Lib.hid hbo
  have HB := Lib.hid hB
  clear h ho hbo hB hn
  go_enter Try.func31, Try.ntmps31
  go_wp2_with fail
  refine (H.out _ (HH.out.alloc _) (Var.new' _ _ _ _ rfl)).mono ?_
  rintro e w1 ⟨ok, x, ys, rfl, hk, hv, hys, hly, hg⟩
  have K : Hid (Only [b] w w1) := Lib.hid (((Only.refl _ _).alloc _).then hk (by
    intro i hi hlt
    simp at hi ⊢
    omega))
  have hvo := (HO.out.alloc _).only hk (by
    have := HE.out
    have := HL.out
    simp
    omega)
  have hfo := hvo.free
  have hco := hvo.cell
  have hcv := hv.cell
  have HVO := Lib.hid hvo
  have HYS := Lib.hid hys
  have HLY := Lib.hid hly
  have HG := Lib.hid hg
  clear hk hv hys hly hg hvo H
  cases ok with
  | false =>
    go_wp2_with fail
    go_ret
    exact ⟨false, v0, ys, rfl, K.out.more (by simp), HVO.out, HYS.out, HLY.out, by
      have := HG.out
      unfold Got at this ⊢
      revert this
      cases asOf intOf' xs 2 with
      | none => intro _; rfl
      | some q => rintro ⟨h, _⟩; cases h⟩
  | true =>
    go_wp2_with fail
    go_ret
    exact ⟨true, x, ys, rfl, (K.out.more (by simp)).setCell (.inl (by simp)) _, HVO.out.set _, HYS.out.far (fun e => HE.out e.symm) HB.out _, HLY.out, HG.out⟩


set_option maxHeartbeats 800000 in
theorem ImReadInt64_of (A : Option Addr) (n c : Nat) (xs : List Int) (w : World) (B : Nat) (h : Rd w B A xs) (hn : n = xs.length) (hb : xs.length ≤ 4194304) :
    Calls Try.prog 16 #[.slice A n c] w (ResV (Value.int .i64) w (asOf intOf' xs 2)) := by
  have H := Lib.hid (str_any A n c xs w B h hn (by omega))
  have hby := h.byt
  have HY := Lib.hid hby
  have HB := Lib.hid hb
  clear h hn hb hby
  go_enter Try.func16, Try.ntmps16
  go_wp2_with fail
  refine H.out.mono ?_
  rintro e w1 ⟨A1, c1, rfl, hc1, hm1, hown, hk1⟩
  have R1 := Lib.hid (Rd.of_own HY.out hown)
  have K1 := Lib.hid hk1
  clear hown hk1 H
  go_wp2_with fail
  refine (SReadASN1Int64_of w1.heap.size (w1.heap.size + 1) 0 xs _ w1.heap.size ?s0 ?s1 (by omega) (by omega) HB.out).mono ?_
  case s0 => exact ⟨Nat.le_refl _, A1, c1, (Var.new _ _ _).alloc _, hc1, hm1, (R1.out.alloc (Nat.le_refl _) _).alloc (by simp <;> omega) _⟩
  case s1 => exact Var.new' _ _ _ _ (by simp)
  rintro e w2 ⟨ok, x, ys, rfl, ho2, hvo, hs2, hly, hg⟩
  have HG := Lib.hid hg
  have HLY := Lib.hid (show ys.length ≤ 140737488355328 by omega)
  have HYB := Lib.hid hs2.byt
  have HLL := Lib.hid hly
  clear hg hly
  have hk2 : Only [] w w2 := ((K1.out.alloc _).alloc _).then ho2 (by have := K1.out.size; simp; omega)
  obtain ⟨_, A2, c2, hvi, hc2, hm2, hr2⟩ := hs2
  have hci := hvi.cell
  have LI := Lib.hid hvi.lt
  have R2 := Lib.hid hr2
  have K2 := Lib.hid hk2
  have hco1 := hvo.cell
  have LO1 := Lib.hid hvo.lt
  clear hr2 hk2 hvi ho2 hvo
  go_wp2_with fail
  go_region_held3 (fun w' => w'.cell? ⟨w1.heap.size, 0, none⟩ = some (.slice A2 ys.length c2) ∧ w'.cell? ⟨w1.heap.size + 1, 0, none⟩ = some (Value.int .i64 x)) (first | exact ⟨hci, hco1⟩ | exact ⟨hciw3, hco1w3⟩) (first | (go_at_call 23; have hq : Rd w2.drew w1.heap.size A2 ys := R2.out.drew; (with_reducible refine (copied_any A2 _ c2 ys w2.drew w1.heap.size hq rfl HLY.out).mono ?_); clear hq; rintro e w3 ⟨A3, c3, rfl, hc3, hm3, hown3, hk3⟩; have hciw3 := (hk3.cell (p := ⟨w1.heap.size, 0, none⟩) LI.out (by simp)).trans hci; have hco1w3 := (hk3.cell (p := ⟨w1.heap.size + 1, 0, none⟩) LO1.out (by simp)).trans hco1; have R3n := Lib.hid (Rd.of_own HYB.out hown3); have K3 := Lib.hid hk3; clear hown3 hk3))
  all_goals
    go_wp2
    go_ret3
    exact ⟨ok, x, ys, A3, c3, rfl, R3n.out, K2.out.drew.trans K3.out, HLL.out, HG.out⟩


end Go.Proofs.Ytilofbhpgcdenaa
