/- Values read by the package out of an element of a tag: contracts. -/
import Derived.Test.YtdocgembogocjaaMth
namespace Go.Proofs.Ytdocgembogocjaa
open Go.RowKit



theorem SReadInt64WithTag_of (b bo : Nat) (tag : Int) (xs : List Int) (w : World) (B : Nat) (h : Sl w B b 55 xs) (ho : Var w bo 2 (.int .i64 0)) (hbo : bo ≠ b) (hB : B ≤ bo) (hn : xs.length ≤ 4194304) :
    Calls Try.prog 41 #[.pointer (some ⟨b, 0, none⟩), .pointer (some ⟨bo, 0, none⟩), .int .u8 tag] w (GaveV (Value.int .i64) w B b bo 2 (asOf intOf' xs tag)) := by
  have H := Lib.hid (fun W h' ho' => SReadASN1_of b w.heap.size 55 tag [] xs W B h' ho' (by have := h.lt; omega) hn (by simp))
  have HH := Lib.hid h
  have HO := Lib.hid ho
  have HL := Lib.hid (And.intro h.lt ho.lt)
  have HE := Lib.hid hbo
  have HB := Lib.hid hB
  have HN := Lib.hid hn
  clear h ho hbo hB hn
  go_enter Try.func41, Try.ntmps41
  go_wp2_with fail
  refine (H.out _ (HH.out.alloc _) (Sl.new w B _ _ rfl HH.out.low)).mono ?_
  rintro e w1 ⟨ok, zs, ys, rfl, hk, hzs, hys, hlz, hly, hg⟩
  have hk' : Only [b] w w1 := ((Only.refl _ _).alloc _).then hk (by
    intro i hi hlt
    simp at hi ⊢
    omega)
  have hvo := (HO.out.alloc _).only hk (by
    have := HE.out
    have := HL.out
    simp
    omega)
  have K := Lib.hid hk'
  have KK := Lib.hid hk
  have HVO := Lib.hid hvo
  have HYS := Lib.hid hys
  have HLY := Lib.hid hly
  have HLZ := Lib.hid hlz
  clear hk' hk hvo hys hly hlz H
  cases hf : firstOf xs tag with
  | none =>
    rw [hf] at hg
    have hg : ok = false := hg
    subst hg
    have HF := Lib.hid hf
    clear hf hzs
    go_wp2_with fail
    go_ret
    exact ⟨false, 0, ys, rfl, K.out.more (by simp), HVO.out, HYS.out, HLY.out, by unfold asOf; rw [HF.out]; rfl⟩
  | some q =>
    obtain ⟨c, r⟩ := q
    rw [hf] at hg
    obtain ⟨rfl, rfl, rfl⟩ : ok = true ∧ zs = c ∧ ys = r := hg
    have HF := Lib.hid hf
    clear hf
    obtain ⟨hBn, A1, c1, hvz, hc1, hm1, hrz⟩ := hzs
    have hcz := hvz.cell
    have R := Lib.hid hrz
    have VZ := Lib.hid hvz
    clear hvz hrz
    have HBad : Hid (∀ W v, Only [b, bo] w W → Var W bo 2 ((Value.int .i64) v) → Sl W B b 55 ys → intOf' zs = none → GaveV (Value.int .i64) w B b bo 2 (asOf intOf' xs tag) (.returned (.bool false)) W) := Lib.hid (fun W v h1 h2 h3 h4 => ⟨false, v, ys, rfl, h1, h2, h3, HLY.out, by unfold asOf; rw [HF.out]; simp only [h4]; rfl⟩)
    have HG : Hid (∀ W v, Only [b, bo] w W → Var W bo 2 ((Value.int .i64) v) → Sl W B b 55 ys → intOf' zs = some v → GaveV (Value.int .i64) w B b bo 2 (asOf intOf' xs tag) (.returned (.bool true)) W) := Lib.hid (fun W v h1 h2 h3 h4 => ⟨true, v, ys, rfl, h1, h2, h3, HLY.out, by unfold asOf; rw [HF.out]; simp only [h4]; exact ⟨rfl, rfl, rfl⟩⟩)
    go_wp2_with fail
    refine (check_any A1 zs.length c1 zs w1 B R.out rfl).mono ?_
    rintro e w1' ⟨rfl, rfl⟩
    cases hir : intRight zs with
    | false =>
      have HV : Hid (intOf' zs = none) := Lib.hid (by unfold intOf'; rw [if_neg (by simp [hir])])
      clear hir
      go_wp2_with fail
      go_ret
      exact HBad.out _ _ (K.out.more (by simp)) HVO.out HYS.out HV.out
    | true =>
      have HI := Lib.hid hir
      have HP := Lib.hid (intRight_pos hir)
      clear hir
      go_wp2_with fail
      refine (signed_any bo A1 zs.length c1 zs w1 B R.out rfl HP.out HVO.out HB.out).mono ?_
      rintro e w2 ⟨v, rfl, hk2, hv2, hsv⟩
      have hys2 : Sl w2 B b 55 ys := HYS.out.only hk2 (by simpa using fun e => HE.out e.symm) (by simpa using HB.out)
      have K2 : Hid (Only [b, bo] w w2) := Lib.hid ((K.out.more (by simp)).trans (hk2.more (by simp)))
      have HS2 := Lib.hid hys2
      have HV2 := Lib.hid hv2
      clear hk2 hys2 hv2
      by_cases h8 : zs.length ≤ 8
      · rw [decide_eq_true h8]
        have HV : Hid (intOf' zs = some v) := Lib.hid (by unfold intOf'; rw [if_pos ⟨HI.out, h8⟩, hsv h8])
        clear h8 hsv
        go_wp2_with fail
        go_ret
        exact HG.out _ _ K2.out HV2.out HS2.out HV.out
      · rw [decide_eq_false h8]
        have HV : Hid (intOf' zs = none) := Lib.hid (by unfold intOf'; rw [if_neg (fun h => h8 h.2)])
        clear h8 hsv
        go_wp2_with fail
        go_ret
        exact HBad.out _ v K2.out HV2.out HS2.out HV.out

theorem SReadEnum_of (b bo : Nat) (xs : List Int) (w : World) (B : Nat) (h : Sl w B b 55 xs) (ho : Var w bo 3 (.int .i64 0)) (hbo : bo ≠ b) (hB : B ≤ bo) (hn : xs.length ≤ 4194304) :
    Calls Try.prog 36 #[.pointer (some ⟨b, 0, none⟩), .pointer (some ⟨bo, 0, none⟩)] w (GaveV (Value.int .i64) w B b bo 3 (asOf intOf' xs 10)) := by
  have H := Lib.hid (fun W h' ho' => SReadASN1_of b w.heap.size 55 10 [] xs W B h' ho' (by have := h.lt; omega) hn (by simp))
  have HH := Lib.hid h
  have HO := Lib.hid ho
  have HL := Lib.hid (And.intro h.lt ho.lt)
  have HE := Lib.hid hbo
  have HB := Lib.hid hB
  have HN := Lib.hid hn
  clear h ho hbo hB hn
  go_enter Try.func36, Try.ntmps36
  go_wp2_with fail
  refine (H.out _ ((HH.out.alloc _).alloc _) ((Sl.new w B _ _ rfl HH.out.low).alloc _)).mono ?_
  rintro e w1 ⟨ok, zs, ys, rfl, hk, hzs, hys, hlz, hly, hg⟩
  have hk' : Only [b] w w1 := (((Only.refl _ _).alloc _).alloc _).then hk (by
    intro i hi hlt
    simp at hi ⊢
    omega)
  have hvo := ((HO.out.alloc _).alloc _).only hk (by
    have := HE.out
    have := HL.out
    simp
    omega)
  have K := Lib.hid hk'
  have KK := Lib.hid hk
  have HVO := Lib.hid hvo
  have HYS := Lib.hid hys
  have HLY := Lib.hid hly
  have HLZ := Lib.hid hlz
  clear hk' hk hvo hys hly hlz H
  cases hf : firstOf xs 10 with
  | none =>
    rw [hf] at hg
    have hg : ok = false := hg
    subst hg
    have HF := Lib.hid hf
    clear hf hzs
    go_wp2_with fail
    go_ret
    exact ⟨false, 0, ys, rfl, K.out.more (by simp), HVO.out, HYS.out, HLY.out, by unfold asOf; rw [HF.out]; rfl⟩
  | some q =>
    obtain ⟨c, r⟩ := q
    rw [hf] at hg
    obtain ⟨rfl, rfl, rfl⟩ : ok = true ∧ zs = c ∧ ys = r := hg
    have HF := Lib.hid hf
    clear hf
    obtain ⟨hBn, A1, c1, hvz, hc1, hm1, hrz⟩ := hzs
    have hcz := hvz.cell
    have R := Lib.hid hrz
    have VZ := Lib.hid hvz
    clear hvz hrz
    have HBad : Hid (∀ W v, Only [b, bo] w W → Var W bo 3 ((Value.int .i64) v) → Sl W B b 55 ys → intOf' zs = none → GaveV (Value.int .i64) w B b bo 3 (asOf intOf' xs 10) (.returned (.bool false)) W) := Lib.hid (fun W v h1 h2 h3 h4 => ⟨false, v, ys, rfl, h1, h2, h3, HLY.out, by unfold asOf; rw [HF.out]; simp only [h4]; rfl⟩)
    have HG : Hid (∀ W v, Only [b, bo] w W → Var W bo 3 ((Value.int .i64) v) → Sl W B b 55 ys → intOf' zs = some v → GaveV (Value.int .i64) w B b bo 3 (asOf intOf' xs 10) (.returned (.bool true)) W) := Lib.hid (fun W v h1 h2 h3 h4 => ⟨true, v, ys, rfl, h1, h2, h3, HLY.out, by unfold asOf; rw [HF.out]; simp only [h4]; exact ⟨rfl, rfl, rfl⟩⟩)
    go_wp2_with fail
    refine (check_any A1 zs.length c1 zs w1 B R.out rfl).mono ?_
    rintro e w1' ⟨rfl, rfl⟩
    cases hir : intRight zs with
    | false =>
      have HV : Hid (intOf' zs = none) := Lib.hid (by unfold intOf'; rw [if_neg (by simp [hir])])
      clear hir
      go_wp2_with fail
      go_ret
      exact HBad.out _ _ (K.out.more (by simp)) HVO.out HYS.out HV.out
    | true =>
      have HI := Lib.hid hir
      have HP := Lib.hid (intRight_pos hir)
      clear hir
      go_wp2_with fail
      have hl1 := (Var.new' _ (w.heap.size + 1) 2 (.int .i64 0) (by simp)).only KK.out (by have := HL.out; simp; omega)
      refine (signed_any (w.heap.size + 1) A1 zs.length c1 zs w1 B R.out rfl HP.out hl1 (by have := HH.out.low; omega)).mono ?_
      rintro e w2 ⟨v, rfl, hk2, hv2, hsv⟩
      have hys2 : Sl w2 B b 55 ys := HYS.out.only hk2 (by have := HL.out; simp; omega) (by have := HH.out.low; simp; omega)
      have hvo2 := HVO.out.only hk2 (by have := HL.out; simp; omega)
      have K2 : Hid (Only [b] w w2) := Lib.hid (K.out.then hk2 (by intro i hi hlt; simp at hi; omega))
      have HS2 := Lib.hid hys2
      have HV2 := Lib.hid hvo2
      have hcv := hv2.cell
      clear hk2 hys2 hvo2 hv2 hl1
      by_cases h8 : zs.length ≤ 8
      · rw [decide_eq_true h8]
        obtain ⟨v0, v1⟩ := sg_bd zs zs.length R.out.byt (Nat.le_refl _) h8
        rw [← hsv h8] at v0 v1
        have hw : IntKind.i64.wrap v = v := IntWalk.i64_in _ (by omega)
        have hww : (v != v) = false := by simp
        have HV : Hid (intOf' zs = some v) := Lib.hid (by unfold intOf'; rw [if_pos ⟨HI.out, h8⟩, hsv h8])
        have hfo := HV2.out.free
        have hco := HV2.out.cell
        clear h8 hsv v0 v1
        go_wp2_with fail
        go_ret
        exact HG.out _ _ ((K2.out.more (by simp)).setCell (.inl (by simp)) _) (HV2.out.set _) (HS2.out.far (fun e => HE.out e.symm) HB.out _) HV.out
      · rw [decide_eq_false h8]
        have HV : Hid (intOf' zs = none) := Lib.hid (by unfold intOf'; rw [if_neg (fun h => h8 h.2)])
        clear h8 hsv
        go_wp2_with fail
        go_ret
        exact HBad.out _ _ (K2.out.more (by simp)) HV2.out HS2.out HV.out

theorem SreadASN1Uint64_of (b bo : Nat) (xs : List Int) (w : World) (B : Nat) (h : Sl w B b 55 xs) (ho : Var w bo 31 (.int .u64 0)) (hbo : bo ≠ b) (hB : B ≤ bo) (hn : xs.length ≤ 4194304) :
    Calls Try.prog 52 #[.pointer (some ⟨b, 0, none⟩), .pointer (some ⟨bo, 0, none⟩)] w (GaveV (Value.int .u64) w B b bo 31 (asOf uintOf xs 2)) := by
  have H := Lib.hid (fun W h' ho' => SReadASN1_of b w.heap.size 55 2 [] xs W B h' ho' (by have := h.lt; omega) hn (by simp))
  have HH := Lib.hid h
  have HO := Lib.hid ho
  have HL := Lib.hid (And.intro h.lt ho.lt)
  have HE := Lib.hid hbo
  have HB := Lib.hid hB
  have HN := Lib.hid hn
  clear h ho hbo hB hn
  go_enter Try.func52, Try.ntmps52
  go_wp2_with fail
  refine (H.out _ (HH.out.alloc _) (Sl.new w B _ _ rfl HH.out.low)).mono ?_
  rintro e w1 ⟨ok, zs, ys, rfl, hk, hzs, hys, hlz, hly, hg⟩
  have hk' : Only [b] w w1 := ((Only.refl _ _).alloc _).then hk (by
    intro i hi hlt
    simp at hi ⊢
    omega)
  have hvo := (HO.out.alloc _).only hk (by
    have := HE.out
    have := HL.out
    simp
    omega)
  have K := Lib.hid hk'
  have KK := Lib.hid hk
  have HVO := Lib.hid hvo
  have HYS := Lib.hid hys
  have HLY := Lib.hid hly
  have HLZ := Lib.hid hlz
  clear hk' hk hvo hys hly hlz H
  cases hf : firstOf xs 2 with
  | none =>
    rw [hf] at hg
    have hg : ok = false := hg
    subst hg
    have HF := Lib.hid hf
    clear hf hzs
    go_wp2_with fail
    go_ret
    exact ⟨false, 0, ys, rfl, K.out.more (by simp), HVO.out, HYS.out, HLY.out, by unfold asOf; rw [HF.out]; rfl⟩
  | some q =>
    obtain ⟨c, r⟩ := q
    rw [hf] at hg
    obtain ⟨rfl, rfl, rfl⟩ : ok = true ∧ zs = c ∧ ys = r := hg
    have HF := Lib.hid hf
    clear hf
    obtain ⟨hBn, A1, c1, hvz, hc1, hm1, hrz⟩ := hzs
    have hcz := hvz.cell
    have R := Lib.hid hrz
    have VZ := Lib.hid hvz
    clear hvz hrz
    have HBad : Hid (∀ W v, Only [b, bo] w W → Var W bo 31 ((Value.int .u64) v) → Sl W B b 55 ys → uintOf zs = none → GaveV (Value.int .u64) w B b bo 31 (asOf uintOf xs 2) (.returned (.bool false)) W) := Lib.hid (fun W v h1 h2 h3 h4 => ⟨false, v, ys, rfl, h1, h2, h3, HLY.out, by unfold asOf; rw [HF.out]; simp only [h4]; rfl⟩)
    have HG : Hid (∀ W v, Only [b, bo] w W → Var W bo 31 ((Value.int .u64) v) → Sl W B b 55 ys → uintOf zs = some v → GaveV (Value.int .u64) w B b bo 31 (asOf uintOf xs 2) (.returned (.bool true)) W) := Lib.hid (fun W v h1 h2 h3 h4 => ⟨true, v, ys, rfl, h1, h2, h3, HLY.out, by unfold asOf; rw [HF.out]; simp only [h4]; exact ⟨rfl, rfl, rfl⟩⟩)
    go_wp2_with fail
    refine (check_any A1 zs.length c1 zs w1 B R.out rfl).mono ?_
    rintro e w1' ⟨rfl, rfl⟩
    cases hir : intRight zs with
    | false =>
      have HV : Hid (uintOf zs = none) := Lib.hid (by unfold uintOf; rw [if_neg (by simp [hir])])
      clear hir
      go_wp2_with fail
      go_ret
      exact HBad.out _ _ (K.out.more (by simp)) HVO.out HYS.out HV.out
    | true =>
      have HI := Lib.hid hir
      have HP := Lib.hid (intRight_pos hir)
      clear hir
      go_wp2_with fail
      refine (unsigned_any bo A1 zs.length c1 zs w1 B R.out rfl HP.out HVO.out HB.out).mono ?_
      rintro e w2 ⟨v, rfl, hk2, hv2, hsv⟩
      have hys2 : Sl w2 B b 55 ys := HYS.out.only hk2 (by simpa using fun e => HE.out e.symm) (by simpa using HB.out)
      have K2 : Hid (Only [b, bo] w w2) := Lib.hid ((K.out.more (by simp)).trans (hk2.more (by simp)))
      have HS2 := Lib.hid hys2
      have HV2 := Lib.hid hv2
      clear hk2 hys2 hv2
      cases h8 : uintFits zs with
      | true =>
        have HV : Hid (uintOf zs = some v) := Lib.hid (by
          have h9 := h8
          unfold uintFits at h9
          simp only [decide_eq_true_eq] at h9
          unfold uintOf
          rw [if_pos ⟨HI.out, h9⟩, hsv h8])
        clear h8 hsv
        go_wp2_with fail
        go_ret
        exact HG.out _ _ K2.out HV2.out HS2.out HV.out
      | false =>
        have HV : Hid (uintOf zs = none) := Lib.hid (by
          have h9 := h8
          unfold uintFits at h9
          simp only [decide_eq_false_iff_not] at h9
          unfold uintOf
          rw [if_neg (fun h => h9 h.2)])
        clear h8 hsv
        go_wp2_with fail
        go_ret
        exact HBad.out _ v K2.out HV2.out HS2.out HV.out

theorem SReadASN1Uint64_of (b bo : Nat) (v0 : Int) (xs : List Int) (w : World) (B : Nat) (h : Sl w B b 55 xs) (ho : Var w bo 31 (.int .u64 v0)) (hbo : bo ≠ b) (hB : B ≤ bo) (hn : xs.length ≤ 4194304) :
    Calls Try.prog 40 #[.pointer (some ⟨b, 0, none⟩), .pointer (some ⟨bo, 0, none⟩)] w (GaveV (Value.int .u64) w B b bo 31 (asOf uintOf xs 2)) := by
  have H := Lib.hid (fun W h' ho' => SreadASN1Uint64_of b w.heap.size xs W B h' ho' (by have := h.lt; omega) h.low hn)
  have HH := Lib.hid h
  have HO := Lib.hid ho
  have HL := Lib.hid (And.intro h.lt ho.lt)
  have HE := Lib.hid hbo
  have HB := Lib.hid hB
  clear h ho hbo hB hn
  go_enter Try.func40, Try.ntmps40
  go_wp2_with fail
  refine (H.out _ (HH.out.alloc _) (Var.new' _ _ _ _ rfl)).mono ?_
  rintro e w1 ⟨ok, x, ys, rfl, hk, hv, hys, hly, hg⟩
  have K : Hid (Only [b] w w1) := Lib.hid (((Only.refl _ _).alloc _).then hk (by
    intro i hi hlt
    simp at hi ⊢
    omega))
  have hvo := (HO.out.alloc _).only hk (by
    have := HE.out
    have := HL.out
    simp
    omega)
  have hfo := hvo.free
  have hco := hvo.cell
  have hcv := hv.cell
  have HVO := Lib.hid hvo
  have HYS := Lib.hid hys
  have HLY := Lib.hid hly
  have HG := Lib.hid hg
  clear hk hv hys hly hg hvo H
  cases ok with
  | false =>
    go_wp2_with fail
    go_ret
    exact ⟨false, v0, ys, rfl, K.out.more (by simp), HVO.out, HYS.out, HLY.out, by
      have := HG.out
      unfold Got at this ⊢
      revert this
      cases asOf uintOf xs 2 with
      | none => intro _; rfl
      | some q => rintro ⟨h, _⟩; cases h⟩
  | true =>
    go_wp2_with fail
    go_ret
    exact ⟨true, x, ys, rfl, (K.out.more (by simp)).setCell (.inl (by simp)) _, HVO.out.set _, HYS.out.far (fun e => HE.out e.symm) HB.out _, HLY.out, HG.out⟩
end Go.Proofs.Ytdocgembogocjaa
