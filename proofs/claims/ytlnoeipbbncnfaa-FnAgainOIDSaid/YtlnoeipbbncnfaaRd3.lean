/- readUnsigned and readASN1: contracts. -/
import Derived.Test.YtlnoeipbbncnfaaRd1
import Derived.Test.YtlnoeipbbncnfaaDer
import Derived.BigQuiet
import Derived.Deep.QuietTactic
namespace Go.Proofs.Ytlnoeipbbncnfaa
open Go.RowKit

theorem SreadUnsigned_ok (b bo : Nat) (m : Nat) (vo : Value) (xs : List Int) (w : World) (B : Nat) (h : Sl w B b 39 xs) (ho : Var w bo 84 vo) (hne : bo ≠ b) (hB : B ≤ bo) (h1 : 1 ≤ m) (h4 : m ≤ 4) (hl : m ≤ xs.length) :
    Calls Try.prog 44 #[.pointer (some ⟨b, 0, none⟩), .pointer (some ⟨bo, 0, none⟩), .int .i64 m] w (Told w B b bo m 84 (.int .u32 (beN (xs.take m))) xs) := by
  have H := Lib.hid (read_sl b m xs w B h (by omega) (by omega))
  have hby := h.byt
  have HL := Lib.hid hl
  have HY := Lib.hid hby
  have hbo : b ≠ bo := fun e => hne e.symm
  rw [Int.toNat_natCast] at H
  clear h hl hby
  go_enter Try.func44, Try.ntmps44
  go_wp2_with fail
  refine H.out.mono ?_
  rintro e w1 ⟨A, c, rfl, hc, hm, hA, hr, hs, hk⟩
  obtain ⟨ab, aoff, rfl, hab, hcells⟩ := Rd.cells hr HL.out h1
  have hv := ho.only hk (by simpa using hne)
  have hfin : ∀ u, Told w B b bo m 84 u xs (.returned (.bool true)) (w1.setCell ⟨bo, 0, none⟩ u) := fun u =>
    ⟨rfl, (hv.set u), (hs.far (fun e => hne e.symm) hB u), ((hk.more (by simp)).setCell (.inl (by simp)) u)⟩
  have HC := Lib.hid hcells
  have HFI := Lib.hid hfin
  have hcell := hv.cell
  have hfree := hv.free
  clear hcells hs hk hv hr hA H ho hab hfin
  go_wp2_with fail
  go_loop [8, 9] (fun v i => ∃ k : Nat, k ≤ m ∧ i = .int .i64 k ∧ v = .int .u32 (beN (xs.take k))) (fun _ i => m - (intOf i).toNat)
  case atStart => exact ⟨0, Nat.zero_le _, rfl, rfl⟩
  case round =>
    obtain ⟨k, hk, rfl, rfl⟩ := hrel
    by_cases hlt : k < m
    · have hcl := HC.out k hlt
      obtain ⟨x0, x1⟩ := Byt.getD HY.out k
      obtain ⟨b0, b2⟩ := beN_take_le3 xs HY.out k (by omega)
      have hsu := Lib.hid (beN_take_succ xs k (by have := HL.out; omega))
      generalize beN (xs.take k) = v at *
      generalize xs.getD k 0 = x at *
      have e1 : bits .or .u32 (v * 256) x = v * 256 + x := or_join_u32 _ _ 8 256 rfl (by omega) (by omega) x0 (by omega) (by omega)
      go_wp2
      go_round
      case rel => exact ⟨k + 1, by omega, by go_num, by rw [hsu.out]⟩
      case measure => simp [intOf]; omega
    · have e : k = m := by omega
      subst e
      go_wp2
      go_ret
      exact HFI.out _

/-- What reading an element leaves: in 'out' it, whole or without its header, in 'tag' its tag. -/
def TookEl (w : World) (B b bo bt : Nat) (to : TypeId) (skip : Bool) (xs : List Int) (e : Ending) (w' : World) : Prop :=
  Only [b, bo, bt] w w' ∧
  match first xs with
  | some (t, h, n) => e = .returned (.bool true) ∧ Var w' bt 61 (.int .u8 t) ∧ Sl w' B bo to (if skip then (xs.take n).drop h else xs.take n) ∧ Sl w' B b 39 (xs.drop n)
  | none => e = .returned (.bool false) ∧ (∃ t, 0 ≤ t ∧ t ≤ 255 ∧ Var w' bt 61 (.int .u8 t)) ∧ (∃ vo, Var w bo to vo ∧ Var w' bo to vo) ∧ Sl w' B b 39 xs

theorem SreadASN1_short (b bo bt : Nat) (to : TypeId) (vo : Value) (t0 : Int) (skip : Bool) (xs : List Int) (w : World) (B : Nat) (h : Sl w B b 39 xs) (ho : Var w bo to vo) (ht : Var w bt 61 (.int .u8 t0)) (ht0 : 0 ≤ t0 ∧ t0 ≤ 255) (hl : xs.length < 2) :
    Calls Try.prog 41 #[.pointer (some ⟨b, 0, none⟩), .pointer (some ⟨bo, 0, none⟩), .pointer (some ⟨bt, 0, none⟩), .bool skip] w (TookEl w B b bo bt to skip xs) := by
  have hf : first xs = none := by unfold first; rw [if_pos (.inl hl)]
  have HF : Hid (∀ w', w = w' → TookEl w B b bo bt to skip xs (.returned (.bool false)) w') := Lib.hid (by
    rintro _ rfl
    unfold TookEl
    rw [hf]
    exact ⟨Only.refl _ _, rfl, ⟨t0, ht0.1, ht0.2, ht⟩, ⟨vo, ho, ho⟩, h⟩)
  obtain ⟨_, A, c, hv, hc, hm, hr⟩ := h
  have hcell := hv.cell
  clear hf ho ht hv hr
  go_enter Try.func41, Try.ntmps41
  go_wp2_with fail
  go_ret
  exact HF.out _ rfl

theorem SreadASN1_high (b bo bt : Nat) (to : TypeId) (vo : Value) (t0 : Int) (skip : Bool) (xs : List Int) (w : World) (B : Nat) (h : Sl w B b 39 xs) (ho : Var w bo to vo) (ht : Var w bt 61 (.int .u8 t0)) (ht0 : 0 ≤ t0 ∧ t0 ≤ 255) (hl : 2 ≤ xs.length) (h31 : xs.getD 0 0 % 32 = 31) :
    Calls Try.prog 41 #[.pointer (some ⟨b, 0, none⟩), .pointer (some ⟨bo, 0, none⟩), .pointer (some ⟨bt, 0, none⟩), .bool skip] w (TookEl w B b bo bt to skip xs) := by
  have hf : first xs = none := by unfold first; rw [if_pos (.inr h31)]
  have HF : Hid (∀ n, TookEl w B b bo bt to skip xs (.returned (.bool false)) (w.drewN n)) := Lib.hid (by
    intro n
    unfold TookEl
    rw [hf]
    exact ⟨(Only.refl _ _).drewN n, rfl, ⟨t0, ht0.1, ht0.2, ht⟩, ⟨vo, ho, ho⟩, h⟩)
  obtain ⟨x0, x1⟩ := Byt.getD h.byt 0
  obtain ⟨_, A, c, hv, hc, hm, hr⟩ := h
  obtain ⟨ab, aoff, rfl, _, hcells⟩ := hr.2 (by omega)
  have c0 := hcells 0 (by omega)
  have c1 := hcells 1 (by omega)
  rw [Nat.add_zero] at c0
  have hcell := hv.cell
  have ha := u8_and31 _ x0 (by omega)
  rw [h31] at ha
  clear hf ho ht hv hr hcells h31
  generalize xs.getD 0 0 = t at *
  generalize xs.getD 1 0 = l at *
  go_enter Try.func41, Try.ntmps41
  go_wp2_with fail
  go_quiet (fail)
  go_wp2_with fail
  go_ret
  exact HF.out _

/-- What stands when the length is known: the element is taken, or not. -/
theorem tail_facts {w W : World} {B b bo bt : Nat} {to : TypeId} {vo : Value} {t0 : Int} {xs : List Int} (h : Sl w B b 39 xs) (ho : Var w bo to vo) (hbt : bt ≠ b) (hbt2 : bt ≠ bo) (hBt : B ≤ bt) (hk : Only [bt] w W) (ht : Var W bt 61 (.int .u8 t0)) :
    Sl W B b 39 xs ∧ Var W bo to vo ∧ Only [bt] w W ∧ Var W bt 61 (.int .u8 t0) :=
  ⟨h.only hk (by simpa using fun e => hbt e.symm) (by simpa using hBt), ho.only hk (by simpa using fun e => hbt2 e.symm), hk, ht⟩

theorem took_fail {w W : World} {B b bo bt : Nat} {to : TypeId} {vo : Value} {t0 : Int} {xs : List Int} {skip : Bool} (ho : Var w bo to vo) (t00 : 0 ≤ t0) (t01 : t0 ≤ 255) (hf : first xs = none)
    (h : Sl W B b 39 xs ∧ Var W bo to vo ∧ Only [bt] w W ∧ Var W bt 61 (.int .u8 t0)) : TookEl w B b bo bt to skip xs (.returned (.bool false)) W := by
  unfold TookEl
  rw [hf]
  exact ⟨h.2.2.1.more (by simp), rfl, ⟨t0, t00, t01, h.2.2.2⟩, ⟨vo, ho, h.2.1⟩, h.1⟩

theorem took_whole {w W W2 : World} {B b bo bt : Nat} {to : TypeId} {xs : List Int} {hd n : Nat} (hf : first xs = some (xs.getD 0 0, hd, n)) (hbt : bt ≠ b) (hbt2 : bt ≠ bo)
    (hk : Only [bt] w W) (ht : Var W bt 61 (.int .u8 (xs.getD 0 0))) (h1 : Sl W2 B bo to (xs.take n)) (h2 : Sl W2 B b 39 (xs.drop n)) (hk2 : Only [b, bo] W W2) : TookEl w B b bo bt to false xs (.returned (.bool true)) W2 := by
  unfold TookEl
  rw [hf]
  refine ⟨(hk.more fun k hk _ => ?_).trans (hk2.more fun k hk _ => ?_), rfl, ht.only hk2 (by simp; omega), h1, h2⟩
  · simp at hk ⊢; exact .inr (.inr hk)
  · simp at hk ⊢; omega

theorem took_skip {w W W2 W3 : World} {B b bo bt : Nat} {to : TypeId} {xs : List Int} {hd n : Nat} (hf : first xs = some (xs.getD 0 0, hd, n)) (hbo : bo ≠ b) (hbt : bt ≠ b) (hbt2 : bt ≠ bo) (hBo : B ≤ bo)
    (hk : Only [bt] w W) (ht : Var W bt 61 (.int .u8 (xs.getD 0 0))) (h2 : Sl W2 B b 39 (xs.drop n)) (hk2 : Only [b, bo] W W2) (h3 : Sl W3 B bo to ((xs.take n).drop hd)) (hk3 : Only [bo] W2 W3) : TookEl w B b bo bt to true xs (.returned (.bool true)) W3 := by
  unfold TookEl
  rw [hf]
  refine ⟨((hk.more fun k hk _ => ?_).trans (hk2.more fun k hk _ => ?_)).trans (hk3.more fun k hk _ => ?_), rfl, (ht.only hk2 (by simp; omega)).only hk3 (by simpa using hbt2), h3, h2.only hk3 (by simpa using fun e => hbo e.symm) (by simpa using hBo)⟩
  · simp at hk ⊢; exact .inr (.inr hk)
  · simp at hk ⊢; omega
  · simp at hk ⊢; omega

theorem SreadASN1_s (b bo bt : Nat) (to : TypeId) (vo : Value) (t0 : Int) (skip : Bool) (xs : List Int) (w : World) (B : Nat) (h : Sl w B b 39 xs) (ho : Var w bo to vo) (ht : Var w bt 61 (.int .u8 t0))
    (hbo : bo ≠ b) (hbt : bt ≠ b) (hbt2 : bt ≠ bo) (hBo : B ≤ bo) (hBt : B ≤ bt) (hn : xs.length ≤ 4194304) (hl : 2 ≤ xs.length) (h31 : xs.getD 0 0 % 32 ≠ 31) (hs : xs.getD 1 0 < 128) :
    Calls Try.prog 41 #[.pointer (some ⟨b, 0, none⟩), .pointer (some ⟨bo, 0, none⟩), .pointer (some ⟨bt, 0, none⟩), .bool skip] w (TookEl w B b bo bt to skip xs) := by
  obtain ⟨x0, x1⟩ := Byt.getD h.byt 0
  obtain ⟨y0, y1⟩ := Byt.getD h.byt 1
  obtain ⟨k, hk⟩ : ∃ k : Nat, xs.getD 1 0 = k := ⟨(xs.getD 1 0).toNat, by omega⟩
  have hle : lenOf xs = some (2, k) := by unfold lenOf; rw [if_pos hs, hk, Int.toNat_natCast]
  have hf : first xs = if xs.length < 2 + k then none else some (xs.getD 0 0, 2, 2 + k) := by
    unfold first
    rw [if_neg (by omega), hle]
  have TF := Lib.hid (fun W (hk' : Only [bt] w W) ht' => tail_facts (t0 := xs.getD 0 0) h ho hbt hbt2 hBt hk' ht')
  have HO := Lib.hid ho
  have HT := Lib.hid ht
  have ha := u8_and31 (xs.getD 0 0) x0 (by omega)
  have hb : bits .and .u8 (xs.getD 1 0) 128 = 0 := by
    rw [hk]
    have : ∀ k : Nat, k < 128 → bits .and .u8 (k : Int) 128 = 0 := by decide +kernel
    exact this k (by omega)
  have hne : (xs.getD 0 0 % 32 == 31) = false := by simpa using h31
  rw [hk] at hb
  obtain ⟨_, A, c, hv, hc, hm, hr⟩ := h
  obtain ⟨ab, aoff, rfl, _, hcells⟩ := hr.2 (by omega)
  have c0 := hcells 0 (by omega)
  have c1 := hcells 1 (by omega)
  rw [Nat.add_zero] at c0
  rw [hk] at c1
  have hcell := hv.cell
  have hct := ht.cell
  have hft := ht.free
  have hk127 : k ≤ 127 := by omega
  by_cases hfit : 2 + k ≤ xs.length
  · rw [if_neg (by omega)] at hf
    have TW := Lib.hid (fun W W2 h1 h2 h3 h4 h5 => took_whole (w := w) (W := W) (W2 := W2) (B := B) (b := b) (bo := bo) (bt := bt) (to := to) hf hbt hbt2 h1 h2 h3 h4 h5)
    have TS := Lib.hid (fun W W2 W3 h1 h2 h3 h4 h5 h6 => took_skip (w := w) (W := W) (W2 := W2) (W3 := W3) (B := B) (b := b) (bo := bo) (bt := bt) (to := to) hf hbo hbt hbt2 hBo h1 h2 h3 h4 h5 h6)
    have RB := Lib.hid (fun W h ho => SreadBytes_ok b bo ((k : Int) + 2) to vo xs W B h ho hbo hBo (by omega) (by omega) (.inl (by omega)))
    have hk2 : ((k : Int) + 2).toNat = 2 + k := by omega
    rw [hk2] at RB
    have SK := Lib.hid (fun W (h : Sl W B bo to (xs.take (2 + k))) => Sskip_ok bo 2 (xs.take (2 + k)) W B h (by decide) (by simp; omega) (.inl (by simp; omega)))
    rw [show (2 : Int).toNat = 2 from rfl] at SK
    clear hf hle ht ho hv hr hcells h31 hk hk2 hs y0 y1
    generalize xs.getD 0 0 = t at *
    cases skip
    all_goals
      go_enter Try.func41, Try.ntmps41
      go_wp2_with fail
      go_quiet (fail)
      go_wp2_with fail
      have K1 : Only [bt] w ((w.drewN nq).setCell ⟨bt, 0, none⟩ (.int .u8 t)) := ((Only.refl _ _).drewN nq).setCell (.inl (by simp)) _
      have K2 : Var ((w.drewN nq).setCell ⟨bt, 0, none⟩ (.int .u8 t)) bt 61 (.int .u8 t) := (HT.out.drewN nq).set _
      have H1 := Lib.hid K1
      have H2 := Lib.hid K2
      clear K1 K2
      refine (RB.out _ (TF.out _ H1.out H2.out).1 (TF.out _ H1.out H2.out).2.1).mono ?_
      rintro e w2 ⟨rfl, h3, h4, h5⟩
      have H3 := Lib.hid h3
      have H4 := Lib.hid h4
      have H5 := Lib.hid h5
      clear h3 h4 h5
      go_wp2_with fail
    · go_ret
      exact TW.out _ _ H1.out H2.out H3.out H4.out H5.out
    · refine (SK.out _ H3.out).mono ?_
      rintro e w3 ⟨rfl, h6, h7⟩
      have H6 := Lib.hid h6
      have H7 := Lib.hid h7
      clear h6 h7
      go_wp2_with fail
      go_ret
      exact TS.out _ _ _ H1.out H2.out H4.out H5.out H6.out H7.out
  · rw [if_pos (by omega)] at hf
    have TN := Lib.hid (fun W h => took_fail (B := B) (b := b) (bo := bo) (bt := bt) (to := to) (skip := skip) (W := W) ho x0 x1 hf h)
    have RB := Lib.hid (fun W h => SreadBytes_no b bo ((k : Int) + 2) xs W B h (.inr (by omega)))
    clear hf hle ht ho hv hr hcells h31 hk hs y0 y1
    generalize xs.getD 0 0 = t at *
    go_enter Try.func41, Try.ntmps41
    go_wp2_with fail
    go_quiet (fail)
    go_wp2_with fail
    have K1 : Only [bt] w ((w.drewN nq).setCell ⟨bt, 0, none⟩ (.int .u8 t)) := ((Only.refl _ _).drewN nq).setCell (.inl (by simp)) _
    have K2 : Var ((w.drewN nq).setCell ⟨bt, 0, none⟩ (.int .u8 t)) bt 61 (.int .u8 t) := (HT.out.drewN nq).set _
    have H1 := Lib.hid K1
    have H2 := Lib.hid K2
    clear K1 K2
    refine (RB.out _ (TF.out _ H1.out H2.out).1).mono ?_
    rintro e w2 ⟨rfl, hw2⟩
    have HW := Lib.hid hw2
    clear hw2
    go_wp2_with fail
    go_ret
    exact TN.out _ (HW.out ▸ TF.out _ H1.out H2.out)

theorem and128_hi : ∀ k : Nat, k < 256 → 128 ≤ k → bits .and .u8 (k : Int) 128 = 128 := by decide +kernel
theorem and127_hi : ∀ k : Nat, k < 128 → bits .and .u8 ((k + 128 : Nat) : Int) 127 = k := by decide +kernel

theorem SreadASN1_lbad (b bo bt : Nat) (to : TypeId) (vo : Value) (t0 : Int) (skip : Bool) (xs : List Int) (w : World) (B : Nat) (h : Sl w B b 39 xs) (ho : Var w bo to vo) (ht : Var w bt 61 (.int .u8 t0))
    (hbt : bt ≠ b) (hbt2 : bt ≠ bo) (hBt : B ≤ bt) (hn : xs.length ≤ 4194304) (hl : 2 ≤ xs.length) (h31 : xs.getD 0 0 % 32 ≠ 31) (m : Nat) (hm128 : m < 128) (hs : xs.getD 1 0 = ((m + 128 : Nat) : Int)) (hbad : m = 0 ∨ 4 < m ∨ xs.length < 2 + m) :
    Calls Try.prog 41 #[.pointer (some ⟨b, 0, none⟩), .pointer (some ⟨bo, 0, none⟩), .pointer (some ⟨bt, 0, none⟩), .bool skip] w (TookEl w B b bo bt to skip xs) := by
  obtain ⟨x0, x1⟩ := Byt.getD h.byt 0
  have hle : lenOf xs = none := by
    unfold lenOf
    rw [if_neg (by omega)]
    simp only
    rw [if_pos (by rw [hs]; omega)]
  have hf : first xs = none := by
    unfold first
    rw [if_neg (by omega), hle]
  have TF := Lib.hid (fun W (hk' : Only [bt] w W) ht' => tail_facts (t0 := xs.getD 0 0) h ho hbt hbt2 hBt hk' ht')
  have TN := Lib.hid (fun W h => took_fail (B := B) (b := b) (bo := bo) (bt := bt) (to := to) (skip := skip) (W := W) ho x0 x1 hf h)
  have HT := Lib.hid ht
  have ha := u8_and31 (xs.getD 0 0) x0 (by omega)
  have hb := and128_hi (m + 128) (by omega) (by omega)
  have hb7 := and127_hi m hm128
  have hne : (xs.getD 0 0 % 32 == 31) = false := by simpa using h31
  obtain ⟨_, A, c, hv, hc, hm, hr⟩ := h
  obtain ⟨ab, aoff, rfl, _, hcells⟩ := hr.2 (by omega)
  have c0 := hcells 0 (by omega)
  have c1 := hcells 1 (by omega)
  rw [Nat.add_zero] at c0
  rw [hs] at c1
  have hcell := hv.cell
  have hclater : ∀ n u o, (((w.drewN n).setCell ⟨bt, 0, none⟩ u).alloc o).cell? ⟨b, 0, none⟩ = some (.slice (some ⟨ab, aoff, none⟩) xs.length c) := fun n u o => (((hv.drewN n).far (p := ⟨bt, 0, none⟩) (fun e => hbt e.symm) u).alloc o).cell
  have hct := ht.cell
  have hft := ht.free
  clear hf hle ht ho hv hr hcells h31 hs
  generalize xs.getD 0 0 = t at *
  generalize hl0 : ((m + 128 : Nat) : Int) = l at *
  have HL0 := Lib.hid hl0
  clear hl0
  have hdone : ∀ W, Only [bt] w W → Var W bt 61 (.int .u8 t) → TookEl w B b bo bt to skip xs (.returned (.bool false)) W := fun W h1 h2 => TN.out W (TF.out W h1 h2)
  have HD := Lib.hid hdone
  clear hdone
  have hcase : (m : Int) = 0 ∨ (((m : Int) == 0) = false ∧ decide ((4 : Int) < m) = true) ∨ (((m : Int) == 0) = false ∧ decide ((4 : Int) < m) = false ∧ (m : Int) ≤ 4 ∧ decide ((xs.length : Int) < 2 + m) = true) := by
    rcases Nat.eq_zero_or_pos m with h0 | h0
    · left; omega
    · right
      by_cases h4 : 4 < m
      · left; simp; omega
      · right
        refine ⟨by simp; omega, by simp; omega, by omega, by simp; omega⟩
  rcases hcase with h0 | ⟨h0, h4⟩ | ⟨h0, h4, h4', h5⟩
  · have hq : ((m : Int) == 0) = true := by simpa using h0
    clear h0
    go_enter Try.func41, Try.ntmps41
    go_wp2_with fail
    go_quiet (fail)
    go_wp2_with fail
    go_ret
    exact HD.out _ ((((Only.refl _ _).drewN nq).setCell (.inl (by simp)) _).alloc _) (((HT.out.drewN nq).set _).alloc _)
  · go_enter Try.func41, Try.ntmps41
    go_wp2_with fail
    go_quiet (fail)
    go_wp2_with fail
    go_ret
    exact HD.out _ ((((Only.refl _ _).drewN nq).setCell (.inl (by simp)) _).alloc _) (((HT.out.drewN nq).set _).alloc _)
  · go_enter Try.func41, Try.ntmps41
    go_wp2_with fail
    go_quiet (fail)
    go_wp2_with fail
    go_ret
    exact HD.out _ ((((Only.refl _ _).drewN nq).setCell (.inl (by simp)) _).alloc _) (((HT.out.drewN nq).set _).alloc _)

end Go.Proofs.Ytlnoeipbbncnfaa
