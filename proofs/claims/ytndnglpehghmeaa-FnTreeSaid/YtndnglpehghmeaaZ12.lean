/- The package's length-prefixed reading, and CopyBytes: contracts. readUnsigned and readASN1: contracts. The thin package's readers of numbers and bytes, by the package's own: contracts. readASN1 at a long length: contract. Reading an element: any tag, a given tag; with its header or without: contracts. The thin package's readers of bytes: contracts. The thin package's readers of elements: contracts. -/
import Derived.Test.YtndnglpehghmeaaZ1
import Derived.Laws.CopyOwn
import Derived.BigQuiet
import Derived.Deep.QuietTactic
import Derived.Deep.RegionHeld3
/-! ### The package's length-prefixed reading, and CopyBytes: contracts. -/
namespace Go.Proofs.Ytndnglpehghmeaa
open Go.RowKit


end Go.Proofs.Ytndnglpehghmeaa

/-! ### readUnsigned and readASN1: contracts. -/
namespace Go.Proofs.Ytndnglpehghmeaa
open Go.RowKit

theorem SreadUnsigned_ok (b bo : Nat) (m : Nat) (vo : Value) (xs : List Int) (w : World) (B : Nat) (h : Sl w B b 53 xs) (ho : Var w bo 64 vo) (hne : bo ≠ b) (hB : B ≤ bo) (h1 : 1 ≤ m) (h4 : m ≤ 4) (hl : m ≤ xs.length) :
    Calls Try.prog 66 #[.pointer (some ⟨b, 0, none⟩), .pointer (some ⟨bo, 0, none⟩), .int .i64 m] w (Told w B b bo m 64 (.int .u32 (beN (xs.take m))) xs) := by
  have H := Lib.hid (read_sl b m xs w B h (by omega) (by omega))
  have hby := h.byt
  have HL := Lib.hid hl
  have HY := Lib.hid hby
  have hbo : b ≠ bo := fun e => hne e.symm
  rw [Int.toNat_natCast] at H
  clear h hl hby
  go_enter Try.func66, Try.ntmps66
  go_wp2_with fail
  refine H.out.mono ?_
  rintro e w1 ⟨A, c, rfl, hc, hm, hA, hr, hs, hk⟩
  obtain ⟨ab, aoff, rfl, hab, hcells⟩ := Rd.cells hr HL.out h1
  have hv := ho.only hk (by simpa using hne)
  have hfin : ∀ u, Told w B b bo m 64 u xs (.returned (.bool true)) (w1.setCell ⟨bo, 0, none⟩ u) := fun u =>
    ⟨rfl, (hv.set u), (hs.far (fun e => hne e.symm) hB u), ((hk.more (by simp)).setCell (.inl (by simp)) u)⟩
  have HC := Lib.hid hcells
  have HFI := Lib.hid hfin
  have hcell := hv.cell
  have hfree := hv.free
  clear hcells hs hk hv hr hA H ho hab hfin
  go_wp2_with fail
  go_loop [8, 9] (fun v i => ∃ k : Nat, k ≤ m ∧ i = .int .i64 k ∧ v = .int .u32 (beN (xs.take k))) (fun _ i => m - (intOf i).toNat)
  case atStart => exact ⟨0, Nat.zero_le _, rfl, rfl⟩
  case round =>
    obtain ⟨k, hk, rfl, rfl⟩ := hrel
    by_cases hlt : k < m
    · have hcl := HC.out k hlt
      obtain ⟨x0, x1⟩ := Byt.getD HY.out k
      obtain ⟨b0, b2⟩ := beN_take_le3 xs HY.out k (by omega)
      have hsu := Lib.hid (beN_take_succ xs k (by have := HL.out; omega))
      generalize beN (xs.take k) = v at *
      generalize xs.getD k 0 = x at *
      have e1 : bits .or .u32 (v * 256) x = v * 256 + x := or_join_u32 _ _ 8 256 rfl (by omega) (by omega) x0 (by omega) (by omega)
      go_wp2
      go_round
      case rel => exact ⟨k + 1, by omega, by go_num, by rw [hsu.out]⟩
      case measure => simp [intOf]; omega
    · have e : k = m := by omega
      subst e
      go_wp2
      go_ret
      exact HFI.out _

/-- What reading an element leaves: in 'out' it, whole or without its header, in 'tag' its tag. -/
def TookEl (w : World) (B b bo bt : Nat) (to : TypeId) (skip : Bool) (xs : List Int) (e : Ending) (w' : World) : Prop :=
  Only [b, bo, bt] w w' ∧
  match first xs with
  | some (t, h, n) => e = .returned (.bool true) ∧ Var w' bt 55 (.int .u8 t) ∧ Sl w' B bo to (if skip then (xs.take n).drop h else xs.take n) ∧ Sl w' B b 53 (xs.drop n)
  | none => e = .returned (.bool false) ∧ (∃ t, 0 ≤ t ∧ t ≤ 255 ∧ Var w' bt 55 (.int .u8 t)) ∧ (∃ vo, Var w bo to vo ∧ Var w' bo to vo) ∧ Sl w' B b 53 xs

theorem SreadASN1_short (b bo bt : Nat) (to : TypeId) (vo : Value) (t0 : Int) (skip : Bool) (xs : List Int) (w : World) (B : Nat) (h : Sl w B b 53 xs) (ho : Var w bo to vo) (ht : Var w bt 55 (.int .u8 t0)) (ht0 : 0 ≤ t0 ∧ t0 ≤ 255) (hl : xs.length < 2) :
    Calls Try.prog 54 #[.pointer (some ⟨b, 0, none⟩), .pointer (some ⟨bo, 0, none⟩), .pointer (some ⟨bt, 0, none⟩), .bool skip] w (TookEl w B b bo bt to skip xs) := by
  have hf : first xs = none := by unfold first; rw [if_pos (.inl hl)]
  have HF : Hid (∀ w', w = w' → TookEl w B b bo bt to skip xs (.returned (.bool false)) w') := Lib.hid (by
    rintro _ rfl
    unfold TookEl
    rw [hf]
    exact ⟨Only.refl _ _, rfl, ⟨t0, ht0.1, ht0.2, ht⟩, ⟨vo, ho, ho⟩, h⟩)
  obtain ⟨_, A, c, hv, hc, hm, hr⟩ := h
  have hcell := hv.cell
  clear hf ho ht hv hr
  go_enter Try.func54, Try.ntmps54
  go_wp2_with fail
  go_ret
  exact HF.out _ rfl

theorem SreadASN1_high (b bo bt : Nat) (to : TypeId) (vo : Value) (t0 : Int) (skip : Bool) (xs : List Int) (w : World) (B : Nat) (h : Sl w B b 53 xs) (ho : Var w bo to vo) (ht : Var w bt 55 (.int .u8 t0)) (ht0 : 0 ≤ t0 ∧ t0 ≤ 255) (hl : 2 ≤ xs.length) (h31 : xs.getD 0 0 % 32 = 31) :
    Calls Try.prog 54 #[.pointer (some ⟨b, 0, none⟩), .pointer (some ⟨bo, 0, none⟩), .pointer (some ⟨bt, 0, none⟩), .bool skip] w (TookEl w B b bo bt to skip xs) := by
  have hf : first xs = none := by unfold first; rw [if_pos (.inr h31)]
  have HF : Hid (∀ n, TookEl w B b bo bt to skip xs (.returned (.bool false)) (w.drewN n)) := Lib.hid (by
    intro n
    unfold TookEl
    rw [hf]
    exact ⟨(Only.refl _ _).drewN n, rfl, ⟨t0, ht0.1, ht0.2, ht⟩, ⟨vo, ho, ho⟩, h⟩)
  obtain ⟨x0, x1⟩ := Byt.getD h.byt 0
  obtain ⟨_, A, c, hv, hc, hm, hr⟩ := h
  obtain ⟨ab, aoff, rfl, _, hcells⟩ := hr.2 (by omega)
  have c0 := hcells 0 (by omega)
  have c1 := hcells 1 (by omega)
  rw [Nat.add_zero] at c0
  have hcell := hv.cell
  have ha := u8_and31 _ x0 (by omega)
  rw [h31] at ha
  clear hf ho ht hv hr hcells h31
  generalize xs.getD 0 0 = t at *
  generalize xs.getD 1 0 = l at *
  go_enter Try.func54, Try.ntmps54
  go_wp2_with fail
  go_quiet (fail)
  go_wp2_with fail
  go_ret
  exact HF.out _

/-- What stands when the length is known: the element is taken, or not. -/
theorem tail_facts {w W : World} {B b bo bt : Nat} {to : TypeId} {vo : Value} {t0 : Int} {xs : List Int} (h : Sl w B b 53 xs) (ho : Var w bo to vo) (hbt : bt ≠ b) (hbt2 : bt ≠ bo) (hBt : B ≤ bt) (hk : Only [bt] w W) (ht : Var W bt 55 (.int .u8 t0)) :
    Sl W B b 53 xs ∧ Var W bo to vo ∧ Only [bt] w W ∧ Var W bt 55 (.int .u8 t0) :=
  ⟨h.only hk (by simpa using fun e => hbt e.symm) (by simpa using hBt), ho.only hk (by simpa using fun e => hbt2 e.symm), hk, ht⟩

theorem took_fail {w W : World} {B b bo bt : Nat} {to : TypeId} {vo : Value} {t0 : Int} {xs : List Int} {skip : Bool} (ho : Var w bo to vo) (t00 : 0 ≤ t0) (t01 : t0 ≤ 255) (hf : first xs = none)
    (h : Sl W B b 53 xs ∧ Var W bo to vo ∧ Only [bt] w W ∧ Var W bt 55 (.int .u8 t0)) : TookEl w B b bo bt to skip xs (.returned (.bool false)) W := by
  unfold TookEl
  rw [hf]
  exact ⟨h.2.2.1.more (by simp), rfl, ⟨t0, t00, t01, h.2.2.2⟩, ⟨vo, ho, h.2.1⟩, h.1⟩

theorem took_whole {w W W2 : World} {B b bo bt : Nat} {to : TypeId} {xs : List Int} {hd n : Nat} (hf : first xs = some (xs.getD 0 0, hd, n)) (hbt : bt ≠ b) (hbt2 : bt ≠ bo)
    (hk : Only [bt] w W) (ht : Var W bt 55 (.int .u8 (xs.getD 0 0))) (h1 : Sl W2 B bo to (xs.take n)) (h2 : Sl W2 B b 53 (xs.drop n)) (hk2 : Only [b, bo] W W2) : TookEl w B b bo bt to false xs (.returned (.bool true)) W2 := by
  unfold TookEl
  rw [hf]
  refine ⟨(hk.more fun k hk _ => ?_).trans (hk2.more fun k hk _ => ?_), rfl, ht.only hk2 (by simp; omega), h1, h2⟩
  · simp at hk ⊢; exact .inr (.inr hk)
  · simp at hk ⊢; omega

theorem took_skip {w W W2 W3 : World} {B b bo bt : Nat} {to : TypeId} {xs : List Int} {hd n : Nat} (hf : first xs = some (xs.getD 0 0, hd, n)) (hbo : bo ≠ b) (hbt : bt ≠ b) (hbt2 : bt ≠ bo) (hBo : B ≤ bo)
    (hk : Only [bt] w W) (ht : Var W bt 55 (.int .u8 (xs.getD 0 0))) (h2 : Sl W2 B b 53 (xs.drop n)) (hk2 : Only [b, bo] W W2) (h3 : Sl W3 B bo to ((xs.take n).drop hd)) (hk3 : Only [bo] W2 W3) : TookEl w B b bo bt to true xs (.returned (.bool true)) W3 := by
  unfold TookEl
  rw [hf]
  refine ⟨((hk.more fun k hk _ => ?_).trans (hk2.more fun k hk _ => ?_)).trans (hk3.more fun k hk _ => ?_), rfl, (ht.only hk2 (by simp; omega)).only hk3 (by simpa using hbt2), h3, h2.only hk3 (by simpa using fun e => hbo e.symm) (by simpa using hBo)⟩
  · simp at hk ⊢; exact .inr (.inr hk)
  · simp at hk ⊢; omega
  · simp at hk ⊢; omega

theorem SreadASN1_s (b bo bt : Nat) (to : TypeId) (vo : Value) (t0 : Int) (skip : Bool) (xs : List Int) (w : World) (B : Nat) (h : Sl w B b 53 xs) (ho : Var w bo to vo) (ht : Var w bt 55 (.int .u8 t0))
    (hbo : bo ≠ b) (hbt : bt ≠ b) (hbt2 : bt ≠ bo) (hBo : B ≤ bo) (hBt : B ≤ bt) (hn : xs.length ≤ 4194304) (hl : 2 ≤ xs.length) (h31 : xs.getD 0 0 % 32 ≠ 31) (hs : xs.getD 1 0 < 128) :
    Calls Try.prog 54 #[.pointer (some ⟨b, 0, none⟩), .pointer (some ⟨bo, 0, none⟩), .pointer (some ⟨bt, 0, none⟩), .bool skip] w (TookEl w B b bo bt to skip xs) := by
  obtain ⟨x0, x1⟩ := Byt.getD h.byt 0
  obtain ⟨y0, y1⟩ := Byt.getD h.byt 1
  obtain ⟨k, hk⟩ : ∃ k : Nat, xs.getD 1 0 = k := ⟨(xs.getD 1 0).toNat, by omega⟩
  have hle : lenOf xs = some (2, k) := by unfold lenOf; rw [if_pos hs, hk, Int.toNat_natCast]
  have hf : first xs = if xs.length < 2 + k then none else some (xs.getD 0 0, 2, 2 + k) := by
    unfold first
    rw [if_neg (by omega), hle]
  have TF := Lib.hid (fun W (hk' : Only [bt] w W) ht' => tail_facts (t0 := xs.getD 0 0) h ho hbt hbt2 hBt hk' ht')
  have HO := Lib.hid ho
  have HT := Lib.hid ht
  have ha := u8_and31 (xs.getD 0 0) x0 (by omega)
  have hb : bits .and .u8 (xs.getD 1 0) 128 = 0 := by
    rw [hk]
    have : ∀ k : Nat, k < 128 → bits .and .u8 (k : Int) 128 = 0 := by decide +kernel
    exact this k (by omega)
  have hne : (xs.getD 0 0 % 32 == 31) = false := by simpa using h31
  rw [hk] at hb
  obtain ⟨_, A, c, hv, hc, hm, hr⟩ := h
  obtain ⟨ab, aoff, rfl, _, hcells⟩ := hr.2 (by omega)
  have c0 := hcells 0 (by omega)
  have c1 := hcells 1 (by omega)
  rw [Nat.add_zero] at c0
  rw [hk] at c1
  have hcell := hv.cell
  have hct := ht.cell
  have hft := ht.free
  have hk127 : k ≤ 127 := by omega
  by_cases hfit : 2 + k ≤ xs.length
  · rw [if_neg (by omega)] at hf
    have TW := Lib.hid (fun W W2 h1 h2 h3 h4 h5 => took_whole (w := w) (W := W) (W2 := W2) (B := B) (b := b) (bo := bo) (bt := bt) (to := to) hf hbt hbt2 h1 h2 h3 h4 h5)
    have TS := Lib.hid (fun W W2 W3 h1 h2 h3 h4 h5 h6 => took_skip (w := w) (W := W) (W2 := W2) (W3 := W3) (B := B) (b := b) (bo := bo) (bt := bt) (to := to) hf hbo hbt hbt2 hBo h1 h2 h3 h4 h5 h6)
    have RB := Lib.hid (fun W h ho => SreadBytes_ok b bo ((k : Int) + 2) to vo xs W B h ho hbo hBo (by omega) (by omega) (.inl (by omega)))
    have hk2 : ((k : Int) + 2).toNat = 2 + k := by omega
    rw [hk2] at RB
    have SK := Lib.hid (fun W (h : Sl W B bo to (xs.take (2 + k))) => Sskip_ok bo 2 (xs.take (2 + k)) W B h (by decide) (by simp; omega) (.inl (by simp; omega)))
    rw [show (2 : Int).toNat = 2 from rfl] at SK
    clear hf hle ht ho hv hr hcells h31 hk hk2 hs y0 y1
    generalize xs.getD 0 0 = t at *
    cases skip
    all_goals
      go_enter Try.func54, Try.ntmps54
      go_wp2_with fail
      go_quiet (fail)
      go_wp2_with fail
      have K1 : Only [bt] w ((w.drewN nq).setCell ⟨bt, 0, none⟩ (.int .u8 t)) := ((Only.refl _ _).drewN nq).setCell (.inl (by simp)) _
      have K2 : Var ((w.drewN nq).setCell ⟨bt, 0, none⟩ (.int .u8 t)) bt 55 (.int .u8 t) := (HT.out.drewN nq).set _
      have H1 := Lib.hid K1
      have H2 := Lib.hid K2
      clear K1 K2
      refine (RB.out _ (TF.out _ H1.out H2.out).1 (TF.out _ H1.out H2.out).2.1).mono ?_
      rintro e w2 ⟨rfl, h3, h4, h5⟩
      have H3 := Lib.hid h3
      have H4 := Lib.hid h4
      have H5 := Lib.hid h5
      clear h3 h4 h5
      go_wp2_with fail
    · go_ret
      exact TW.out _ _ H1.out H2.out H3.out H4.out H5.out
    · refine (SK.out _ H3.out).mono ?_
      rintro e w3 ⟨rfl, h6, h7⟩
      have H6 := Lib.hid h6
      have H7 := Lib.hid h7
      clear h6 h7
      go_wp2_with fail
      go_ret
      exact TS.out _ _ _ H1.out H2.out H4.out H5.out H6.out H7.out
  · rw [if_pos (by omega)] at hf
    have TN := Lib.hid (fun W h => took_fail (B := B) (b := b) (bo := bo) (bt := bt) (to := to) (skip := skip) (W := W) ho x0 x1 hf h)
    have RB := Lib.hid (fun W h => SreadBytes_no b bo ((k : Int) + 2) xs W B h (.inr (by omega)))
    clear hf hle ht ho hv hr hcells h31 hk hs y0 y1
    generalize xs.getD 0 0 = t at *
    go_enter Try.func54, Try.ntmps54
    go_wp2_with fail
    go_quiet (fail)
    go_wp2_with fail
    have K1 : Only [bt] w ((w.drewN nq).setCell ⟨bt, 0, none⟩ (.int .u8 t)) := ((Only.refl _ _).drewN nq).setCell (.inl (by simp)) _
    have K2 : Var ((w.drewN nq).setCell ⟨bt, 0, none⟩ (.int .u8 t)) bt 55 (.int .u8 t) := (HT.out.drewN nq).set _
    have H1 := Lib.hid K1
    have H2 := Lib.hid K2
    clear K1 K2
    refine (RB.out _ (TF.out _ H1.out H2.out).1).mono ?_
    rintro e w2 ⟨rfl, hw2⟩
    have HW := Lib.hid hw2
    clear hw2
    go_wp2_with fail
    go_ret
    exact TN.out _ (HW.out ▸ TF.out _ H1.out H2.out)

theorem and128_hi : ∀ k : Nat, k < 256 → 128 ≤ k → bits .and .u8 (k : Int) 128 = 128 := by decide +kernel
theorem and127_hi : ∀ k : Nat, k < 128 → bits .and .u8 ((k + 128 : Nat) : Int) 127 = k := by decide +kernel

theorem SreadASN1_lbad (b bo bt : Nat) (to : TypeId) (vo : Value) (t0 : Int) (skip : Bool) (xs : List Int) (w : World) (B : Nat) (h : Sl w B b 53 xs) (ho : Var w bo to vo) (ht : Var w bt 55 (.int .u8 t0))
    (hbt : bt ≠ b) (hbt2 : bt ≠ bo) (hBt : B ≤ bt) (hn : xs.length ≤ 4194304) (hl : 2 ≤ xs.length) (h31 : xs.getD 0 0 % 32 ≠ 31) (m : Nat) (hm128 : m < 128) (hs : xs.getD 1 0 = ((m + 128 : Nat) : Int)) (hbad : m = 0 ∨ 4 < m ∨ xs.length < 2 + m) :
    Calls Try.prog 54 #[.pointer (some ⟨b, 0, none⟩), .pointer (some ⟨bo, 0, none⟩), .pointer (some ⟨bt, 0, none⟩), .bool skip] w (TookEl w B b bo bt to skip xs) := by
  obtain ⟨x0, x1⟩ := Byt.getD h.byt 0
  have hle : lenOf xs = none := by
    unfold lenOf
    rw [if_neg (by omega)]
    simp only
    rw [if_pos (by rw [hs]; omega)]
  have hf : first xs = none := by
    unfold first
    rw [if_neg (by omega), hle]
  have TF := Lib.hid (fun W (hk' : Only [bt] w W) ht' => tail_facts (t0 := xs.getD 0 0) h ho hbt hbt2 hBt hk' ht')
  have TN := Lib.hid (fun W h => took_fail (B := B) (b := b) (bo := bo) (bt := bt) (to := to) (skip := skip) (W := W) ho x0 x1 hf h)
  have HT := Lib.hid ht
  have ha := u8_and31 (xs.getD 0 0) x0 (by omega)
  have hb := and128_hi (m + 128) (by omega) (by omega)
  have hb7 := and127_hi m hm128
  have hne : (xs.getD 0 0 % 32 == 31) = false := by simpa using h31
  obtain ⟨_, A, c, hv, hc, hm, hr⟩ := h
  obtain ⟨ab, aoff, rfl, _, hcells⟩ := hr.2 (by omega)
  have c0 := hcells 0 (by omega)
  have c1 := hcells 1 (by omega)
  rw [Nat.add_zero] at c0
  rw [hs] at c1
  have hcell := hv.cell
  have hclater : ∀ n u o, (((w.drewN n).setCell ⟨bt, 0, none⟩ u).alloc o).cell? ⟨b, 0, none⟩ = some (.slice (some ⟨ab, aoff, none⟩) xs.length c) := fun n u o => (((hv.drewN n).far (p := ⟨bt, 0, none⟩) (fun e => hbt e.symm) u).alloc o).cell
  have hct := ht.cell
  have hft := ht.free
  clear hf hle ht ho hv hr hcells h31 hs
  generalize xs.getD 0 0 = t at *
  generalize hl0 : ((m + 128 : Nat) : Int) = l at *
  have HL0 := Lib.hid hl0
  clear hl0
  have hdone : ∀ W, Only [bt] w W → Var W bt 55 (.int .u8 t) → TookEl w B b bo bt to skip xs (.returned (.bool false)) W := fun W h1 h2 => TN.out W (TF.out W h1 h2)
  have HD := Lib.hid hdone
  clear hdone
  have hcase : (m : Int) = 0 ∨ (((m : Int) == 0) = false ∧ decide ((4 : Int) < m) = true) ∨ (((m : Int) == 0) = false ∧ decide ((4 : Int) < m) = false ∧ (m : Int) ≤ 4 ∧ decide ((xs.length : Int) < 2 + m) = true) := by
    rcases Nat.eq_zero_or_pos m with h0 | h0
    · left; omega
    · right
      by_cases h4 : 4 < m
      · left; simp; omega
      · right
        refine ⟨by simp; omega, by simp; omega, by omega, by simp; omega⟩
  rcases hcase with h0 | ⟨h0, h4⟩ | ⟨h0, h4, h4', h5⟩
  · have hq : ((m : Int) == 0) = true := by simpa using h0
    clear h0
    go_enter Try.func54, Try.ntmps54
    go_wp2_with fail
    go_quiet (fail)
    go_wp2_with fail
    go_ret
    exact HD.out _ ((((Only.refl _ _).drewN nq).setCell (.inl (by simp)) _).alloc _) (((HT.out.drewN nq).set _).alloc _)
  · go_enter Try.func54, Try.ntmps54
    go_wp2_with fail
    go_quiet (fail)
    go_wp2_with fail
    go_ret
    exact HD.out _ ((((Only.refl _ _).drewN nq).setCell (.inl (by simp)) _).alloc _) (((HT.out.drewN nq).set _).alloc _)
  · go_enter Try.func54, Try.ntmps54
    go_wp2_with fail
    go_quiet (fail)
    go_wp2_with fail
    go_ret
    exact HD.out _ ((((Only.refl _ _).drewN nq).setCell (.inl (by simp)) _).alloc _) (((HT.out.drewN nq).set _).alloc _)

end Go.Proofs.Ytndnglpehghmeaa

/-! ### The thin package's readers of numbers and bytes, by the package's own: contracts. -/
namespace Go.Proofs.Ytndnglpehghmeaa
open Go.RowKit

theorem Var.new' (w : World) (b : Nat) (t : TypeId) (v : Value) (h : b = w.heap.size) : Var (w.alloc (.cells #[v] t)) b t v := by subst h; exact Var.new w t v
/-- What a number reader of the thin package hands back: a value, what is left, whether it went well. -/
def Res3 (w : World) (v : Value) (ys : List Int) (ok : Bool) (e : Ending) (w' : World) : Prop :=
  ∃ A c, e = .returned (.tuple #[v, .slice A ys.length c, .bool ok]) ∧ Rd w' w'.heap.size A ys ∧ Only [] w w'












end Go.Proofs.Ytndnglpehghmeaa

/-! ### readASN1 at a long length: contract. -/
namespace Go.Proofs.Ytndnglpehghmeaa
open Go.RowKit

theorem SreadASN1_l (b bo bt : Nat) (to : TypeId) (vo : Value) (t0 : Int) (skip : Bool) (xs : List Int) (w : World) (B : Nat) (h : Sl w B b 53 xs) (ho : Var w bo to vo) (ht : Var w bt 55 (.int .u8 t0))
    (hbo : bo ≠ b) (hbt : bt ≠ b) (hbt2 : bt ≠ bo) (hBo : B ≤ bo) (hBt : B ≤ bt) (hn : xs.length ≤ 4194304) (hl : 2 ≤ xs.length) (h31 : xs.getD 0 0 % 32 ≠ 31) (m : Nat) (hm1 : 1 ≤ m) (hm4 : m ≤ 4) (hs : xs.getD 1 0 = ((m + 128 : Nat) : Int)) (hml : 2 + m ≤ xs.length) :
    Calls Try.prog 54 #[.pointer (some ⟨b, 0, none⟩), .pointer (some ⟨bo, 0, none⟩), .pointer (some ⟨bt, 0, none⟩), .bool skip] w (TookEl w B b bo bt to skip xs) := by
  obtain ⟨x0, x1⟩ := Byt.getD h.byt 0
  have hby := h.byt
  have hlow := h.low
  obtain ⟨v, hv0, hv1, hve⟩ : ∃ v, 0 ≤ v ∧ v < 4294967296 ∧ beN ((xs.drop 2).take m) = v := by
    have := beN_take_bd (xs.drop 2) (hby.drop 2) m 4 hm4
    have e : (256 : Int) ^ 4 = 4294967296 := by decide
    exact ⟨_, this.1, by omega, rfl⟩
  have FL := Lib.hid (first_long hl h31 hs hm1 hm4 hml hve)
  have TP := Lib.hid (long_top hby hm1 hm4 hml hve)
  have TF := Lib.hid (fun W (hk' : Only [bt] w W) ht' => tail_facts (t0 := xs.getD 0 0) h ho hbt hbt2 hBt hk' ht')
  have HO := Lib.hid ho
  have TN := Lib.hid (fun W hf h => took_fail (xs := xs) (B := B) (b := b) (bo := bo) (bt := bt) (to := to) (skip := skip) (W := W) ho x0 x1 hf h)
  have TW := Lib.hid (fun W W2 n hf h1 h2 h3 h4 h5 => took_whole (w := w) (W := W) (W2 := W2) (B := B) (b := b) (bo := bo) (bt := bt) (to := to) (xs := xs) (hd := 2 + m) (n := n) hf hbt hbt2 h1 h2 h3 h4 h5)
  have TS := Lib.hid (fun W W2 W3 n hf h1 h2 h3 h4 h5 h6 => took_skip (w := w) (W := W) (W2 := W2) (W3 := W3) (B := B) (b := b) (bo := bo) (bt := bt) (to := to) (xs := xs) (hd := 2 + m) (n := n) hf hbo hbt hbt2 hBo h1 h2 h3 h4 h5 h6)
  have HT := Lib.hid ht
  have ha := u8_and31 (xs.getD 0 0) x0 (by omega)
  have hb := and128_hi (m + 128) (by omega) (by omega)
  have hb7 := and127_hi m (by omega)
  have hne : (xs.getD 0 0 % 32 == 31) = false := by simpa using h31
  obtain ⟨hBb, A, c, hv, hc, hm, hr⟩ := h
  have hsub : ∀ W, Rd W B A xs → Rd W B (cutA A c 2) ((xs.drop 2).take m) := fun W hR => (hR.cut hc).take m
  obtain ⟨ab, aoff, rfl, habB, hcells⟩ := hr.2 (by omega)
  have hcut : cutA (some ⟨ab, aoff, none⟩) c 2 = some ⟨ab, aoff + 2, none⟩ := by unfold cutA; rw [if_neg (by omega)]; rfl
  rw [hcut] at hsub
  have c0 := hcells 0 (by omega)
  have c1 := hcells 1 (by omega)
  rw [Nat.add_zero] at c0
  rw [hs] at c1
  have hcell := hv.cell
  have hclater : ∀ n u o, (((w.drewN n).setCell ⟨bt, 0, none⟩ u).alloc o).cell? ⟨b, 0, none⟩ = some (.slice (some ⟨ab, aoff, none⟩) xs.length c) := fun n u o => (((hv.drewN n).far (p := ⟨bt, 0, none⟩) (fun e => hbt e.symm) u).alloc o).cell
  have hct := ht.cell
  have hft := ht.free
  have hm0 : ((m : Int) == 0) = false := by simp; omega
  have hm4' : decide ((4 : Int) < m) = false := by simp; omega
  have hm4'' : (m : Int) ≤ 4 := by omega
  have hml' : decide ((xs.length : Int) < 2 + m) = false := by simp; omega
  have hc2 : ¬ c = 2 := by omega
  have hcap : (2 : Int) + m ≤ c := by omega
  have hlen : ((xs.drop 2).take m).length = m := by simp; omega
  have HLEN := Lib.hid hlen
  clear hlen
  have HR := Lib.hid hr
  have HS := Lib.hid hsub
  have HL := Lib.hid hlow
  have HY := Lib.hid hby
  have HV := Lib.hid hve
  have HML := Lib.hid hml
  have HM1 := Lib.hid hm1
  have HM4 := Lib.hid hm4
  have HC := Lib.hid hc
  have HM := Lib.hid hm
  clear ht ho hv hr hcells h31 hs hsub hcut hlow hby hve hml hm1 hm4 hc hm habB hBb
  generalize xs.getD 0 0 = t at *
  generalize hl0 : ((m + 128 : Nat) : Int) = l at *
  have HL0 := Lib.hid hl0
  clear hl0
  go_enter Try.func54, Try.ntmps54
  go_wp2_with fail
  go_quiet (fail)
  go_wp2_with fail
  have hW1 : Only [bt] w ((((w.drewN nq).setCell ⟨bt, 0, none⟩ (.int .u8 t)).alloc (.cells #[.int .u32 0] 64)).alloc (.cells #[.slice (some ⟨ab, aoff + 2, none⟩) m (c - 2)] 53)) := ((((Only.refl _ _).drewN nq).setCell (.inl (by simp)) _).alloc _).alloc _
  have hWt : Var ((((w.drewN nq).setCell ⟨bt, 0, none⟩ (.int .u8 t)).alloc (.cells #[.int .u32 0] 64)).alloc (.cells #[.slice (some ⟨ab, aoff + 2, none⟩) m (c - 2)] 53)) bt 55 (.int .u8 t) := (((HT.out.drewN nq).set _).alloc _).alloc _
  have hWr : Rd ((((w.drewN nq).setCell ⟨bt, 0, none⟩ (.int .u8 t)).alloc (.cells #[.int .u32 0] 64)).alloc (.cells #[.slice (some ⟨ab, aoff + 2, none⟩) m (c - 2)] 53)) B (some ⟨ab, aoff + 2, none⟩) ((xs.drop 2).take m) := HS.out _ (HR.out.only hW1 (by simpa using hBt) HL.out)
  have HW1 := Lib.hid hW1
  have HWt := Lib.hid hWt
  have HWr := Lib.hid hWr
  clear hW1 hWt hWr
  refine (SreadUnsigned_ok (w.heap.size + 1) w.heap.size m (.int .u32 0) ((xs.drop 2).take m) _ B ⟨by have := HL.out; omega, some ⟨ab, aoff + 2, none⟩, c - 2, ?_, by rw [HLEN.out]; omega, by have := HM.out; unfold maxLen at *; omega, HWr.out⟩ ?_ (by omega) HL.out HM1.out HM4.out (by rw [HLEN.out]; exact Nat.le_refl _)).mono ?_
  · rw [HLEN.out]; exact Var.new' _ _ _ _ (by simp)
  · exact (Var.new' _ _ _ _ (by simp)).alloc _
  rintro e w3 ⟨rfl, hv32, _, ho3⟩
  have hee : beN (((xs.drop 2).take m).take m) = v := by rw [List.take_take, Nat.min_self]; exact HV.out
  rw [hee] at hv32
  have hc32 := hv32.cell
  have k3 : Only [bt] w w3 := HW1.out.then ho3 (by simp; omega)
  have t3 : Var w3 bt 55 (.int .u8 t) := HWt.out.only ho3 (by have := HT.out.lt; simp; omega)
  have H3 := Lib.hid (TF.out w3 k3 t3)
  have K3 := Lib.hid k3
  have T3 := Lib.hid t3
  clear hv32 ho3 hee k3 t3
  go_wp2_with fail
  · have hlt : v < 128 := by assumption
    go_ret
    exact TN.out _ (by rw [FL.out, if_pos (.inl hlt)]) H3.out
  · have hz : (v / 2 ^ (((m : Int) - 1) % 256 * 8 % 256).toNat == 0) = true := by assumption
    rw [TP.out, decide_eq_true_eq] at hz
    go_ret
    exact TN.out _ (by rw [FL.out, if_pos (.inr hz)]) H3.out
  · have hov : (2 + (m : Int) + v) % 4294967296 < v := by assumption
    go_ret
    refine TN.out _ ?_ H3.out
    rw [FL.out]
    split
    · rfl
    · rw [if_pos (by omega)]
  · have hz : (v / 2 ^ (((m : Int) - 1) % 256 * 8 % 256).toNat == 0) = false := by assumption
    have hge : 128 ≤ v := by assumption
    rw [TP.out, decide_eq_false_iff_not] at hz
    have hne2 : ¬ (v < 128 ∨ xs.getD 2 0 = 0) := by omega
    have FL2 := FL.out
    rw [if_neg hne2] at FL2
    by_cases hfit : 2 + m + v.toNat ≤ xs.length
    · rw [if_neg (by omega)] at FL2
      have HF := Lib.hid FL2
      have htn : (2 + (m : Int) + v).toNat = 2 + m + v.toNat := by omega
      have RB := Lib.hid (SreadBytes_ok b bo (2 + (m : Int) + v) to vo xs w3 B H3.out.1 H3.out.2.1 hbo hBo (by omega) (by omega) (.inl (by omega)))
      rw [htn] at RB
      clear FL2 htn hz
      refine RB.out.mono ?_
      rintro e w4 ⟨rfl, h4, h5, h6⟩
      have H4 := Lib.hid h4
      have H5 := Lib.hid h5
      have H6 := Lib.hid h6
      clear h4 h5 h6 RB
      cases skip
      · go_wp2_with fail
        go_ret
        exact TW.out _ _ _ HF.out K3.out T3.out H4.out H5.out H6.out
      · have SK := Lib.hid (Sskip_ok bo (2 + (m : Int)) (xs.take (2 + m + v.toNat)) w4 B H4.out (by omega) (by simp; omega) (.inl (by simp; omega)))
        rw [show (2 + (m : Int)).toNat = 2 + m by omega] at SK
        go_wp2_with fail
        refine SK.out.mono ?_
        rintro e w5 ⟨rfl, h7, h8⟩
        have H7 := Lib.hid h7
        have H8 := Lib.hid h8
        clear h7 h8 SK
        go_wp2_with fail
        go_ret
        exact TS.out _ _ _ _ HF.out K3.out T3.out H5.out H6.out H7.out H8.out
    · rw [if_pos (by omega)] at FL2
      have HN := Lib.hid (TN.out _ FL2 H3.out)
      have RB := Lib.hid (SreadBytes_no b bo (2 + (m : Int) + v) xs w3 B H3.out.1 (.inr (by omega)))
      clear FL2 hz
      refine RB.out.mono ?_
      rintro e w4 ⟨rfl, hw⟩
      have HW := Lib.hid hw
      clear hw RB
      go_wp2_with fail
      go_ret
      exact HW.out ▸ HN.out
end Go.Proofs.Ytndnglpehghmeaa

/-! ### Reading an element: any tag, a given tag; with its header or without: contracts. -/
namespace Go.Proofs.Ytndnglpehghmeaa
open Go.RowKit

theorem SreadASN1_any (b bo bt : Nat) (to : TypeId) (vo : Value) (t0 : Int) (skip : Bool) (xs : List Int) (w : World) (B : Nat) (h : Sl w B b 53 xs) (ho : Var w bo to vo) (ht : Var w bt 55 (.int .u8 t0)) (ht0 : 0 ≤ t0 ∧ t0 ≤ 255)
    (hbo : bo ≠ b) (hbt : bt ≠ b) (hbt2 : bt ≠ bo) (hBo : B ≤ bo) (hBt : B ≤ bt) (hn : xs.length ≤ 4194304) :
    Calls Try.prog 54 #[.pointer (some ⟨b, 0, none⟩), .pointer (some ⟨bo, 0, none⟩), .pointer (some ⟨bt, 0, none⟩), .bool skip] w (TookEl w B b bo bt to skip xs) := by
  by_cases hl : xs.length < 2
  · exact SreadASN1_short b bo bt to vo t0 skip xs w B h ho ht ht0 hl
  · by_cases h31 : xs.getD 0 0 % 32 = 31
    · exact SreadASN1_high b bo bt to vo t0 skip xs w B h ho ht ht0 (by omega) h31
    · by_cases hs : xs.getD 1 0 < 128
      · exact SreadASN1_s b bo bt to vo t0 skip xs w B h ho ht hbo hbt hbt2 hBo hBt hn (by omega) h31 hs
      · obtain ⟨y0, y1⟩ := Byt.getD h.byt 1
        obtain ⟨m, hm⟩ : ∃ m : Nat, xs.getD 1 0 = ((m + 128 : Nat) : Int) := ⟨(xs.getD 1 0 - 128).toNat, by omega⟩
        by_cases hbad : m = 0 ∨ 4 < m ∨ xs.length < 2 + m
        · exact SreadASN1_lbad b bo bt to vo t0 skip xs w B h ho ht hbt hbt2 hBt hn (by omega) h31 m (by omega) hm hbad
        · exact SreadASN1_l b bo bt to vo t0 skip xs w B h ho ht hbo hbt hbt2 hBo hBt hn (by omega) h31 m (by omega) (by omega) hm (by omega)

theorem SReadAnyASN1_any (b bo bt : Nat) (to : TypeId) (vo : Value) (t0 : Int) (xs : List Int) (w : World) (B : Nat) (h : Sl w B b 53 xs) (ho : Var w bo to vo) (ht : Var w bt 55 (.int .u8 t0)) (ht0 : 0 ≤ t0 ∧ t0 ≤ 255)
    (hbo : bo ≠ b) (hbt : bt ≠ b) (hbt2 : bt ≠ bo) (hBo : B ≤ bo) (hBt : B ≤ bt) (hn : xs.length ≤ 4194304) :
    Calls Try.prog 26 #[.pointer (some ⟨b, 0, none⟩), .pointer (some ⟨bo, 0, none⟩), .pointer (some ⟨bt, 0, none⟩)] w (TookEl w B b bo bt to true xs) := by
  have H := Lib.hid (SreadASN1_any b bo bt to vo t0 true xs w B h ho ht ht0 hbo hbt hbt2 hBo hBt hn)
  clear h ho ht ht0 hbo hbt hbt2 hBo hBt hn
  go_enter Try.func26, Try.ntmps26
  go_wp2_with fail
  refine H.out.mono ?_
  intro e w1 hT
  have HT := Lib.hid hT
  unfold TookEl at hT
  obtain ⟨_, hT⟩ := hT
  have he : (e = .returned (.bool true)) ∨ (e = .returned (.bool false)) := by
    revert hT
    cases first xs with
    | none => intro hT; exact .inr hT.1
    | some q => obtain ⟨t, h, n⟩ := q; intro hT; exact .inl hT.1
  clear hT H
  rcases he with rfl | rfl
  all_goals
    go_wp2_with fail
    go_ret
    exact HT.out


/-- What reading an element of a given tag leaves. -/
def TookTag (w : World) (B b bo : Nat) (to : TypeId) (skip : Bool) (tag : Int) (xs : List Int) (e : Ending) (w' : World) : Prop :=
  Only [b, bo] w w' ∧
  match first xs with
  | some (t, h, n) => e = .returned (.bool (decide (t = tag))) ∧ Sl w' B bo to (if skip then (xs.take n).drop h else xs.take n) ∧ Sl w' B b 53 (xs.drop n)
  | none => e = .returned (.bool false) ∧ (∃ vo, Var w bo to vo ∧ Var w' bo to vo) ∧ Sl w' B b 53 xs



end Go.Proofs.Ytndnglpehghmeaa

/-! ### The thin package's readers of bytes: contracts. -/
namespace Go.Proofs.Ytndnglpehghmeaa
open Go.RowKit

/-- What a reader of bytes hands back: bytes, what is left, whether it went well. -/
def ResBB (w : World) (xs ys : List Int) (ok : Bool) (e : Ending) (w' : World) : Prop :=
  ∃ A c A' c', e = .returned (.tuple #[.slice A xs.length c, .slice A' ys.length c', .bool ok]) ∧ Rd w' w'.heap.size A xs ∧ Rd w' w'.heap.size A' ys ∧ Only [] w w'
/-- What is left, and whether it went well. -/
def Res2 (w : World) (ys : List Int) (ok : Bool) (e : Ending) (w' : World) : Prop :=
  ∃ A c, e = .returned (.tuple #[.slice A ys.length c, .bool ok]) ∧ Rd w' w'.heap.size A ys ∧ Only [] w w'













end Go.Proofs.Ytndnglpehghmeaa

/-! ### The thin package's readers of elements: contracts. -/
namespace Go.Proofs.Ytndnglpehghmeaa
open Go.RowKit

theorem results_four {fn : Func} {t u v x : Tmp} (h : fn.results = #[.tmp t, .tmp u, .tmp v, .tmp x]) (tmps : Array Value) (P : Program) (w : World) :
    (results fn tmps).run P w = .ok (.tuple #[tmps.getD t undef, tmps.getD u undef, tmps.getD v undef, tmps.getD x undef]) w := by simp [results, h]
theorem own_fresh {w : World} {base e m : Nat} {A : Option Addr} {n c : Nat} {cs : List Value} (h : w.ownsRow base e 1 (.slice A n c) m cs) : ∀ p, A = some p → base ≤ p.block := by
  intro p hp
  rcases h.2 with ⟨hv, _⟩ | ⟨g, cap, cur, hv, hb, _⟩
  · injection hv with h1 _ _
    rw [h1] at hp
    cases hp
  · injection hv with h1 _ _
    rw [h1] at hp
    cases hp
    exact hb
/-- Bytes, a value, what is left, whether it went well. -/
def ResBVB (w : World) (xs : List Int) (v : Value) (ys : List Int) (ok : Bool) (e : Ending) (w' : World) : Prop :=
  ∃ A c A' c', e = .returned (.tuple #[.slice A xs.length c, v, .slice A' ys.length c', .bool ok]) ∧ Rd w' w'.heap.size A xs ∧ Rd w' w'.heap.size A' ys ∧ Only [] w w' ∧ (xs.length ≤ c ∧ c ≤ maxLen) ∧ (ys.length ≤ c' ∧ c' ≤ maxLen) ∧ (∀ p, A = some p → w.heap.size ≤ p.block) ∧ (∀ p, A' = some p → w.heap.size ≤ p.block)

set_option maxHeartbeats 800000 in
theorem ImReadAny_ok (A : Option Addr) (n c : Nat) (xs : List Int) (w : World) (B : Nat) (h : Rd w B A xs) (hn : n = xs.length) (hb : xs.length ≤ 4194304) (t : Int) (hd e : Nat) (hf : first xs = some (t, hd, e)) :
    Calls Try.prog 12 #[.slice A n c] w (ResBVB w ((xs.take e).drop hd) (.int .i64 t) (xs.drop e) true) := by
  have H := Lib.hid (str_any A n c xs w B h hn (by omega))
  have hby := h.byt
  obtain ⟨f1, f2, f3, f4, f5, f6⟩ := first_le hf
  obtain ⟨x0, x1⟩ := Byt.getD hby 0
  rw [← f5] at x0 x1
  have hw : IntKind.i64.wrap t = t := IntWalk.i64_in _ (by omega)
  obtain ⟨zs, hzs⟩ : ∃ zs, (xs.take e).drop hd = zs := ⟨_, rfl⟩
  rw [hzs]
  have HYO := Lib.hid (hzs ▸ (hby.take _).drop _ : Byt zs)
  have HLO := Lib.hid (show zs.length ≤ 140737488355328 by rw [← hzs]; simp; omega)
  have Ezs := Lib.hid hzs
  obtain ⟨ys, hys⟩ : ∃ ys, xs.drop e = ys := ⟨_, rfl⟩
  rw [hys]
  have HYB := Lib.hid (hys ▸ hby.drop _ : Byt ys)
  have HLY := Lib.hid (show ys.length ≤ 140737488355328 by rw [← hys]; simp; omega)
  have Eys := Lib.hid hys
  clear hzs
  clear hys
  have HF := Lib.hid hf
  clear hf f5 f6 f1 f2 f3 f4
  have HY := Lib.hid hby
  have HB := Lib.hid hb
  clear h hn hb hby
  go_enter Try.func12, Try.ntmps12
  go_wp2_with fail
  refine H.out.mono ?_
  rintro e w1 ⟨A1, c1, rfl, hc1, hm1, hown, hk1⟩
  have R1 := Lib.hid (Rd.of_own HY.out hown)
  have K1 := Lib.hid hk1
  clear hown hk1 H
  go_wp2_with fail
  refine (SReadAnyASN1_any w1.heap.size (w1.heap.size + 1) (w1.heap.size + 2) 53 (.slice none 0 0) 0 xs _ w1.heap.size ?s0 ?s1 ?s2 (by decide) (by omega) (by omega) (by omega) (by omega) (by omega) HB.out).mono ?_
  case s0 => exact ⟨Nat.le_refl _, A1, c1, ((Var.new _ _ _).alloc _).alloc _, hc1, hm1, ((R1.out.alloc (Nat.le_refl _) _).alloc (by simp <;> omega) _).alloc (by simp <;> omega) _⟩
  case s1 => exact (Var.new' _ _ _ _ (by simp)).alloc _
  case s2 => exact Var.new' _ _ _ _ (by simp)
  rintro e w2 hT
  unfold TookEl at hT
  rw [HF.out] at hT
  obtain ⟨ho2, rfl, hvt, hso, hs2⟩ := hT
  simp only [if_true] at hso
  have hk2 : Only [] w w2 := (((K1.out.alloc _).alloc _).alloc _).then ho2 (by have := K1.out.size; simp; omega)
  rw [Eys.out] at hs2
  rw [Ezs.out] at hso
  obtain ⟨_, Ao, co, hvo, hco, hmo, hro⟩ := hso
  have RO := Lib.hid hro
  clear hro
  obtain ⟨_, A2, c2, hvi, hc2, hm2, hr2⟩ := hs2
  have hci := hvi.cell
  have LI := Lib.hid hvi.lt
  have R2 := Lib.hid hr2
  have K2 := Lib.hid hk2
  have hco1 := hvo.cell
  have LO1 := Lib.hid hvo.lt
  have hco2 := hvt.cell
  have LO2 := Lib.hid hvt.lt
  clear hr2 hk2 hvi ho2 hvo hvt
  go_wp2_with fail
  go_region_held3 (fun w' => w'.cell? ⟨w1.heap.size, 0, none⟩ = some (.slice A2 ys.length c2) ∧ w'.cell? ⟨w1.heap.size + 1, 0, none⟩ = some (.slice Ao zs.length co) ∧ w'.cell? ⟨w1.heap.size + 2, 0, none⟩ = some (.int .u8 t)) (first | exact ⟨hci, hco1, hco2⟩ | exact ⟨hciw3, hco1w3, hco2w3⟩ | exact ⟨hciw4, hco1w4, hco2w4⟩) (first | (go_at_call 24; have hq : Rd w2.drew w1.heap.size Ao zs := RO.out.drew; (with_reducible refine (copied_any Ao _ co zs w2.drew w1.heap.size hq rfl HLO.out).mono ?_); clear hq; rintro e w3 ⟨A3, c3, rfl, hc3, hm3, hown3, hk3⟩; have hciw3 := (hk3.cell (p := ⟨w1.heap.size, 0, none⟩) LI.out (by simp)).trans hci; have hco1w3 := (hk3.cell (p := ⟨w1.heap.size + 1, 0, none⟩) LO1.out (by simp)).trans hco1; have hco2w3 := (hk3.cell (p := ⟨w1.heap.size + 2, 0, none⟩) LO2.out (by simp)).trans hco2; have R3n := Lib.hid (Rd.of_own HYO.out hown3); have F3n := Lib.hid (own_fresh hown3); have K3 := Lib.hid hk3; clear hown3 hk3) | (go_at_call 24; have hq : Rd w3 w1.heap.size A2 ys := R2.out.drew.only K3.out (by simp) (Nat.le_of_lt LI.out); (with_reducible refine (copied_any A2 _ c2 ys w3 w1.heap.size hq rfl HLY.out).mono ?_); clear hq; rintro e w4 ⟨A4, c4, rfl, hc4, hm4, hown4, hk4⟩; have hciw4 := (hk4.cell (p := ⟨w1.heap.size, 0, none⟩) (Nat.lt_of_lt_of_le LI.out K3.out.size) (by simp)).trans hciw3; have hco1w4 := (hk4.cell (p := ⟨w1.heap.size + 1, 0, none⟩) (Nat.lt_of_lt_of_le LO1.out K3.out.size) (by simp)).trans hco1w3; have hco2w4 := (hk4.cell (p := ⟨w1.heap.size + 2, 0, none⟩) (Nat.lt_of_lt_of_le LO2.out K3.out.size) (by simp)).trans hco2w3; have R4n := Lib.hid (Rd.of_own HYB.out hown4); have F4n := Lib.hid (own_fresh hown4); have K4 := Lib.hid hk4; clear hown4 hk4))
  all_goals
    go_wp2
    refine bodyPost_ret (results_four rfl _ _ _) rfl ?_
    exact ⟨A3, c3, A4, c4, rfl, (R3n.out.only K4.out (by simp) (Nat.le_refl _)).more K4.out.size, R4n.out, (K2.out.drew.trans K3.out).trans K4.out, ⟨hc3, hm3⟩, ⟨hc4, hm4⟩, fun p e => Nat.le_trans K2.out.size (F3n.out p e), fun p e => Nat.le_trans (Nat.le_trans K2.out.size K3.out.size) (F4n.out p e)⟩

set_option maxHeartbeats 800000 in
theorem ImReadAny_no (A : Option Addr) (n c : Nat) (xs : List Int) (w : World) (B : Nat) (h : Rd w B A xs) (hn : n = xs.length) (hb : xs.length ≤ 4194304) (hf : first xs = none) :
    Calls Try.prog 12 #[.slice A n c] w (fun e w2 => ∃ t, ResBVB w [] (.int .i64 t) xs false e w2) := by
  have H := Lib.hid (str_any A n c xs w B h hn (by omega))
  have hby := h.byt
  have HLY := Lib.hid (show xs.length ≤ 140737488355328 by omega)
  have HYB := Lib.hid hby
  have HLO := Lib.hid (show ([] : List Int).length ≤ 140737488355328 by simp)
  have HYO := Lib.hid Byt.nil
  have HF := Lib.hid hf
  clear hf
  have HY := Lib.hid hby
  have HB := Lib.hid hb
  clear h hn hb hby
  go_enter Try.func12, Try.ntmps12
  go_wp2_with fail
  refine H.out.mono ?_
  rintro e w1 ⟨A1, c1, rfl, hc1, hm1, hown, hk1⟩
  have R1 := Lib.hid (Rd.of_own HY.out hown)
  have K1 := Lib.hid hk1
  clear hown hk1 H
  go_wp2_with fail
  refine (SReadAnyASN1_any w1.heap.size (w1.heap.size + 1) (w1.heap.size + 2) 53 (.slice none 0 0) 0 xs _ w1.heap.size ?s0 ?s1 ?s2 (by decide) (by omega) (by omega) (by omega) (by omega) (by omega) HB.out).mono ?_
  case s0 => exact ⟨Nat.le_refl _, A1, c1, ((Var.new _ _ _).alloc _).alloc _, hc1, hm1, ((R1.out.alloc (Nat.le_refl _) _).alloc (by simp <;> omega) _).alloc (by simp <;> omega) _⟩
  case s1 => exact (Var.new' _ _ _ _ (by simp)).alloc _
  case s2 => exact Var.new' _ _ _ _ (by simp)
  rintro e w2 hT
  unfold TookEl at hT
  rw [HF.out] at hT
  obtain ⟨ho2, rfl, ⟨t, t0, t1, hvt⟩, ⟨vo, hvo1, hvo⟩, hs2⟩ := hT
  have hvn : vo = .slice none 0 0 := by
    have h1 : Var _ (w1.heap.size + 1) 53 (.slice none 0 0) := (Var.new' (w1.alloc (.cells #[.slice A1 xs.length c1] 53)) (w1.heap.size + 1) 53 (.slice none 0 0) (by simp)).alloc (.cells #[.int .u8 0] 55)
    unfold Var at h1 hvo1
    rw [hvo1] at h1
    simpa using h1
  rw [hvn] at hvo
  have hw : IntKind.i64.wrap t = t := IntWalk.i64_in _ (by omega)
  clear hvo1 hvn
  have hk2 : Only [] w w2 := (((K1.out.alloc _).alloc _).alloc _).then ho2 (by have := K1.out.size; simp; omega)
  have hrn := Rd.nil w2 w1.heap.size none
  have RO := Lib.hid hrn
  clear hrn
  obtain ⟨_, A2, c2, hvi, hc2, hm2, hr2⟩ := hs2
  have hci := hvi.cell
  have LI := Lib.hid hvi.lt
  have R2 := Lib.hid hr2
  have K2 := Lib.hid hk2
  have hco1 := hvo.cell
  have LO1 := Lib.hid hvo.lt
  have hco2 := hvt.cell
  have LO2 := Lib.hid hvt.lt
  clear hr2 hk2 hvi ho2 hvo hvt
  go_wp2_with fail
  go_region_held3 (fun w' => w'.cell? ⟨w1.heap.size, 0, none⟩ = some (.slice A2 xs.length c2) ∧ w'.cell? ⟨w1.heap.size + 1, 0, none⟩ = some (.slice none 0 0) ∧ w'.cell? ⟨w1.heap.size + 2, 0, none⟩ = some (.int .u8 t)) (first | exact ⟨hci, hco1, hco2⟩ | exact ⟨hciw3, hco1w3, hco2w3⟩ | exact ⟨hciw4, hco1w4, hco2w4⟩) (first | (go_at_call 24; have hq : Rd w2.drew w1.heap.size none [] := RO.out.drew; (with_reducible refine (copied_any none 0 0 [] w2.drew w1.heap.size hq rfl HLO.out).mono ?_); clear hq; rintro e w3 ⟨A3, c3, rfl, hc3, hm3, hown3, hk3⟩; have hciw3 := (hk3.cell (p := ⟨w1.heap.size, 0, none⟩) LI.out (by simp)).trans hci; have hco1w3 := (hk3.cell (p := ⟨w1.heap.size + 1, 0, none⟩) LO1.out (by simp)).trans hco1; have hco2w3 := (hk3.cell (p := ⟨w1.heap.size + 2, 0, none⟩) LO2.out (by simp)).trans hco2; have R3n := Lib.hid (Rd.of_own HYO.out hown3); have F3n := Lib.hid (own_fresh hown3); have K3 := Lib.hid hk3; clear hown3 hk3) | (go_at_call 24; have hq : Rd w3 w1.heap.size A2 xs := R2.out.drew.only K3.out (by simp) (Nat.le_of_lt LI.out); (with_reducible refine (copied_any A2 _ c2 xs w3 w1.heap.size hq rfl HLY.out).mono ?_); clear hq; rintro e w4 ⟨A4, c4, rfl, hc4, hm4, hown4, hk4⟩; have hciw4 := (hk4.cell (p := ⟨w1.heap.size, 0, none⟩) (Nat.lt_of_lt_of_le LI.out K3.out.size) (by simp)).trans hciw3; have hco1w4 := (hk4.cell (p := ⟨w1.heap.size + 1, 0, none⟩) (Nat.lt_of_lt_of_le LO1.out K3.out.size) (by simp)).trans hco1w3; have hco2w4 := (hk4.cell (p := ⟨w1.heap.size + 2, 0, none⟩) (Nat.lt_of_lt_of_le LO2.out K3.out.size) (by simp)).trans hco2w3; have R4n := Lib.hid (Rd.of_own HYB.out hown4); have F4n := Lib.hid (own_fresh hown4); have K4 := Lib.hid hk4; clear hown4 hk4))
  all_goals
    go_wp2
    refine bodyPost_ret (results_four rfl _ _ _) rfl ?_
    exact ⟨t, A3, c3, A4, c4, rfl, (R3n.out.only K4.out (by simp) (Nat.le_refl _)).more K4.out.size, R4n.out, (K2.out.drew.trans K3.out).trans K4.out, ⟨hc3, hm3⟩, ⟨hc4, hm4⟩, fun p e => Nat.le_trans K2.out.size (F3n.out p e), fun p e => Nat.le_trans (Nat.le_trans K2.out.size K3.out.size) (F4n.out p e)⟩


end Go.Proofs.Ytndnglpehghmeaa
