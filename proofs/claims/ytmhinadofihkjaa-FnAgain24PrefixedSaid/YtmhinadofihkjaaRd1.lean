/- The package's String: read as the callers meet it, Skip, ReadBytes, and the numbers: contracts. -/
import Derived.Test.YtmhinadofihkjaaStr
import Derived.Test.YtmhinadofihkjaaNum
import Derived.Laws.BitsAllLaws
import Derived.StillTailTactics
namespace Go.Proofs.Ytmhinadofihkjaa
open Go.RowKit

/-- The variable's slice is not nil. -/
def NN (w : World) (b : Nat) : Prop := ∃ t ad n c, Var w b t (.slice (some ad) n c)
theorem NN.only {w w' : World} {l : List Nat} {b : Nat} (h : NN w b) (ho : Only l w w') (hb : b ∉ l) : NN w' b := by
  obtain ⟨t, ad, n, c, h⟩ := h
  exact ⟨t, ad, n, c, h.only ho hb⟩
/-- What 'read' of k bytes leaves: a slice of the first k, the variable at the rest. -/
def Took (t : TypeId) (w : World) (B b k : Nat) (xs : List Int) (e : Ending) (w' : World) : Prop :=
  ∃ A c, e = .returned (.slice A k c) ∧ k ≤ c ∧ c ≤ maxLen ∧ (0 < xs.length ∨ NN w b → (∃ ad, A = some ad) ∧ NN w' b) ∧ Rd w' B A (xs.take k) ∧ Sl w' B b t (xs.drop k) ∧ Only [b] w w'

theorem read_sl {t : TypeId} (b : Nat) (k : Int) (xs : List Int) (w : World) (B : Nat) (h : Sl w B b t xs) (h0 : 0 ≤ k) (h1 : k ≤ (xs.length : Int)) :
    Calls Try.prog 62 #[.pointer (some ⟨b, 0, none⟩), .int .i64 k] w (Took t w B b k.toNat xs) := by
  have hlow := h.low
  obtain ⟨hBb, A, c, hv, hc, hm, hr⟩ := h
  refine (read_ok b A xs.length c k w hv h0 h1 hc hm).mono ?_
  rintro e w' ⟨rfl, rfl⟩
  have hk : k.toNat ≤ xs.length := by omega
  have hset := hv.set (.slice (cutA A c k.toNat) (xs.length - k.toNat) (c - k.toNat))
  refine ⟨A, c, rfl, by omega, hm, fun hp => ?_, (hr.take _).setCell hBb _, ⟨hBb, cutA A c k.toNat, c - k.toNat, ?_, ?_, by unfold maxLen at *; omega, (hr.cut hc).setCell hBb _⟩, (Only.refl _ _).setCell (.inl (by simp)) _⟩
  · have hs : ∃ ad, A = some ad := by
      rcases hp with hp | ⟨_, ad, n, c', hv'⟩
      · obtain ⟨b', off, e, _⟩ := hr.2 hp
        exact ⟨_, e⟩
      · unfold Var at hv hv'
        rw [hv] at hv'
        simp only [Option.some.injEq, Obj.cells.injEq] at hv'
        have := hv'.1
        simp at this
        exact ⟨ad, this.1⟩
    obtain ⟨ad, rfl⟩ := hs
    refine ⟨⟨_, rfl⟩, ?_⟩
    have he : ∃ ad', cutA (some ad) c k.toNat = some ad' := by unfold cutA; split <;> exact ⟨_, rfl⟩
    obtain ⟨ad', he⟩ := he
    rw [he] at hset ⊢
    exact ⟨_, ad', _, _, hset⟩
  · simpa using hset
  · simp; omega

theorem read_sl_no {t : TypeId} (b : Nat) (k : Int) (xs : List Int) (w : World) (B : Nat) (h : Sl w B b t xs) (hk : k < 0 ∨ (xs.length : Int) < k) :
    Calls Try.prog 62 #[.pointer (some ⟨b, 0, none⟩), .int .i64 k] w fun e w' => e = .returned (.slice none 0 0) ∧ w = w' := by
  obtain ⟨_, A, c, hv, _⟩ := h
  exact read_no b A xs.length c k w hv hk

/-- The first bytes of a slice, cell by cell. -/
theorem Rd.cells {w : World} {B k : Nat} {A : Option Addr} {xs : List Int} (h : Rd w B A (xs.take k)) (hk : k ≤ xs.length) (h0 : 0 < k) : ∃ b off, A = some ⟨b, off, none⟩ ∧ b < B ∧ ∀ i, i < k → w.cell? ⟨b, off + i, none⟩ = some (.int .u8 (xs.getD i 0)) := by
  have hl : (xs.take k).length = k := by simp; omega
  obtain ⟨b, off, e, hb, hc⟩ := h.2 (by omega)
  refine ⟨b, off, e, hb, fun i hi => ?_⟩
  rw [hc i (by omega)]
  simp [List.getD_eq_getElem?_getD, hi]

/-! ### Skip, ReadBytes -/




/-! ### numbers -/
/-- What reading a number leaves: the number in the variable, the rest. -/
def Told (w : World) (B b bo k : Nat) (to : TypeId) (v : Value) (xs : List Int) (e : Ending) (w' : World) : Prop :=
  e = .returned (.bool true) ∧ Var w' bo to v ∧ Sl w' B b 58 (xs.drop k) ∧ Only [b, bo] w w'

/-! Two numbers, the second below the first's lowest bit, joined by 'or'. -/
theorem or_join_u16 (a b : Int) (i m : Nat) (e : m = 2 ^ i) (ha : 0 ≤ a ∧ a < 65536) (hm : a % (m : Int) = 0) (hb : 0 ≤ b) (hb2 : b < (m : Int)) (hb3 : b < 65536) : bits .or .u16 a b = a + b := by
  obtain ⟨a, rfl⟩ := Int.eq_ofNat_of_zero_le ha.1
  obtain ⟨b, rfl⟩ := Int.eq_ofNat_of_zero_le hb
  have hm' : a % m = 0 := by omega
  rw [u16_or_nat a b (by omega) (by omega), nat_join i a b (e ▸ hm') (e ▸ (by omega))]
  omega
theorem or_join_u32 (a b : Int) (i m : Nat) (e : m = 2 ^ i) (ha : 0 ≤ a ∧ a < 4294967296) (hm : a % (m : Int) = 0) (hb : 0 ≤ b) (hb2 : b < (m : Int)) (hb3 : b < 4294967296) : bits .or .u32 a b = a + b := by
  obtain ⟨a, rfl⟩ := Int.eq_ofNat_of_zero_le ha.1
  obtain ⟨b, rfl⟩ := Int.eq_ofNat_of_zero_le hb
  have hm' : a % m = 0 := by omega
  rw [u32_or_nat a b (by omega) (by omega), nat_join i a b (e ▸ hm') (e ▸ (by omega))]
  omega
theorem or_join_u64 (a b : Int) (i m : Nat) (e : m = 2 ^ i) (ha : 0 ≤ a ∧ a < 18446744073709551616) (hm : a % (m : Int) = 0) (hb : 0 ≤ b) (hb2 : b < (m : Int)) (hb3 : b < 18446744073709551616) : bits .or .u64 a b = a + b := by
  obtain ⟨a, rfl⟩ := Int.eq_ofNat_of_zero_le ha.1
  obtain ⟨b, rfl⟩ := Int.eq_ofNat_of_zero_le hb
  have hm' : a % m = 0 := by omega
  rw [u64_or_nat a b (by omega) (by omega), nat_join i a b (e ▸ hm') (e ▸ (by omega))]
  omega

theorem wrap_id_u16 (x : Int) (h0 : 0 ≤ x) (h1 : x < 65536) : IntKind.u16.wrap x = x := by simp [IntKind.wrap, IntKind.bits, IntKind.signed]; omega
theorem wrap_id_u32 (x : Int) (h0 : 0 ≤ x) (h1 : x < 4294967296) : IntKind.u32.wrap x = x := by simp [IntKind.wrap, IntKind.bits, IntKind.signed]; omega
theorem wrap_id_u64 (x : Int) (h0 : 0 ≤ x) (h1 : x < 18446744073709551616) : IntKind.u64.wrap x = x := by simp [IntKind.wrap, IntKind.bits, IntKind.signed]; omega




theorem SReadUint16_ok (b bo : Nat) (vo : Value) (xs : List Int) (w : World) (B : Nat) (h : Sl w B b 58 xs) (ho : Var w bo 53 vo) (hne : bo ≠ b) (hB : B ≤ bo) (hl : 2 ≤ xs.length) :
    Calls Try.prog 42 #[.pointer (some ⟨b, 0, none⟩), .pointer (some ⟨bo, 0, none⟩)] w (Told w B b bo 2 53 (.int .u16 (beN (xs.take 2))) xs) := by
  have H := Lib.hid (read_sl b 2 xs w B h (by decide) (by omega))
  have hby := h.byt
  obtain ⟨p0, q0⟩ := Byt.getD hby 0
  obtain ⟨p1, q1⟩ := Byt.getD hby 1
  have hval : beN (xs.take 2) = xs.getD 0 0 * 256 + xs.getD 1 0 := by
    obtain ⟨x0, x1, t, rfl⟩ : ∃ x0 x1 t, xs = x0 :: x1 :: t := by
      match xs, hl with
      | x0 :: x1 :: t, _ => exact ⟨x0, x1, t, rfl⟩
    (simp [beN] <;> omega)
  rw [hval]
  clear hval
  have HL := Lib.hid hl
  clear h hl
  go_enter Try.func42, Try.ntmps42
  go_wp2_with fail
  refine H.out.mono ?_
  rintro e w1 ⟨A, c, rfl, hc, hm, hA, hr, hs, hk⟩
  obtain ⟨ab, aoff, rfl, hab, hcells⟩ := Rd.cells hr HL.out (by decide)
  have c0 := hcells 0 (by decide)
  have c1 := hcells 1 (by decide)
  rw [Nat.add_zero] at c0
  have hv := ho.only hk (by simpa using hne)
  have hcell := hv.cell
  have hfree := hv.free
  have hfin : ∀ u, Told w B b bo 2 53 u xs (.returned (.bool true)) (w1.setCell ⟨bo, 0, none⟩ u).drew := fun u =>
    ⟨rfl, (hv.set u), (hs.far (fun e => hne e.symm) hB u), ((hk.more (by simp)).setCell (.inl (by simp)) u).drew⟩
  have K := Lib.hid hfin
  clear hfin hs hk hr hv ho H hA hcells hby hB hne
  generalize xs.getD 0 0 = x0 at *
  generalize xs.getD 1 0 = x1 at *
  have ww0 := wrap_id_u16 x0 (by omega) (by omega)
  have ww1 := wrap_id_u16 x1 (by omega) (by omega)
  have s0 := wrap_id_u16 (x0 * 256) (by omega) (by omega)
  have e1 : bits .or .u16 (x0 * 256) (x1) = x0 * 256 + x1 := or_join_u16 _ _ 8 256 rfl (by omega) (by omega) (by omega) (by omega) (by omega)
  go_wp2
  go_still_tail 12, (by kernel_rfl)
  change wpList _ _ _ _ _ w1.drew
  go_wp2
  go_ret
  exact K.out _

theorem SReadUint16_no (b bo : Nat) (xs : List Int) (w : World) (B : Nat) (h : Sl w B b 58 xs) (hl : xs.length < 2) :
    Calls Try.prog 42 #[.pointer (some ⟨b, 0, none⟩), .pointer (some ⟨bo, 0, none⟩)] w fun e w' => e = .returned (.bool false) ∧ w = w' := by
  have H := Lib.hid (read_sl_no b 2 xs w B h (by omega))
  clear h hl
  go_enter Try.func42, Try.ntmps42
  go_wp2_with fail
  refine H.out.mono ?_
  rintro e w1 ⟨rfl, rfl⟩
  go_wp2
  go_ret
  exact ⟨rfl, rfl⟩



theorem SReadUint32_ok (b bo : Nat) (vo : Value) (xs : List Int) (w : World) (B : Nat) (h : Sl w B b 58 xs) (ho : Var w bo 56 vo) (hne : bo ≠ b) (hB : B ≤ bo) (hl : 4 ≤ xs.length) :
    Calls Try.prog 44 #[.pointer (some ⟨b, 0, none⟩), .pointer (some ⟨bo, 0, none⟩)] w (Told w B b bo 4 56 (.int .u32 (beN (xs.take 4))) xs) := by
  have H := Lib.hid (read_sl b 4 xs w B h (by decide) (by omega))
  have hby := h.byt
  obtain ⟨p0, q0⟩ := Byt.getD hby 0
  obtain ⟨p1, q1⟩ := Byt.getD hby 1
  obtain ⟨p2, q2⟩ := Byt.getD hby 2
  obtain ⟨p3, q3⟩ := Byt.getD hby 3
  have hval : beN (xs.take 4) = xs.getD 0 0 * 16777216 + xs.getD 1 0 * 65536 + xs.getD 2 0 * 256 + xs.getD 3 0 := by
    obtain ⟨x0, x1, x2, x3, t, rfl⟩ : ∃ x0 x1 x2 x3 t, xs = x0 :: x1 :: x2 :: x3 :: t := by
      match xs, hl with
      | x0 :: x1 :: x2 :: x3 :: t, _ => exact ⟨x0, x1, x2, x3, t, rfl⟩
    (simp [beN] <;> omega)
  rw [hval]
  clear hval
  have HL := Lib.hid hl
  clear h hl
  go_enter Try.func44, Try.ntmps44
  go_wp2_with fail
  refine H.out.mono ?_
  rintro e w1 ⟨A, c, rfl, hc, hm, hA, hr, hs, hk⟩
  obtain ⟨ab, aoff, rfl, hab, hcells⟩ := Rd.cells hr HL.out (by decide)
  have c0 := hcells 0 (by decide)
  have c1 := hcells 1 (by decide)
  have c2 := hcells 2 (by decide)
  have c3 := hcells 3 (by decide)
  rw [Nat.add_zero] at c0
  have hv := ho.only hk (by simpa using hne)
  have hcell := hv.cell
  have hfree := hv.free
  have hfin : ∀ u, Told w B b bo 4 56 u xs (.returned (.bool true)) (w1.setCell ⟨bo, 0, none⟩ u).drew := fun u =>
    ⟨rfl, (hv.set u), (hs.far (fun e => hne e.symm) hB u), ((hk.more (by simp)).setCell (.inl (by simp)) u).drew⟩
  have K := Lib.hid hfin
  clear hfin hs hk hr hv ho H hA hcells hby hB hne
  generalize xs.getD 0 0 = x0 at *
  generalize xs.getD 1 0 = x1 at *
  generalize xs.getD 2 0 = x2 at *
  generalize xs.getD 3 0 = x3 at *
  have ww0 := wrap_id_u32 x0 (by omega) (by omega)
  have ww1 := wrap_id_u32 x1 (by omega) (by omega)
  have ww2 := wrap_id_u32 x2 (by omega) (by omega)
  have ww3 := wrap_id_u32 x3 (by omega) (by omega)
  have s0 := wrap_id_u32 (x0 * 16777216) (by omega) (by omega)
  have s1 := wrap_id_u32 (x1 * 65536) (by omega) (by omega)
  have s2 := wrap_id_u32 (x2 * 256) (by omega) (by omega)
  have e1 : bits .or .u32 (x0 * 16777216) (x1 * 65536) = x0 * 16777216 + x1 * 65536 := or_join_u32 _ _ 24 16777216 rfl (by omega) (by omega) (by omega) (by omega) (by omega)
  have e2 : bits .or .u32 (x0 * 16777216 + x1 * 65536) (x2 * 256) = x0 * 16777216 + x1 * 65536 + x2 * 256 := or_join_u32 _ _ 16 65536 rfl (by omega) (by omega) (by omega) (by omega) (by omega)
  have e3 : bits .or .u32 (x0 * 16777216 + x1 * 65536 + x2 * 256) (x3) = x0 * 16777216 + x1 * 65536 + x2 * 256 + x3 := or_join_u32 _ _ 8 256 rfl (by omega) (by omega) (by omega) (by omega) (by omega)
  go_wp2
  go_still_tail 24, (by kernel_rfl)
  change wpList _ _ _ _ _ w1.drew
  go_wp2
  go_ret
  exact K.out _

theorem SReadUint32_no (b bo : Nat) (xs : List Int) (w : World) (B : Nat) (h : Sl w B b 58 xs) (hl : xs.length < 4) :
    Calls Try.prog 44 #[.pointer (some ⟨b, 0, none⟩), .pointer (some ⟨bo, 0, none⟩)] w fun e w' => e = .returned (.bool false) ∧ w = w' := by
  have H := Lib.hid (read_sl_no b 4 xs w B h (by omega))
  clear h hl
  go_enter Try.func44, Try.ntmps44
  go_wp2_with fail
  refine H.out.mono ?_
  rintro e w1 ⟨rfl, rfl⟩
  go_wp2
  go_ret
  exact ⟨rfl, rfl⟩



theorem SReadUint64_ok (b bo : Nat) (vo : Value) (xs : List Int) (w : World) (B : Nat) (h : Sl w B b 58 xs) (ho : Var w bo 27 vo) (hne : bo ≠ b) (hB : B ≤ bo) (hl : 8 ≤ xs.length) :
    Calls Try.prog 45 #[.pointer (some ⟨b, 0, none⟩), .pointer (some ⟨bo, 0, none⟩)] w (Told w B b bo 8 27 (.int .u64 (beN (xs.take 8))) xs) := by
  have H := Lib.hid (read_sl b 8 xs w B h (by decide) (by omega))
  have hby := h.byt
  obtain ⟨p0, q0⟩ := Byt.getD hby 0
  obtain ⟨p1, q1⟩ := Byt.getD hby 1
  obtain ⟨p2, q2⟩ := Byt.getD hby 2
  obtain ⟨p3, q3⟩ := Byt.getD hby 3
  obtain ⟨p4, q4⟩ := Byt.getD hby 4
  obtain ⟨p5, q5⟩ := Byt.getD hby 5
  obtain ⟨p6, q6⟩ := Byt.getD hby 6
  obtain ⟨p7, q7⟩ := Byt.getD hby 7
  have hval : beN (xs.take 8) = xs.getD 0 0 * 72057594037927936 + xs.getD 1 0 * 281474976710656 + xs.getD 2 0 * 1099511627776 + xs.getD 3 0 * 4294967296 + xs.getD 4 0 * 16777216 + xs.getD 5 0 * 65536 + xs.getD 6 0 * 256 + xs.getD 7 0 := by
    obtain ⟨x0, x1, x2, x3, x4, x5, x6, x7, t, rfl⟩ : ∃ x0 x1 x2 x3 x4 x5 x6 x7 t, xs = x0 :: x1 :: x2 :: x3 :: x4 :: x5 :: x6 :: x7 :: t := by
      match xs, hl with
      | x0 :: x1 :: x2 :: x3 :: x4 :: x5 :: x6 :: x7 :: t, _ => exact ⟨x0, x1, x2, x3, x4, x5, x6, x7, t, rfl⟩
    (simp [beN] <;> omega)
  rw [hval]
  clear hval
  have HL := Lib.hid hl
  clear h hl
  go_enter Try.func45, Try.ntmps45
  go_wp2_with fail
  refine H.out.mono ?_
  rintro e w1 ⟨A, c, rfl, hc, hm, hA, hr, hs, hk⟩
  obtain ⟨ab, aoff, rfl, hab, hcells⟩ := Rd.cells hr HL.out (by decide)
  have c0 := hcells 0 (by decide)
  have c1 := hcells 1 (by decide)
  have c2 := hcells 2 (by decide)
  have c3 := hcells 3 (by decide)
  have c4 := hcells 4 (by decide)
  have c5 := hcells 5 (by decide)
  have c6 := hcells 6 (by decide)
  have c7 := hcells 7 (by decide)
  rw [Nat.add_zero] at c0
  have hv := ho.only hk (by simpa using hne)
  have hcell := hv.cell
  have hfree := hv.free
  have hfin : ∀ u, Told w B b bo 8 27 u xs (.returned (.bool true)) (w1.setCell ⟨bo, 0, none⟩ u).drew := fun u =>
    ⟨rfl, (hv.set u), (hs.far (fun e => hne e.symm) hB u), ((hk.more (by simp)).setCell (.inl (by simp)) u).drew⟩
  have K := Lib.hid hfin
  clear hfin hs hk hr hv ho H hA hcells hby hB hne
  generalize xs.getD 0 0 = x0 at *
  generalize xs.getD 1 0 = x1 at *
  generalize xs.getD 2 0 = x2 at *
  generalize xs.getD 3 0 = x3 at *
  generalize xs.getD 4 0 = x4 at *
  generalize xs.getD 5 0 = x5 at *
  generalize xs.getD 6 0 = x6 at *
  generalize xs.getD 7 0 = x7 at *
  have ww0 := wrap_id_u64 x0 (by omega) (by omega)
  have ww1 := wrap_id_u64 x1 (by omega) (by omega)
  have ww2 := wrap_id_u64 x2 (by omega) (by omega)
  have ww3 := wrap_id_u64 x3 (by omega) (by omega)
  have ww4 := wrap_id_u64 x4 (by omega) (by omega)
  have ww5 := wrap_id_u64 x5 (by omega) (by omega)
  have ww6 := wrap_id_u64 x6 (by omega) (by omega)
  have ww7 := wrap_id_u64 x7 (by omega) (by omega)
  have s0 := wrap_id_u64 (x0 * 72057594037927936) (by omega) (by omega)
  have s1 := wrap_id_u64 (x1 * 281474976710656) (by omega) (by omega)
  have s2 := wrap_id_u64 (x2 * 1099511627776) (by omega) (by omega)
  have s3 := wrap_id_u64 (x3 * 4294967296) (by omega) (by omega)
  have s4 := wrap_id_u64 (x4 * 16777216) (by omega) (by omega)
  have s5 := wrap_id_u64 (x5 * 65536) (by omega) (by omega)
  have s6 := wrap_id_u64 (x6 * 256) (by omega) (by omega)
  have e1 : bits .or .u64 (x0 * 72057594037927936) (x1 * 281474976710656) = x0 * 72057594037927936 + x1 * 281474976710656 := or_join_u64 _ _ 56 72057594037927936 rfl (by omega) (by omega) (by omega) (by omega) (by omega)
  have e2 : bits .or .u64 (x0 * 72057594037927936 + x1 * 281474976710656) (x2 * 1099511627776) = x0 * 72057594037927936 + x1 * 281474976710656 + x2 * 1099511627776 := or_join_u64 _ _ 48 281474976710656 rfl (by omega) (by omega) (by omega) (by omega) (by omega)
  have e3 : bits .or .u64 (x0 * 72057594037927936 + x1 * 281474976710656 + x2 * 1099511627776) (x3 * 4294967296) = x0 * 72057594037927936 + x1 * 281474976710656 + x2 * 1099511627776 + x3 * 4294967296 := or_join_u64 _ _ 40 1099511627776 rfl (by omega) (by omega) (by omega) (by omega) (by omega)
  have e4 : bits .or .u64 (x0 * 72057594037927936 + x1 * 281474976710656 + x2 * 1099511627776 + x3 * 4294967296) (x4 * 16777216) = x0 * 72057594037927936 + x1 * 281474976710656 + x2 * 1099511627776 + x3 * 4294967296 + x4 * 16777216 := or_join_u64 _ _ 32 4294967296 rfl (by omega) (by omega) (by omega) (by omega) (by omega)
  have e5 : bits .or .u64 (x0 * 72057594037927936 + x1 * 281474976710656 + x2 * 1099511627776 + x3 * 4294967296 + x4 * 16777216) (x5 * 65536) = x0 * 72057594037927936 + x1 * 281474976710656 + x2 * 1099511627776 + x3 * 4294967296 + x4 * 16777216 + x5 * 65536 := or_join_u64 _ _ 24 16777216 rfl (by omega) (by omega) (by omega) (by omega) (by omega)
  have e6 : bits .or .u64 (x0 * 72057594037927936 + x1 * 281474976710656 + x2 * 1099511627776 + x3 * 4294967296 + x4 * 16777216 + x5 * 65536) (x6 * 256) = x0 * 72057594037927936 + x1 * 281474976710656 + x2 * 1099511627776 + x3 * 4294967296 + x4 * 16777216 + x5 * 65536 + x6 * 256 := or_join_u64 _ _ 16 65536 rfl (by omega) (by omega) (by omega) (by omega) (by omega)
  have e7 : bits .or .u64 (x0 * 72057594037927936 + x1 * 281474976710656 + x2 * 1099511627776 + x3 * 4294967296 + x4 * 16777216 + x5 * 65536 + x6 * 256) (x7) = x0 * 72057594037927936 + x1 * 281474976710656 + x2 * 1099511627776 + x3 * 4294967296 + x4 * 16777216 + x5 * 65536 + x6 * 256 + x7 := or_join_u64 _ _ 8 256 rfl (by omega) (by omega) (by omega) (by omega) (by omega)
  go_wp2
  go_still_tail 48, (by kernel_rfl)
  change wpList _ _ _ _ _ w1.drew
  go_wp2
  go_ret
  exact K.out _

theorem SReadUint64_no (b bo : Nat) (xs : List Int) (w : World) (B : Nat) (h : Sl w B b 58 xs) (hl : xs.length < 8) :
    Calls Try.prog 45 #[.pointer (some ⟨b, 0, none⟩), .pointer (some ⟨bo, 0, none⟩)] w fun e w' => e = .returned (.bool false) ∧ w = w' := by
  have H := Lib.hid (read_sl_no b 8 xs w B h (by omega))
  clear h hl
  go_enter Try.func45, Try.ntmps45
  go_wp2_with fail
  refine H.out.mono ?_
  rintro e w1 ⟨rfl, rfl⟩
  go_wp2
  go_ret
  exact ⟨rfl, rfl⟩

end Go.Proofs.Ytmhinadofihkjaa
