/- The package's String: read as the callers meet it, Skip, ReadBytes, and the numbers: contracts. -/
import Derived.Test.YtglgiplmolmdoaaStr
import Derived.Test.YtglgiplmolmdoaaNum
import Derived.Laws.BitsAllLaws
import Derived.StillTailTactics
namespace Go.Proofs.Ytglgiplmolmdoaa
open Go.RowKit

/-- The variable's slice is not nil. -/
def NN (w : World) (b : Nat) : Prop := ∃ t ad n c, Var w b t (.slice (some ad) n c)
theorem NN.only {w w' : World} {l : List Nat} {b : Nat} (h : NN w b) (ho : Only l w w') (hb : b ∉ l) : NN w' b := by
  obtain ⟨t, ad, n, c, h⟩ := h
  exact ⟨t, ad, n, c, h.only ho hb⟩
/-- What 'read' of k bytes leaves: a slice of the first k, the variable at the rest. -/
def Took (t : TypeId) (w : World) (B b k : Nat) (xs : List Int) (e : Ending) (w' : World) : Prop :=
  ∃ A c, e = .returned (.slice A k c) ∧ k ≤ c ∧ c ≤ maxLen ∧ (0 < xs.length ∨ NN w b → (∃ ad, A = some ad) ∧ NN w' b) ∧ Rd w' B A (xs.take k) ∧ Sl w' B b t (xs.drop k) ∧ Only [b] w w'

theorem read_sl {t : TypeId} (b : Nat) (k : Int) (xs : List Int) (w : World) (B : Nat) (h : Sl w B b t xs) (h0 : 0 ≤ k) (h1 : k ≤ (xs.length : Int)) :
    Calls Try.prog 46 #[.pointer (some ⟨b, 0, none⟩), .int .i64 k] w (Took t w B b k.toNat xs) := by
  have hlow := h.low
  obtain ⟨hBb, A, c, hv, hc, hm, hr⟩ := h
  refine (read_ok b A xs.length c k w hv h0 h1 hc hm).mono ?_
  rintro e w' ⟨rfl, rfl⟩
  have hk : k.toNat ≤ xs.length := by omega
  have hset := hv.set (.slice (cutA A c k.toNat) (xs.length - k.toNat) (c - k.toNat))
  refine ⟨A, c, rfl, by omega, hm, fun hp => ?_, (hr.take _).setCell hBb _, ⟨hBb, cutA A c k.toNat, c - k.toNat, ?_, ?_, by unfold maxLen at *; omega, (hr.cut hc).setCell hBb _⟩, (Only.refl _ _).setCell (.inl (by simp)) _⟩
  · have hs : ∃ ad, A = some ad := by
      rcases hp with hp | ⟨_, ad, n, c', hv'⟩
      · obtain ⟨b', off, e, _⟩ := hr.2 hp
        exact ⟨_, e⟩
      · unfold Var at hv hv'
        rw [hv] at hv'
        simp only [Option.some.injEq, Obj.cells.injEq] at hv'
        have := hv'.1
        simp at this
        exact ⟨ad, this.1⟩
    obtain ⟨ad, rfl⟩ := hs
    refine ⟨⟨_, rfl⟩, ?_⟩
    have he : ∃ ad', cutA (some ad) c k.toNat = some ad' := by unfold cutA; split <;> exact ⟨_, rfl⟩
    obtain ⟨ad', he⟩ := he
    rw [he] at hset ⊢
    exact ⟨_, ad', _, _, hset⟩
  · simpa using hset
  · simp; omega

theorem read_sl_no {t : TypeId} (b : Nat) (k : Int) (xs : List Int) (w : World) (B : Nat) (h : Sl w B b t xs) (hk : k < 0 ∨ (xs.length : Int) < k) :
    Calls Try.prog 46 #[.pointer (some ⟨b, 0, none⟩), .int .i64 k] w fun e w' => e = .returned (.slice none 0 0) ∧ w = w' := by
  obtain ⟨_, A, c, hv, _⟩ := h
  exact read_no b A xs.length c k w hv hk

/-- The first bytes of a slice, cell by cell. -/
theorem Rd.cells {w : World} {B k : Nat} {A : Option Addr} {xs : List Int} (h : Rd w B A (xs.take k)) (hk : k ≤ xs.length) (h0 : 0 < k) : ∃ b off, A = some ⟨b, off, none⟩ ∧ b < B ∧ ∀ i, i < k → w.cell? ⟨b, off + i, none⟩ = some (.int .u8 (xs.getD i 0)) := by
  have hl : (xs.take k).length = k := by simp; omega
  obtain ⟨b, off, e, hb, hc⟩ := h.2 (by omega)
  refine ⟨b, off, e, hb, fun i hi => ?_⟩
  rw [hc i (by omega)]
  simp [List.getD_eq_getElem?_getD, hi]

/-! ### Skip, ReadBytes -/
theorem Sskip_ok {t : TypeId} (b : Nat) (k : Int) (xs : List Int) (w : World) (B : Nat) (h : Sl w B b t xs) (h0 : 0 ≤ k) (h1 : k ≤ (xs.length : Int)) (hp : 0 < xs.length ∨ NN w b) :
    Calls Try.prog 35 #[.pointer (some ⟨b, 0, none⟩), .int .i64 k] w fun e w' => e = .returned (.bool true) ∧ Sl w' B b t (xs.drop k.toNat) ∧ Only [b] w w' := by
  have H := Lib.hid (read_sl b k xs w B h h0 h1)
  clear h h0 h1
  go_enter Try.func35, Try.ntmps35
  go_wp2_with fail
  refine H.out.mono ?_
  rintro e w1 ⟨A, c, rfl, _, _, hA, _, hs, ho⟩
  obtain ⟨ad, rfl⟩ := (hA hp).1
  have K1 := Lib.hid hs
  have K2 := Lib.hid ho
  clear hs ho H
  go_wp2
  go_ret
  exact ⟨rfl, K1.out, K2.out⟩

theorem Sskip_no {t : TypeId} (b : Nat) (k : Int) (xs : List Int) (w : World) (B : Nat) (h : Sl w B b t xs) (hk : k < 0 ∨ (xs.length : Int) < k) :
    Calls Try.prog 35 #[.pointer (some ⟨b, 0, none⟩), .int .i64 k] w fun e w' => e = .returned (.bool false) ∧ w = w' := by
  have H := Lib.hid (read_sl_no b k xs w B h hk)
  clear h hk
  go_enter Try.func35, Try.ntmps35
  go_wp2_with fail
  refine H.out.mono ?_
  rintro e w1 ⟨rfl, rfl⟩
  go_wp2
  go_ret
  exact ⟨rfl, rfl⟩

theorem SreadBytes_ok (b bo : Nat) (k : Int) (to : TypeId) (vo : Value) (xs : List Int) (w : World) (B : Nat) (h : Sl w B b 47 xs) (ho : Var w bo to vo) (hne : bo ≠ b) (hB : B ≤ bo) (h0 : 0 ≤ k) (h1 : k ≤ (xs.length : Int)) (hp : 0 < xs.length ∨ NN w b) :
    Calls Try.prog 37 #[.pointer (some ⟨b, 0, none⟩), .pointer (some ⟨bo, 0, none⟩), .int .i64 k] w fun e w' => e = .returned (.bool true) ∧ Sl w' B bo to (xs.take k.toNat) ∧ Sl w' B b 47 (xs.drop k.toNat) ∧ Only [b, bo] w w' := by
  have H := Lib.hid (read_sl b k xs w B h h0 h1)
  have hk : k.toNat ≤ xs.length := by omega
  have HK := Lib.hid hk
  clear h h0 h1 hk
  go_enter Try.func37, Try.ntmps37
  go_wp2_with fail
  refine H.out.mono ?_
  rintro e w1 ⟨A, c, rfl, hc, hm, hA, hr, hs, hk⟩
  obtain ⟨ad, rfl⟩ := (hA hp).1
  have hv := ho.only hk (by simpa using hne)
  have hcell := hv.cell
  have hfree := hv.free
  have hfin : ∀ u, Only [b, bo] w (w1.setCell ⟨bo, 0, none⟩ u) := fun u => (hk.more (by simp)).setCell (.inl (by simp)) u
  have hfin2 : Sl (w1.setCell ⟨bo, 0, none⟩ (.slice (some ad) k.toNat c)) B bo to (xs.take k.toNat) := by
    have e : (xs.take k.toNat).length = k.toNat := by have := HK.out; simp; omega
    exact ⟨hB, some ad, c, by rw [e]; exact hv.set _, by omega, hm, hr.setCell hB _⟩
  have hfin3 : ∀ u, Sl (w1.setCell ⟨bo, 0, none⟩ u) B b 47 (xs.drop k.toNat) := fun u => hs.far (fun e => hne e.symm) hB u
  have K1 := Lib.hid hfin
  have K2 := Lib.hid hfin2
  have K3 := Lib.hid hfin3
  clear hfin hfin2 hfin3 hs hk hr hv ho H hA
  go_wp2
  go_ret
  exact ⟨rfl, K2.out, K3.out _, K1.out _⟩

theorem SreadBytes_no (b bo : Nat) (k : Int) (xs : List Int) (w : World) (B : Nat) (h : Sl w B b 47 xs) (hk : k < 0 ∨ (xs.length : Int) < k) :
    Calls Try.prog 37 #[.pointer (some ⟨b, 0, none⟩), .pointer (some ⟨bo, 0, none⟩), .int .i64 k] w fun e w' => e = .returned (.bool false) ∧ w = w' := by
  have H := Lib.hid (read_sl_no b k xs w B h hk)
  clear h hk
  go_enter Try.func37, Try.ntmps37
  go_wp2_with fail
  refine H.out.mono ?_
  rintro e w1 ⟨rfl, rfl⟩
  go_wp2
  go_ret
  exact ⟨rfl, rfl⟩

/-! ### numbers -/
/-- What reading a number leaves: the number in the variable, the rest. -/
def Told (w : World) (B b bo k : Nat) (to : TypeId) (v : Value) (xs : List Int) (e : Ending) (w' : World) : Prop :=
  e = .returned (.bool true) ∧ Var w' bo to v ∧ Sl w' B b 47 (xs.drop k) ∧ Only [b, bo] w w'

/-! Two numbers, the second below the first's lowest bit, joined by 'or'. -/
theorem or_join_u16 (a b : Int) (i m : Nat) (e : m = 2 ^ i) (ha : 0 ≤ a ∧ a < 65536) (hm : a % (m : Int) = 0) (hb : 0 ≤ b) (hb2 : b < (m : Int)) (hb3 : b < 65536) : bits .or .u16 a b = a + b := by
  obtain ⟨a, rfl⟩ := Int.eq_ofNat_of_zero_le ha.1
  obtain ⟨b, rfl⟩ := Int.eq_ofNat_of_zero_le hb
  have hm' : a % m = 0 := by omega
  rw [u16_or_nat a b (by omega) (by omega), nat_join i a b (e ▸ hm') (e ▸ (by omega))]
  omega
theorem or_join_u32 (a b : Int) (i m : Nat) (e : m = 2 ^ i) (ha : 0 ≤ a ∧ a < 4294967296) (hm : a % (m : Int) = 0) (hb : 0 ≤ b) (hb2 : b < (m : Int)) (hb3 : b < 4294967296) : bits .or .u32 a b = a + b := by
  obtain ⟨a, rfl⟩ := Int.eq_ofNat_of_zero_le ha.1
  obtain ⟨b, rfl⟩ := Int.eq_ofNat_of_zero_le hb
  have hm' : a % m = 0 := by omega
  rw [u32_or_nat a b (by omega) (by omega), nat_join i a b (e ▸ hm') (e ▸ (by omega))]
  omega
theorem or_join_u64 (a b : Int) (i m : Nat) (e : m = 2 ^ i) (ha : 0 ≤ a ∧ a < 18446744073709551616) (hm : a % (m : Int) = 0) (hb : 0 ≤ b) (hb2 : b < (m : Int)) (hb3 : b < 18446744073709551616) : bits .or .u64 a b = a + b := by
  obtain ⟨a, rfl⟩ := Int.eq_ofNat_of_zero_le ha.1
  obtain ⟨b, rfl⟩ := Int.eq_ofNat_of_zero_le hb
  have hm' : a % m = 0 := by omega
  rw [u64_or_nat a b (by omega) (by omega), nat_join i a b (e ▸ hm') (e ▸ (by omega))]
  omega

theorem wrap_id_u16 (x : Int) (h0 : 0 ≤ x) (h1 : x < 65536) : IntKind.u16.wrap x = x := by simp [IntKind.wrap, IntKind.bits, IntKind.signed]; omega
theorem wrap_id_u32 (x : Int) (h0 : 0 ≤ x) (h1 : x < 4294967296) : IntKind.u32.wrap x = x := by simp [IntKind.wrap, IntKind.bits, IntKind.signed]; omega
theorem wrap_id_u64 (x : Int) (h0 : 0 ≤ x) (h1 : x < 18446744073709551616) : IntKind.u64.wrap x = x := by simp [IntKind.wrap, IntKind.bits, IntKind.signed]; omega

theorem SReadUint8_ok (b bo : Nat) (vo : Value) (xs : List Int) (w : World) (B : Nat) (h : Sl w B b 47 xs) (ho : Var w bo 5 vo) (hne : bo ≠ b) (hB : B ≤ bo) (hl : 1 ≤ xs.length) :
    Calls Try.prog 40 #[.pointer (some ⟨b, 0, none⟩), .pointer (some ⟨bo, 0, none⟩)] w (Told w B b bo 1 5 (.int .u8 (beN (xs.take 1))) xs) := by
  have H := Lib.hid (read_sl b 1 xs w B h (by decide) (by omega))
  have hby := h.byt
  obtain ⟨p0, q0⟩ := Byt.getD hby 0
  have hval : beN (xs.take 1) = xs.getD 0 0 := by
    obtain ⟨x0, t, rfl⟩ : ∃ x0 t, xs = x0 :: t := by
      match xs, hl with
      | x0 :: t, _ => exact ⟨x0, t, rfl⟩
    simp [beN]
  rw [hval]
  clear hval
  have HL := Lib.hid hl
  clear h hl
  go_enter Try.func40, Try.ntmps40
  go_wp2_with fail
  refine H.out.mono ?_
  rintro e w1 ⟨A, c, rfl, hc, hm, hA, hr, hs, hk⟩
  obtain ⟨ab, aoff, rfl, hab, hcells⟩ := Rd.cells hr HL.out (by decide)
  have c0 := hcells 0 (by decide)
  rw [Nat.add_zero] at c0
  have hv := ho.only hk (by simpa using hne)
  have hcell := hv.cell
  have hfree := hv.free
  have hfin : ∀ u, Told w B b bo 1 5 u xs (.returned (.bool true)) (w1.setCell ⟨bo, 0, none⟩ u) := fun u =>
    ⟨rfl, (hv.set u), (hs.far (fun e => hne e.symm) hB u), ((hk.more (by simp)).setCell (.inl (by simp)) u)⟩
  have K := Lib.hid hfin
  clear hfin hs hk hr hv ho H hA hcells hby hB hne
  generalize xs.getD 0 0 = x0 at *

  go_wp2
  go_ret
  exact K.out _

theorem SReadUint8_no (b bo : Nat) (xs : List Int) (w : World) (B : Nat) (h : Sl w B b 47 xs) (hl : xs.length < 1) :
    Calls Try.prog 40 #[.pointer (some ⟨b, 0, none⟩), .pointer (some ⟨bo, 0, none⟩)] w fun e w' => e = .returned (.bool false) ∧ w = w' := by
  have H := Lib.hid (read_sl_no b 1 xs w B h (by omega))
  clear h hl
  go_enter Try.func40, Try.ntmps40
  go_wp2_with fail
  refine H.out.mono ?_
  rintro e w1 ⟨rfl, rfl⟩
  go_wp2
  go_ret
  exact ⟨rfl, rfl⟩



theorem SReadUint24_ok (b bo : Nat) (vo : Value) (xs : List Int) (w : World) (B : Nat) (h : Sl w B b 47 xs) (ho : Var w bo 52 vo) (hne : bo ≠ b) (hB : B ≤ bo) (hl : 3 ≤ xs.length) :
    Calls Try.prog 38 #[.pointer (some ⟨b, 0, none⟩), .pointer (some ⟨bo, 0, none⟩)] w (Told w B b bo 3 52 (.int .u32 (beN (xs.take 3))) xs) := by
  have H := Lib.hid (read_sl b 3 xs w B h (by decide) (by omega))
  have hby := h.byt
  obtain ⟨p0, q0⟩ := Byt.getD hby 0
  obtain ⟨p1, q1⟩ := Byt.getD hby 1
  obtain ⟨p2, q2⟩ := Byt.getD hby 2
  have hval : beN (xs.take 3) = xs.getD 0 0 * 65536 + xs.getD 1 0 * 256 + xs.getD 2 0 := by
    obtain ⟨x0, x1, x2, t, rfl⟩ : ∃ x0 x1 x2 t, xs = x0 :: x1 :: x2 :: t := by
      match xs, hl with
      | x0 :: x1 :: x2 :: t, _ => exact ⟨x0, x1, x2, t, rfl⟩
    simp [beN]
    omega
  rw [hval]
  clear hval
  have HL := Lib.hid hl
  clear h hl
  go_enter Try.func38, Try.ntmps38
  go_wp2_with fail
  refine H.out.mono ?_
  rintro e w1 ⟨A, c, rfl, hc, hm, hA, hr, hs, hk⟩
  obtain ⟨ab, aoff, rfl, hab, hcells⟩ := Rd.cells hr HL.out (by decide)
  have c0 := hcells 0 (by decide)
  have c1 := hcells 1 (by decide)
  have c2 := hcells 2 (by decide)
  rw [Nat.add_zero] at c0
  have hv := ho.only hk (by simpa using hne)
  have hcell := hv.cell
  have hfree := hv.free
  have hfin : ∀ u, Told w B b bo 3 52 u xs (.returned (.bool true)) (w1.setCell ⟨bo, 0, none⟩ u).drew := fun u =>
    ⟨rfl, (hv.set u), (hs.far (fun e => hne e.symm) hB u), ((hk.more (by simp)).setCell (.inl (by simp)) u).drew⟩
  have K := Lib.hid hfin
  clear hfin hs hk hr hv ho H hA hcells hby hB hne
  generalize xs.getD 0 0 = x0 at *
  generalize xs.getD 1 0 = x1 at *
  generalize xs.getD 2 0 = x2 at *
  have ww0 := wrap_id_u32 x0 (by omega) (by omega)
  have ww1 := wrap_id_u32 x1 (by omega) (by omega)
  have ww2 := wrap_id_u32 x2 (by omega) (by omega)
  have s0 := wrap_id_u32 (x0 * 65536) (by omega) (by omega)
  have s1 := wrap_id_u32 (x1 * 256) (by omega) (by omega)
  have e1 : bits .or .u32 (x0 * 65536) (x1 * 256) = x0 * 65536 + x1 * 256 := or_join_u32 _ _ 16 65536 rfl (by omega) (by omega) (by omega) (by omega) (by omega)
  have e2 : bits .or .u32 (x0 * 65536 + x1 * 256) (x2) = x0 * 65536 + x1 * 256 + x2 := or_join_u32 _ _ 8 256 rfl (by omega) (by omega) (by omega) (by omega) (by omega)
  go_wp2
  go_still_tail 18, (by kernel_rfl)
  change wpList _ _ _ _ _ w1.drew
  go_wp2
  go_ret
  exact K.out _

theorem SReadUint24_no (b bo : Nat) (xs : List Int) (w : World) (B : Nat) (h : Sl w B b 47 xs) (hl : xs.length < 3) :
    Calls Try.prog 38 #[.pointer (some ⟨b, 0, none⟩), .pointer (some ⟨bo, 0, none⟩)] w fun e w' => e = .returned (.bool false) ∧ w = w' := by
  have H := Lib.hid (read_sl_no b 3 xs w B h (by omega))
  clear h hl
  go_enter Try.func38, Try.ntmps38
  go_wp2_with fail
  refine H.out.mono ?_
  rintro e w1 ⟨rfl, rfl⟩
  go_wp2
  go_ret
  exact ⟨rfl, rfl⟩



theorem SReadUint48_ok (b bo : Nat) (vo : Value) (xs : List Int) (w : World) (B : Nat) (h : Sl w B b 47 xs) (ho : Var w bo 34 vo) (hne : bo ≠ b) (hB : B ≤ bo) (hl : 6 ≤ xs.length) :
    Calls Try.prog 39 #[.pointer (some ⟨b, 0, none⟩), .pointer (some ⟨bo, 0, none⟩)] w (Told w B b bo 6 34 (.int .u64 (beN (xs.take 6))) xs) := by
  have H := Lib.hid (read_sl b 6 xs w B h (by decide) (by omega))
  have hby := h.byt
  obtain ⟨p0, q0⟩ := Byt.getD hby 0
  obtain ⟨p1, q1⟩ := Byt.getD hby 1
  obtain ⟨p2, q2⟩ := Byt.getD hby 2
  obtain ⟨p3, q3⟩ := Byt.getD hby 3
  obtain ⟨p4, q4⟩ := Byt.getD hby 4
  obtain ⟨p5, q5⟩ := Byt.getD hby 5
  have hval : beN (xs.take 6) = xs.getD 0 0 * 1099511627776 + xs.getD 1 0 * 4294967296 + xs.getD 2 0 * 16777216 + xs.getD 3 0 * 65536 + xs.getD 4 0 * 256 + xs.getD 5 0 := by
    obtain ⟨x0, x1, x2, x3, x4, x5, t, rfl⟩ : ∃ x0 x1 x2 x3 x4 x5 t, xs = x0 :: x1 :: x2 :: x3 :: x4 :: x5 :: t := by
      match xs, hl with
      | x0 :: x1 :: x2 :: x3 :: x4 :: x5 :: t, _ => exact ⟨x0, x1, x2, x3, x4, x5, t, rfl⟩
    simp [beN]
    omega
  rw [hval]
  clear hval
  have HL := Lib.hid hl
  clear h hl
  go_enter Try.func39, Try.ntmps39
  go_wp2_with fail
  refine H.out.mono ?_
  rintro e w1 ⟨A, c, rfl, hc, hm, hA, hr, hs, hk⟩
  obtain ⟨ab, aoff, rfl, hab, hcells⟩ := Rd.cells hr HL.out (by decide)
  have c0 := hcells 0 (by decide)
  have c1 := hcells 1 (by decide)
  have c2 := hcells 2 (by decide)
  have c3 := hcells 3 (by decide)
  have c4 := hcells 4 (by decide)
  have c5 := hcells 5 (by decide)
  rw [Nat.add_zero] at c0
  have hv := ho.only hk (by simpa using hne)
  have hcell := hv.cell
  have hfree := hv.free
  have hfin : ∀ u, Told w B b bo 6 34 u xs (.returned (.bool true)) (w1.setCell ⟨bo, 0, none⟩ u).drew := fun u =>
    ⟨rfl, (hv.set u), (hs.far (fun e => hne e.symm) hB u), ((hk.more (by simp)).setCell (.inl (by simp)) u).drew⟩
  have K := Lib.hid hfin
  clear hfin hs hk hr hv ho H hA hcells hby hB hne
  generalize xs.getD 0 0 = x0 at *
  generalize xs.getD 1 0 = x1 at *
  generalize xs.getD 2 0 = x2 at *
  generalize xs.getD 3 0 = x3 at *
  generalize xs.getD 4 0 = x4 at *
  generalize xs.getD 5 0 = x5 at *
  have ww0 := wrap_id_u64 x0 (by omega) (by omega)
  have ww1 := wrap_id_u64 x1 (by omega) (by omega)
  have ww2 := wrap_id_u64 x2 (by omega) (by omega)
  have ww3 := wrap_id_u64 x3 (by omega) (by omega)
  have ww4 := wrap_id_u64 x4 (by omega) (by omega)
  have ww5 := wrap_id_u64 x5 (by omega) (by omega)
  have s0 := wrap_id_u64 (x0 * 1099511627776) (by omega) (by omega)
  have s1 := wrap_id_u64 (x1 * 4294967296) (by omega) (by omega)
  have s2 := wrap_id_u64 (x2 * 16777216) (by omega) (by omega)
  have s3 := wrap_id_u64 (x3 * 65536) (by omega) (by omega)
  have s4 := wrap_id_u64 (x4 * 256) (by omega) (by omega)
  have e1 : bits .or .u64 (x0 * 1099511627776) (x1 * 4294967296) = x0 * 1099511627776 + x1 * 4294967296 := or_join_u64 _ _ 40 1099511627776 rfl (by omega) (by omega) (by omega) (by omega) (by omega)
  have e2 : bits .or .u64 (x0 * 1099511627776 + x1 * 4294967296) (x2 * 16777216) = x0 * 1099511627776 + x1 * 4294967296 + x2 * 16777216 := or_join_u64 _ _ 32 4294967296 rfl (by omega) (by omega) (by omega) (by omega) (by omega)
  have e3 : bits .or .u64 (x0 * 1099511627776 + x1 * 4294967296 + x2 * 16777216) (x3 * 65536) = x0 * 1099511627776 + x1 * 4294967296 + x2 * 16777216 + x3 * 65536 := or_join_u64 _ _ 24 16777216 rfl (by omega) (by omega) (by omega) (by omega) (by omega)
  have e4 : bits .or .u64 (x0 * 1099511627776 + x1 * 4294967296 + x2 * 16777216 + x3 * 65536) (x4 * 256) = x0 * 1099511627776 + x1 * 4294967296 + x2 * 16777216 + x3 * 65536 + x4 * 256 := or_join_u64 _ _ 16 65536 rfl (by omega) (by omega) (by omega) (by omega) (by omega)
  have e5 : bits .or .u64 (x0 * 1099511627776 + x1 * 4294967296 + x2 * 16777216 + x3 * 65536 + x4 * 256) (x5) = x0 * 1099511627776 + x1 * 4294967296 + x2 * 16777216 + x3 * 65536 + x4 * 256 + x5 := or_join_u64 _ _ 8 256 rfl (by omega) (by omega) (by omega) (by omega) (by omega)
  go_wp2
  go_still_tail 36, (by kernel_rfl)
  change wpList _ _ _ _ _ w1.drew
  go_wp2
  go_ret
  exact K.out _

theorem SReadUint48_no (b bo : Nat) (xs : List Int) (w : World) (B : Nat) (h : Sl w B b 47 xs) (hl : xs.length < 6) :
    Calls Try.prog 39 #[.pointer (some ⟨b, 0, none⟩), .pointer (some ⟨bo, 0, none⟩)] w fun e w' => e = .returned (.bool false) ∧ w = w' := by
  have H := Lib.hid (read_sl_no b 6 xs w B h (by omega))
  clear h hl
  go_enter Try.func39, Try.ntmps39
  go_wp2_with fail
  refine H.out.mono ?_
  rintro e w1 ⟨rfl, rfl⟩
  go_wp2
  go_ret
  exact ⟨rfl, rfl⟩



end Go.Proofs.Ytglgiplmolmdoaa
