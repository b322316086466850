/- The package's String: read as the callers meet it, Skip, ReadBytes, and the numbers: contracts. -/
import Derived.Test.YtlnoeipbbncnfaaStr
import Derived.Test.YtlnoeipbbncnfaaNum
import Derived.Laws.BitsAllLaws
import Derived.StillTailTactics
namespace Go.Proofs.Ytlnoeipbbncnfaa
open Go.RowKit

/-- The variable's slice is not nil. -/
def NN (w : World) (b : Nat) : Prop := ∃ t ad n c, Var w b t (.slice (some ad) n c)
theorem NN.only {w w' : World} {l : List Nat} {b : Nat} (h : NN w b) (ho : Only l w w') (hb : b ∉ l) : NN w' b := by
  obtain ⟨t, ad, n, c, h⟩ := h
  exact ⟨t, ad, n, c, h.only ho hb⟩
/-- What 'read' of k bytes leaves: a slice of the first k, the variable at the rest. -/
def Took (t : TypeId) (w : World) (B b k : Nat) (xs : List Int) (e : Ending) (w' : World) : Prop :=
  ∃ A c, e = .returned (.slice A k c) ∧ k ≤ c ∧ c ≤ maxLen ∧ (0 < xs.length ∨ NN w b → (∃ ad, A = some ad) ∧ NN w' b) ∧ Rd w' B A (xs.take k) ∧ Sl w' B b t (xs.drop k) ∧ Only [b] w w'

theorem read_sl {t : TypeId} (b : Nat) (k : Int) (xs : List Int) (w : World) (B : Nat) (h : Sl w B b t xs) (h0 : 0 ≤ k) (h1 : k ≤ (xs.length : Int)) :
    Calls Try.prog 37 #[.pointer (some ⟨b, 0, none⟩), .int .i64 k] w (Took t w B b k.toNat xs) := by
  have hlow := h.low
  obtain ⟨hBb, A, c, hv, hc, hm, hr⟩ := h
  refine (read_ok b A xs.length c k w hv h0 h1 hc hm).mono ?_
  rintro e w' ⟨rfl, rfl⟩
  have hk : k.toNat ≤ xs.length := by omega
  have hset := hv.set (.slice (cutA A c k.toNat) (xs.length - k.toNat) (c - k.toNat))
  refine ⟨A, c, rfl, by omega, hm, fun hp => ?_, (hr.take _).setCell hBb _, ⟨hBb, cutA A c k.toNat, c - k.toNat, ?_, ?_, by unfold maxLen at *; omega, (hr.cut hc).setCell hBb _⟩, (Only.refl _ _).setCell (.inl (by simp)) _⟩
  · have hs : ∃ ad, A = some ad := by
      rcases hp with hp | ⟨_, ad, n, c', hv'⟩
      · obtain ⟨b', off, e, _⟩ := hr.2 hp
        exact ⟨_, e⟩
      · unfold Var at hv hv'
        rw [hv] at hv'
        simp only [Option.some.injEq, Obj.cells.injEq] at hv'
        have := hv'.1
        simp at this
        exact ⟨ad, this.1⟩
    obtain ⟨ad, rfl⟩ := hs
    refine ⟨⟨_, rfl⟩, ?_⟩
    have he : ∃ ad', cutA (some ad) c k.toNat = some ad' := by unfold cutA; split <;> exact ⟨_, rfl⟩
    obtain ⟨ad', he⟩ := he
    rw [he] at hset ⊢
    exact ⟨_, ad', _, _, hset⟩
  · simpa using hset
  · simp; omega

theorem read_sl_no {t : TypeId} (b : Nat) (k : Int) (xs : List Int) (w : World) (B : Nat) (h : Sl w B b t xs) (hk : k < 0 ∨ (xs.length : Int) < k) :
    Calls Try.prog 37 #[.pointer (some ⟨b, 0, none⟩), .int .i64 k] w fun e w' => e = .returned (.slice none 0 0) ∧ w = w' := by
  obtain ⟨_, A, c, hv, _⟩ := h
  exact read_no b A xs.length c k w hv hk

/-- The first bytes of a slice, cell by cell. -/
theorem Rd.cells {w : World} {B k : Nat} {A : Option Addr} {xs : List Int} (h : Rd w B A (xs.take k)) (hk : k ≤ xs.length) (h0 : 0 < k) : ∃ b off, A = some ⟨b, off, none⟩ ∧ b < B ∧ ∀ i, i < k → w.cell? ⟨b, off + i, none⟩ = some (.int .u8 (xs.getD i 0)) := by
  have hl : (xs.take k).length = k := by simp; omega
  obtain ⟨b, off, e, hb, hc⟩ := h.2 (by omega)
  refine ⟨b, off, e, hb, fun i hi => ?_⟩
  rw [hc i (by omega)]
  simp [List.getD_eq_getElem?_getD, hi]

/-! ### Skip, ReadBytes -/
theorem Sskip_ok {t : TypeId} (b : Nat) (k : Int) (xs : List Int) (w : World) (B : Nat) (h : Sl w B b t xs) (h0 : 0 ≤ k) (h1 : k ≤ (xs.length : Int)) (hp : 0 < xs.length ∨ NN w b) :
    Calls Try.prog 46 #[.pointer (some ⟨b, 0, none⟩), .int .i64 k] w fun e w' => e = .returned (.bool true) ∧ Sl w' B b t (xs.drop k.toNat) ∧ Only [b] w w' := by
  have H := Lib.hid (read_sl b k xs w B h h0 h1)
  clear h h0 h1
  go_enter Try.func46, Try.ntmps46
  go_wp2_with fail
  refine H.out.mono ?_
  rintro e w1 ⟨A, c, rfl, _, _, hA, _, hs, ho⟩
  obtain ⟨ad, rfl⟩ := (hA hp).1
  have K1 := Lib.hid hs
  have K2 := Lib.hid ho
  clear hs ho H
  go_wp2
  go_ret
  exact ⟨rfl, K1.out, K2.out⟩

theorem Sskip_no {t : TypeId} (b : Nat) (k : Int) (xs : List Int) (w : World) (B : Nat) (h : Sl w B b t xs) (hk : k < 0 ∨ (xs.length : Int) < k) :
    Calls Try.prog 46 #[.pointer (some ⟨b, 0, none⟩), .int .i64 k] w fun e w' => e = .returned (.bool false) ∧ w = w' := by
  have H := Lib.hid (read_sl_no b k xs w B h hk)
  clear h hk
  go_enter Try.func46, Try.ntmps46
  go_wp2_with fail
  refine H.out.mono ?_
  rintro e w1 ⟨rfl, rfl⟩
  go_wp2
  go_ret
  exact ⟨rfl, rfl⟩

theorem SreadBytes_ok (b bo : Nat) (k : Int) (to : TypeId) (vo : Value) (xs : List Int) (w : World) (B : Nat) (h : Sl w B b 39 xs) (ho : Var w bo to vo) (hne : bo ≠ b) (hB : B ≤ bo) (h0 : 0 ≤ k) (h1 : k ≤ (xs.length : Int)) (hp : 0 < xs.length ∨ NN w b) :
    Calls Try.prog 45 #[.pointer (some ⟨b, 0, none⟩), .pointer (some ⟨bo, 0, none⟩), .int .i64 k] w fun e w' => e = .returned (.bool true) ∧ Sl w' B bo to (xs.take k.toNat) ∧ Sl w' B b 39 (xs.drop k.toNat) ∧ Only [b, bo] w w' := by
  have H := Lib.hid (read_sl b k xs w B h h0 h1)
  have hk : k.toNat ≤ xs.length := by omega
  have HK := Lib.hid hk
  clear h h0 h1 hk
  go_enter Try.func45, Try.ntmps45
  go_wp2_with fail
  refine H.out.mono ?_
  rintro e w1 ⟨A, c, rfl, hc, hm, hA, hr, hs, hk⟩
  obtain ⟨ad, rfl⟩ := (hA hp).1
  have hv := ho.only hk (by simpa using hne)
  have hcell := hv.cell
  have hfree := hv.free
  have hfin : ∀ u, Only [b, bo] w (w1.setCell ⟨bo, 0, none⟩ u) := fun u => (hk.more (by simp)).setCell (.inl (by simp)) u
  have hfin2 : Sl (w1.setCell ⟨bo, 0, none⟩ (.slice (some ad) k.toNat c)) B bo to (xs.take k.toNat) := by
    have e : (xs.take k.toNat).length = k.toNat := by have := HK.out; simp; omega
    exact ⟨hB, some ad, c, by rw [e]; exact hv.set _, by omega, hm, hr.setCell hB _⟩
  have hfin3 : ∀ u, Sl (w1.setCell ⟨bo, 0, none⟩ u) B b 39 (xs.drop k.toNat) := fun u => hs.far (fun e => hne e.symm) hB u
  have K1 := Lib.hid hfin
  have K2 := Lib.hid hfin2
  have K3 := Lib.hid hfin3
  clear hfin hfin2 hfin3 hs hk hr hv ho H hA
  go_wp2
  go_ret
  exact ⟨rfl, K2.out, K3.out _, K1.out _⟩

theorem SreadBytes_no (b bo : Nat) (k : Int) (xs : List Int) (w : World) (B : Nat) (h : Sl w B b 39 xs) (hk : k < 0 ∨ (xs.length : Int) < k) :
    Calls Try.prog 45 #[.pointer (some ⟨b, 0, none⟩), .pointer (some ⟨bo, 0, none⟩), .int .i64 k] w fun e w' => e = .returned (.bool false) ∧ w = w' := by
  have H := Lib.hid (read_sl_no b k xs w B h hk)
  clear h hk
  go_enter Try.func45, Try.ntmps45
  go_wp2_with fail
  refine H.out.mono ?_
  rintro e w1 ⟨rfl, rfl⟩
  go_wp2
  go_ret
  exact ⟨rfl, rfl⟩

/-! ### numbers -/
/-- What reading a number leaves: the number in the variable, the rest. -/
def Told (w : World) (B b bo k : Nat) (to : TypeId) (v : Value) (xs : List Int) (e : Ending) (w' : World) : Prop :=
  e = .returned (.bool true) ∧ Var w' bo to v ∧ Sl w' B b 39 (xs.drop k) ∧ Only [b, bo] w w'

/-! Two numbers, the second below the first's lowest bit, joined by 'or'. -/
theorem or_join_u16 (a b : Int) (i m : Nat) (e : m = 2 ^ i) (ha : 0 ≤ a ∧ a < 65536) (hm : a % (m : Int) = 0) (hb : 0 ≤ b) (hb2 : b < (m : Int)) (hb3 : b < 65536) : bits .or .u16 a b = a + b := by
  obtain ⟨a, rfl⟩ := Int.eq_ofNat_of_zero_le ha.1
  obtain ⟨b, rfl⟩ := Int.eq_ofNat_of_zero_le hb
  have hm' : a % m = 0 := by omega
  rw [u16_or_nat a b (by omega) (by omega), nat_join i a b (e ▸ hm') (e ▸ (by omega))]
  omega
theorem or_join_u32 (a b : Int) (i m : Nat) (e : m = 2 ^ i) (ha : 0 ≤ a ∧ a < 4294967296) (hm : a % (m : Int) = 0) (hb : 0 ≤ b) (hb2 : b < (m : Int)) (hb3 : b < 4294967296) : bits .or .u32 a b = a + b := by
  obtain ⟨a, rfl⟩ := Int.eq_ofNat_of_zero_le ha.1
  obtain ⟨b, rfl⟩ := Int.eq_ofNat_of_zero_le hb
  have hm' : a % m = 0 := by omega
  rw [u32_or_nat a b (by omega) (by omega), nat_join i a b (e ▸ hm') (e ▸ (by omega))]
  omega
theorem or_join_u64 (a b : Int) (i m : Nat) (e : m = 2 ^ i) (ha : 0 ≤ a ∧ a < 18446744073709551616) (hm : a % (m : Int) = 0) (hb : 0 ≤ b) (hb2 : b < (m : Int)) (hb3 : b < 18446744073709551616) : bits .or .u64 a b = a + b := by
  obtain ⟨a, rfl⟩ := Int.eq_ofNat_of_zero_le ha.1
  obtain ⟨b, rfl⟩ := Int.eq_ofNat_of_zero_le hb
  have hm' : a % m = 0 := by omega
  rw [u64_or_nat a b (by omega) (by omega), nat_join i a b (e ▸ hm') (e ▸ (by omega))]
  omega

theorem wrap_id_u16 (x : Int) (h0 : 0 ≤ x) (h1 : x < 65536) : IntKind.u16.wrap x = x := by simp [IntKind.wrap, IntKind.bits, IntKind.signed]; omega
theorem wrap_id_u32 (x : Int) (h0 : 0 ≤ x) (h1 : x < 4294967296) : IntKind.u32.wrap x = x := by simp [IntKind.wrap, IntKind.bits, IntKind.signed]; omega
theorem wrap_id_u64 (x : Int) (h0 : 0 ≤ x) (h1 : x < 18446744073709551616) : IntKind.u64.wrap x = x := by simp [IntKind.wrap, IntKind.bits, IntKind.signed]; omega














end Go.Proofs.Ytlnoeipbbncnfaa
