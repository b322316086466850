/- Reading an element: any tag, a given tag; with its header or without: contracts. -/
import Derived.Test.YtglgiplmolmdoaaRd4
namespace Go.Proofs.Ytglgiplmolmdoaa
open Go.RowKit

theorem SreadASN1_any (b bo bt : Nat) (to : TypeId) (vo : Value) (t0 : Int) (skip : Bool) (xs : List Int) (w : World) (B : Nat) (h : Sl w B b 47 xs) (ho : Var w bo to vo) (ht : Var w bt 45 (.int .u8 t0)) (ht0 : 0 ≤ t0 ∧ t0 ≤ 255)
    (hbo : bo ≠ b) (hbt : bt ≠ b) (hbt2 : bt ≠ bo) (hBo : B ≤ bo) (hBt : B ≤ bt) (hn : xs.length ≤ 1048576) :
    Calls Try.prog 48 #[.pointer (some ⟨b, 0, none⟩), .pointer (some ⟨bo, 0, none⟩), .pointer (some ⟨bt, 0, none⟩), .bool skip] w (TookEl w B b bo bt to skip xs) := by
  by_cases hl : xs.length < 2
  · exact SreadASN1_short b bo bt to vo t0 skip xs w B h ho ht ht0 hl
  · by_cases h31 : xs.getD 0 0 % 32 = 31
    · exact SreadASN1_high b bo bt to vo t0 skip xs w B h ho ht ht0 (by omega) h31
    · by_cases hs : xs.getD 1 0 < 128
      · exact SreadASN1_s b bo bt to vo t0 skip xs w B h ho ht hbo hbt hbt2 hBo hBt hn (by omega) h31 hs
      · obtain ⟨y0, y1⟩ := Byt.getD h.byt 1
        obtain ⟨m, hm⟩ : ∃ m : Nat, xs.getD 1 0 = ((m + 128 : Nat) : Int) := ⟨(xs.getD 1 0 - 128).toNat, by omega⟩
        by_cases hbad : m = 0 ∨ 4 < m ∨ xs.length < 2 + m
        · exact SreadASN1_lbad b bo bt to vo t0 skip xs w B h ho ht hbt hbt2 hBt hn (by omega) h31 m (by omega) hm hbad
        · exact SreadASN1_l b bo bt to vo t0 skip xs w B h ho ht hbo hbt hbt2 hBo hBt hn (by omega) h31 m (by omega) (by omega) hm (by omega)


theorem SReadAnyASN1Element_any (b bo bt : Nat) (to : TypeId) (vo : Value) (t0 : Int) (xs : List Int) (w : World) (B : Nat) (h : Sl w B b 47 xs) (ho : Var w bo to vo) (ht : Var w bt 45 (.int .u8 t0)) (ht0 : 0 ≤ t0 ∧ t0 ≤ 255)
    (hbo : bo ≠ b) (hbt : bt ≠ b) (hbt2 : bt ≠ bo) (hBo : B ≤ bo) (hBt : B ≤ bt) (hn : xs.length ≤ 1048576) :
    Calls Try.prog 44 #[.pointer (some ⟨b, 0, none⟩), .pointer (some ⟨bo, 0, none⟩), .pointer (some ⟨bt, 0, none⟩)] w (TookEl w B b bo bt to false xs) := by
  have H := Lib.hid (SreadASN1_any b bo bt to vo t0 false xs w B h ho ht ht0 hbo hbt hbt2 hBo hBt hn)
  clear h ho ht ht0 hbo hbt hbt2 hBo hBt hn
  go_enter Try.func44, Try.ntmps44
  go_wp2_with fail
  refine H.out.mono ?_
  intro e w1 hT
  have HT := Lib.hid hT
  unfold TookEl at hT
  obtain ⟨_, hT⟩ := hT
  have he : (e = .returned (.bool true)) ∨ (e = .returned (.bool false)) := by
    revert hT
    cases first xs with
    | none => intro hT; exact .inr hT.1
    | some q => obtain ⟨t, h, n⟩ := q; intro hT; exact .inl hT.1
  clear hT H
  rcases he with rfl | rfl
  all_goals
    go_wp2_with fail
    go_ret
    exact HT.out

/-- What reading an element of a given tag leaves. -/
def TookTag (w : World) (B b bo : Nat) (to : TypeId) (skip : Bool) (tag : Int) (xs : List Int) (e : Ending) (w' : World) : Prop :=
  Only [b, bo] w w' ∧
  match first xs with
  | some (t, h, n) => e = .returned (.bool (decide (t = tag))) ∧ Sl w' B bo to (if skip then (xs.take n).drop h else xs.take n) ∧ Sl w' B b 47 (xs.drop n)
  | none => e = .returned (.bool false) ∧ (∃ vo, Var w bo to vo ∧ Var w' bo to vo) ∧ Sl w' B b 47 xs



end Go.Proofs.Ytglgiplmolmdoaa
