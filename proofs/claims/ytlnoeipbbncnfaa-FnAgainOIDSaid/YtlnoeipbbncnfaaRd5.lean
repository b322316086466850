/- Reading an element: any tag, a given tag; with its header or without: contracts. -/
import Derived.Test.YtlnoeipbbncnfaaRd4
namespace Go.Proofs.Ytlnoeipbbncnfaa
open Go.RowKit

theorem SreadASN1_any (b bo bt : Nat) (to : TypeId) (vo : Value) (t0 : Int) (skip : Bool) (xs : List Int) (w : World) (B : Nat) (h : Sl w B b 39 xs) (ho : Var w bo to vo) (ht : Var w bt 61 (.int .u8 t0)) (ht0 : 0 ≤ t0 ∧ t0 ≤ 255)
    (hbo : bo ≠ b) (hbt : bt ≠ b) (hbt2 : bt ≠ bo) (hBo : B ≤ bo) (hBt : B ≤ bt) (hn : xs.length ≤ 4194304) :
    Calls Try.prog 41 #[.pointer (some ⟨b, 0, none⟩), .pointer (some ⟨bo, 0, none⟩), .pointer (some ⟨bt, 0, none⟩), .bool skip] w (TookEl w B b bo bt to skip xs) := by
  by_cases hl : xs.length < 2
  · exact SreadASN1_short b bo bt to vo t0 skip xs w B h ho ht ht0 hl
  · by_cases h31 : xs.getD 0 0 % 32 = 31
    · exact SreadASN1_high b bo bt to vo t0 skip xs w B h ho ht ht0 (by omega) h31
    · by_cases hs : xs.getD 1 0 < 128
      · exact SreadASN1_s b bo bt to vo t0 skip xs w B h ho ht hbo hbt hbt2 hBo hBt hn (by omega) h31 hs
      · obtain ⟨y0, y1⟩ := Byt.getD h.byt 1
        obtain ⟨m, hm⟩ : ∃ m : Nat, xs.getD 1 0 = ((m + 128 : Nat) : Int) := ⟨(xs.getD 1 0 - 128).toNat, by omega⟩
        by_cases hbad : m = 0 ∨ 4 < m ∨ xs.length < 2 + m
        · exact SreadASN1_lbad b bo bt to vo t0 skip xs w B h ho ht hbt hbt2 hBt hn (by omega) h31 m (by omega) hm hbad
        · exact SreadASN1_l b bo bt to vo t0 skip xs w B h ho ht hbo hbt hbt2 hBo hBt hn (by omega) h31 m (by omega) (by omega) hm (by omega)

theorem SReadAnyASN1_any (b bo bt : Nat) (to : TypeId) (vo : Value) (t0 : Int) (xs : List Int) (w : World) (B : Nat) (h : Sl w B b 39 xs) (ho : Var w bo to vo) (ht : Var w bt 61 (.int .u8 t0)) (ht0 : 0 ≤ t0 ∧ t0 ≤ 255)
    (hbo : bo ≠ b) (hbt : bt ≠ b) (hbt2 : bt ≠ bo) (hBo : B ≤ bo) (hBt : B ≤ bt) (hn : xs.length ≤ 4194304) :
    Calls Try.prog 36 #[.pointer (some ⟨b, 0, none⟩), .pointer (some ⟨bo, 0, none⟩), .pointer (some ⟨bt, 0, none⟩)] w (TookEl w B b bo bt to true xs) := by
  have H := Lib.hid (SreadASN1_any b bo bt to vo t0 true xs w B h ho ht ht0 hbo hbt hbt2 hBo hBt hn)
  clear h ho ht ht0 hbo hbt hbt2 hBo hBt hn
  go_enter Try.func36, Try.ntmps36
  go_wp2_with fail
  refine H.out.mono ?_
  intro e w1 hT
  have HT := Lib.hid hT
  unfold TookEl at hT
  obtain ⟨_, hT⟩ := hT
  have he : (e = .returned (.bool true)) ∨ (e = .returned (.bool false)) := by
    revert hT
    cases first xs with
    | none => intro hT; exact .inr hT.1
    | some q => obtain ⟨t, h, n⟩ := q; intro hT; exact .inl hT.1
  clear hT H
  rcases he with rfl | rfl
  all_goals
    go_wp2_with fail
    go_ret
    exact HT.out


/-- What reading an element of a given tag leaves. -/
def TookTag (w : World) (B b bo : Nat) (to : TypeId) (skip : Bool) (tag : Int) (xs : List Int) (e : Ending) (w' : World) : Prop :=
  Only [b, bo] w w' ∧
  match first xs with
  | some (t, h, n) => e = .returned (.bool (decide (t = tag))) ∧ Sl w' B bo to (if skip then (xs.take n).drop h else xs.take n) ∧ Sl w' B b 39 (xs.drop n)
  | none => e = .returned (.bool false) ∧ (∃ vo, Var w bo to vo ∧ Var w' bo to vo) ∧ Sl w' B b 39 xs

theorem SReadASN1_any (b bo : Nat) (to : TypeId) (vo : Value) (tag : Int) (xs : List Int) (w : World) (B : Nat) (h : Sl w B b 39 xs) (ho : Var w bo to vo)
    (hbo : bo ≠ b) (hBo : B ≤ bo) (hn : xs.length ≤ 4194304) :
    Calls Try.prog 27 #[.pointer (some ⟨b, 0, none⟩), .pointer (some ⟨bo, 0, none⟩), .int .u8 tag] w (TookTag w B b bo to true tag xs) := by
  have H := Lib.hid (fun W h' ho' ht' => SReadAnyASN1_any b bo w.heap.size to vo 0 xs W B h' ho' ht' (by decide) hbo (by have := h.lt; omega) (by have := ho.lt; omega) hBo h.low hn)
  have HH := Lib.hid h
  have HO := Lib.hid ho
  have hl1 := h.lt
  have hl2 := ho.lt
  have HL := Lib.hid (And.intro hl1 hl2)
  clear h ho hbo hBo hn hl1 hl2
  go_enter Try.func27, Try.ntmps27
  go_wp2_with fail
  refine (H.out _ (HH.out.alloc _) (HO.out.alloc _) (Var.new' _ _ _ _ rfl)).mono ?_
  intro e w1 hT
  unfold TookEl at hT
  obtain ⟨hk, hT⟩ := hT
  have hk' : Only [b, bo] w w1 := ((Only.refl _ _).alloc _).then hk (by
    intro i hi hlt
    simp at hi ⊢
    have := HL.out
    omega)
  revert hT
  have HT : Hid (TookTag w B b bo to true tag xs = fun e w' => TookTag w B b bo to true tag xs e w') := Lib.hid rfl
  cases hf : first xs with
  | none =>
    intro hT
    obtain ⟨rfl, ⟨t, _, _, ht⟩, ⟨vo', ho1, ho2⟩, hs⟩ := hT
    have hvo : Var w bo to vo' := by
      have h1 := HO.out.alloc (.cells #[.int .u8 0] 61)
      unfold Var at h1 ho1
      have hv : vo' = vo := by
        rw [ho1] at h1
        simpa using h1
      rw [hv]
      exact HO.out
    have hfin : TookTag w B b bo to true tag xs (.returned (.bool false)) w1 := by
      unfold TookTag
      rw [hf]
      exact ⟨hk', rfl, ⟨vo', hvo, ho2⟩, hs⟩
    have HF := Lib.hid hfin
    clear hfin hvo ho1 ho2 hs ht hk hk' H
    go_wp2_with fail
    go_ret
    exact HF.out
  | some q =>
    obtain ⟨t, hh, n⟩ := q
    intro hT
    obtain ⟨rfl, ht, ho2, hs⟩ := hT
    have hct := ht.cell
    have hfin : TookTag w B b bo to true tag xs (.returned (.bool (decide (t = tag)))) w1 := by
      unfold TookTag
      rw [hf]
      exact ⟨hk', rfl, ho2, hs⟩
    have HF := Lib.hid hfin
    clear hfin ho2 hs ht hk hk' H hf
    by_cases e : t = tag
    · have hq : (t != tag) = false := by simp [e]
      have HE := Lib.hid e
      clear e
      go_wp2_with fail
      go_ret
      have := HF.out
      rwa [decide_eq_true HE.out] at this
    · have hq : (t != tag) = true := by simp [e]
      have HE := Lib.hid e
      clear e
      go_wp2_with fail
      go_ret
      have := HF.out
      rwa [decide_eq_false HE.out] at this


end Go.Proofs.Ytlnoeipbbncnfaa
