/- copied, str, and the package's String: contracts of its reading. -/
import Derived.Test.YtlnoeipbbncnfaaProg
import Derived.Test.YtlnoeipbbncnfaaBase
namespace Go.Proofs.Ytlnoeipbbncnfaa
open Go.RowKit

theorem u8_info : (Try.prog.info? 5).map (fun i => (i.zero, i.size, i.bytes)) = some (some (.int .u8 0), 1, 1) := by kernel_rfl

@[go_sem] theorem eql_nil_bytes (w : World) (a : Option Addr) (n c n' c' : Nat) : (binOp .eql 22 (.slice a n c) (.slice none n' c')).run Try.prog w = .ok (.bool a.isNone) w :=
  Lib.run_eql_slice_nil (P := Try.prog) w 22 5 a n c n' c' Try.underlying22
@[go_sem] theorem neq_nil_bytes (w : World) (a : Option Addr) (n c n' c' : Nat) : (binOp .neq 22 (.slice a n c) (.slice none n' c')).run Try.prog w = .ok (.bool (!a.isNone)) w :=
  run_neq_slice_nil_any (P := Try.prog) w 22 5 a n c n' c' Try.underlying22

/-- A variable that holds a slice which reads as xs. -/
def Sl (w : World) (B b : Nat) (t : TypeId) (xs : List Int) : Prop :=
  B ≤ b ∧ ∃ A c, Var w b t (.slice A xs.length c) ∧ xs.length ≤ c ∧ c ≤ maxLen ∧ Rd w B A xs
section
variable {w w' : World} {B b : Nat} {t : TypeId} {xs : List Int}
theorem Sl.lt (h : Sl w B b t xs) : b < w.heap.size := by obtain ⟨_, _, _, hv, _⟩ := h; exact hv.lt
theorem Sl.low (h : Sl w B b t xs) : B ≤ w.heap.size := Nat.le_of_lt (Nat.lt_of_le_of_lt h.1 h.lt)
theorem Sl.byt (h : Sl w B b t xs) : Byt xs := by obtain ⟨_, _, _, _, _, _, h⟩ := h; exact h.1
theorem Sl.only {l : List Nat} (h : Sl w B b t xs) (ho : Only l w w') (hb : b ∉ l) (hl : ∀ k ∈ l, B ≤ k) : Sl w' B b t xs := by
  have hlow := h.low
  obtain ⟨h1, A, c, hv, hc, hm, hr⟩ := h
  exact ⟨h1, A, c, hv.only ho hb, hc, hm, hr.only ho hl hlow⟩
theorem Sl.alloc (h : Sl w B b t xs) (o : Obj) : Sl (w.alloc o) B b t xs := h.only (l := []) ((Only.refl _ _).alloc o) (by simp) (by simp)
theorem Sl.drew (h : Sl w B b t xs) : Sl w.drew B b t xs := h
theorem Sl.far (h : Sl w B b t xs) {p : Addr} (hp : b ≠ p.block) (hB : B ≤ p.block) (u : Value) : Sl (w.setCell p u) B b t xs := by
  obtain ⟨h1, A, c, hv, hc, hm, hr⟩ := h
  exact ⟨h1, A, c, hv.far hp u, hc, hm, hr.setCell hB u⟩
end

/-- What 'copied' hands back. -/
def Copied (w : World) (xs : List Int) (e : Ending) (w' : World) : Prop :=
  ∃ A c, e = .returned (.slice A xs.length c) ∧ xs.length ≤ c ∧ c ≤ maxLen ∧ w'.ownsRow w.heap.size 5 1 (.slice A xs.length c) xs.length (xs.map (Value.int .u8)) ∧ Only [] w w'

theorem copied_any (A : Option Addr) (n c : Nat) (xs : List Int) (w : World) (B : Nat) (h : Rd w B A xs) (hn : n = xs.length) (hb : xs.length ≤ 140737488355328) :
    Calls Try.prog 20 #[.slice A n c] w (Copied w xs) := by
  subst hn
  obtain ⟨i0, hi, hz0, hz1, hz2⟩ := info_parts u8_info
  have hcells : ∀ ad, A = some ad → ∀ j u, (xs.map (Value.int .u8))[j]? = some u → w.cell? (ad.add j) = some u := by
    intro ad hA j u hu
    have hj : j < xs.length := by
      rcases Nat.lt_or_ge j xs.length with hj | hj
      · exact hj
      · simp [List.getElem?_eq_none hj] at hu
    obtain ⟨b, off, e, _, hc⟩ := h.2 (by omega)
    rw [hA] at e
    replace e := Option.some.inj e
    subst e
    have hp : (⟨b, off, none⟩ : Addr).add j = ⟨b, off + j, none⟩ := by unfold Addr.add; split <;> simp_all
    rw [hp, hc j hj]
    simp [List.getElem?_eq_getElem hj] at hu
    subst hu
    simp [List.getD_eq_getElem?_getD, List.getElem?_eq_getElem hj]
  have hfin : ∀ v' w', w'.ownsRow w.heap.size 5 1 v' (0 + xs.length) ([] ++ xs.map (Value.int .u8)) → Only [] w w' → Copied w xs (.returned v') w' := by
    intro v' w' ho hk
    simp only [Nat.zero_add, List.nil_append] at ho
    obtain ⟨A', c', rfl, h1, h2, _⟩ := own_form ho
    exact ⟨A', c', rfl, h1, h2, ho, hk⟩
  have H1 := Lib.hid hcells
  have H2 := Lib.hid hfin
  have H3 := Lib.hid hb
  clear hcells hfin hb
  rcases A with _ | ad
  · have h0 : xs = [] := by
      rcases xs with _ | ⟨x, xs⟩
      · rfl
      · obtain ⟨_, _, e, _⟩ := h.2 (by simp)
        cases e
    subst h0
    go_enter Try.func20, Try.ntmps20
    go_wp2
    go_ret
    exact H2.out _ _ (World.ownsRow_nil _ _ _ _) (Only.refl _ _)
  · clear h
    go_enter Try.func20, Try.ntmps20
    go_wp2_with (at_builtin; refine wpList_append_own _ rfl _ _ 22 rfl w.heap.size 5 i0 (.int .u8 0) 1 1 Try.underlying22 hi hz0 hz1 hz2 rfl (by decide) (.slice none 0 0) 0 [] rfl (World.ownsRow_nil _ _ _ _) ad xs.length c (xs.map (Value.int .u8)) rfl ?c0 (H1.out ad rfl) ?c2 ?c3 ?c4 ?c5 ?_)
    case c0 => simp
    case c2 => exact Byt.oneCells xs
    case c3 => have := H3.out; unfold maxLen; omega
    case c4 => have := H3.out; omega
    case c5 => exact Nat.le_refl _
    · intro v' w1 hown hg _
      have hk : Only [] w w1 := Only.grown hg (by simp [Value.ownBlock])
      have K1 := Lib.hid hown
      have K2 := Lib.hid hk
      clear hown hg hk
      go_wp2
      go_ret
      exact H2.out _ _ (by simpa using K1.out) K2.out

theorem str_any (A : Option Addr) (n c : Nat) (xs : List Int) (w : World) (B : Nat) (h : Rd w B A xs) (hn : n = xs.length) (hb : xs.length ≤ 140737488355328) :
    Calls Try.prog 18 #[.slice A n c] w (Copied w xs) := by
  have H := Lib.hid (copied_any A n c xs w B h hn hb)
  clear h hn hb
  go_enter Try.func18, Try.ntmps18
  go_wp2_with fail
  refine H.out.mono ?_
  rintro e w' ⟨A', c', rfl, h1, h2, h3, h4⟩
  have K : Copied w xs (.returned (.slice A' xs.length c')) w' := ⟨A', c', rfl, h1, h2, h3, h4⟩
  have HK := Lib.hid K
  clear K h1 h2 h3 h4 H
  go_wp2
  go_ret
  exact HK.out

/-! ### read -/
theorem read_ok {t : TypeId} (b : Nat) (A : Option Addr) (n c : Nat) (k : Int) (w : World) (hv : Var w b t (.slice A n c)) (h0 : 0 ≤ k) (h1 : k ≤ (n : Int)) (h2 : n ≤ c) (_h3 : c ≤ maxLen) :
    Calls Try.prog 37 #[.pointer (some ⟨b, 0, none⟩), .int .i64 k] w fun e w' => e = .returned (.slice A k.toNat c) ∧ w.setCell ⟨b, 0, none⟩ (.slice (cutA A c k.toNat) (n - k.toNat) (c - k.toNat)) = w' := by
  obtain ⟨j, rfl⟩ := Int.eq_ofNat_of_zero_le h0
  rw [Int.toNat_natCast]
  have hc := hv.cell
  have hf := hv.free
  have h1' : j ≤ n := by omega
  clear hv
  go_enter Try.func37, Try.ntmps37
  go_wp2
  all_goals
    go_ret
    refine ⟨rfl, ?_⟩
    simp [cutA, *]

theorem read_no {t : TypeId} (b : Nat) (A : Option Addr) (n c : Nat) (k : Int) (w : World) (hv : Var w b t (.slice A n c)) (h : k < 0 ∨ (n : Int) < k) :
    Calls Try.prog 37 #[.pointer (some ⟨b, 0, none⟩), .int .i64 k] w fun e w' => e = .returned (.slice none 0 0) ∧ w = w' := by
  have hc := hv.cell
  have hf := hv.free
  clear hv
  by_cases h' : (n : Int) < k
  · go_enter Try.func37, Try.ntmps37
    go_wp2
    go_ret
    exact ⟨rfl, rfl⟩
  · have hk : k < 0 := by omega
    have hd : decide ((n : Int) < k) = false := by simpa using h'
    go_enter Try.func37, Try.ntmps37
    go_wp2
    go_ret
    exact ⟨rfl, rfl⟩
end Go.Proofs.Ytlnoeipbbncnfaa
