/- Elements within elements: plain laws. The reference's leaf and trees: contracts. -/
import Derived.Test.YtndnglpehghmeaaZ11
import Derived.Test.YtndnglpehghmeaaZ1
import Derived.Test.YtndnglpehghmeaaZ9
/-! ### Elements within elements: plain laws. -/
namespace Go.Proofs.Ytndnglpehghmeaa
open Go.RowKit
set_option linter.unusedVariables false

/-- Steps that are elements: of constructed ones the steps within, of other ones one step that adds bytes. -/
def Tr : Its → Prop
  | .nil => True
  | .cons k n t d o kids rest => (k = 11 ∧ n = 0 ∧ d = [] ∧ o = []) ∧ t % 32 ≠ 31 ∧ (t / 32 % 2 = 1 → Tr kids) ∧ (t / 32 % 2 = 0 → ∃ d', kids = .cons 6 0 0 d' [] .nil .nil) ∧ Tr rest
/-- The bytes that they build. -/
def encT : Its → List Int
  | .nil => []
  | .cons k _ t d _ kids rest => (if k = 6 then d else wrapped t (encT kids)) ++ encT rest
/-- Steps without arcs. -/
def NoArc : Its → Prop
  | .nil => True
  | .cons _ _ _ _ o kids rest => o = [] ∧ NoArc kids ∧ NoArc rest
theorem Tr.noArc : ∀ {its : Its}, Tr its → NoArc its := by
  intro its
  induction its with
  | nil => intro _; trivial
  | cons k n t d o kids rest ihk ihr =>
    rintro ⟨⟨_, _, _, ho⟩, _, h1, h0, hr⟩
    refine ⟨ho, ?_, ihr hr⟩
    rcases Int.emod_two_eq (t / 32) with h | h
    · obtain ⟨d', rfl⟩ := h0 h
      exact ⟨rfl, trivial, trivial⟩
    · exact ihk (h1 h)
theorem run_tree : ∀ (its : Its), Tr its → ∀ (ins : Bool) (cs : List Int), run its ins cs = some (.good (cs ++ encT its)) := by
  intro its
  induction its with
  | nil => intro _ ins cs; simp [run, encT]
  | cons k n t d o kids rest ihk ihr =>
    rintro ⟨⟨rfl, rfl, rfl, rfl⟩, h31, h1, h0, hr⟩ ins cs
    have hk : run kids true [] = some (.good (encT kids)) := by
      rcases Int.emod_two_eq (t / 32) with h | h
      · obtain ⟨d', rfl⟩ := h0 h
        simp [run, one, resCat, leaf, encT]
      · simpa using ihk (h1 h) true []
    have h1 : one ins 11 0 t [] [] (run kids true []) (run kids ins) cs = some (.good (cs ++ wrapped t (encT kids))) := by
      show (run kids true []).map (fun r => (asnAll t ins r).pre cs) = _
      rw [hk]
      simp only [Option.map_some, asnAll]
      rw [if_neg h31]
      rfl
    unfold run
    rw [h1]
    show run rest ins (cs ++ wrapped t (encT kids)) = _
    rw [ihr hr]
    simp [encT]
/-- What is read of the first element of what they build. -/
theorem first_tree {t : Int} {c r : List Int} (h31 : t % 32 ≠ 31) (hn : c.length < 4294967296) :
    first (wrapped t c ++ r) = some (t, (hdr t c.length).length, (hdr t c.length).length + c.length) ∧ ((wrapped t c ++ r).take ((hdr t c.length).length + c.length)).drop (hdr t c.length).length = c ∧ (wrapped t c ++ r).drop ((hdr t c.length).length + c.length) = r := by
  unfold wrapped
  refine ⟨?_, ?_, ?_⟩
  · rw [List.append_assoc]; exact first_hdr h31 hn (by simp)
  · rw [List.take_append_of_le_length (by simp), List.take_of_length_le (by simp)]
    rw [List.drop_append_of_le_length (by simp), List.drop_of_length_le (by simp)]
    rfl
  · rw [List.drop_append_of_le_length (by simp), List.drop_of_length_le (by simp)]
    rfl
theorem wrapped_pos (t : Int) (c : List Int) : 0 < (wrapped t c).length := by
  unfold wrapped
  rw [List.length_append, hdr_len]
  split <;> omega
theorem Tr.len_le {its : Its} (h : Tr its) {ins : Bool} (hr : Rng its) (ho : Ok its ins) : (encT its).length ≤ wt its := by
  have := run_le its ins ins [] _ hr ho (run_tree its h ins [])
  simpa using this
/-- A tag's sixth bit. -/
theorem and32_all : ∀ k : Nat, k < 256 → bits .and .i64 (k : Int) 32 = (k : Int) / 32 % 2 * 32 := by decide +kernel
theorem and32 (t : Int) (h0 : 0 ≤ t) (h1 : t ≤ 255) : bits .and .i64 t 32 = t / 32 % 2 * 32 := by
  obtain ⟨k, rfl⟩ := Int.eq_ofNat_of_zero_le h0
  exact and32_all k (by omega)

end Go.Proofs.Ytndnglpehghmeaa

/-! ### The reference's leaf and trees: contracts. -/
namespace Go.Proofs.Ytndnglpehghmeaa
open Go.RowKit
set_option linter.unusedVariables false

/-- The leaf's answer. -/
def LeafSays (k n t : Int) (o : List Int) (kids : Its) (r : Bool) : Prop := r = true → k = 6 ∧ n = 0 ∧ t = 0 ∧ o = [] ∧ kids = .nil
theorem its_nil {its : Its} (h : its.len = 0) : its = .nil := by cases its with | nil => rfl | cons => simp [Its.len] at h
theorem leaf_any (k n t : Int) (d o : List Int) (kids : Its) (Ad : Option Addr) (cd : Nat) (Ao : Option Addr) (co : Nat) (Ak : Option Addr) (ck : Nat) (w : World) (ho : o.length ≤ 140737488355328) (hk : kids.len ≤ 140737488355328) :
    Calls Try.prog 18 #[itemV k n t d o kids Ad cd Ao co Ak ck] w (Tells w (LeafSays k n t o kids)) := by
  have H1 : Hid (k = 6 → n = 0 → t = 0 → o.length = 0 → kids.len = 0 → LeafSays k n t o kids true) := Lib.hid (fun a b c d e _ => ⟨a, b, c, by simpa using d, its_nil e⟩)
  have HF : Hid (LeafSays k n t o kids false) := Lib.hid (fun h => by cases h)
  have HO : Hid (∀ x, Only [] w (w.alloc x)) := Lib.hid (fun x => (Only.refl _ _).alloc _)
  obtain ⟨lo, hlo⟩ : ∃ lo, o.length = lo := ⟨_, rfl⟩
  obtain ⟨lk, hlk⟩ : ∃ lk, kids.len = lk := ⟨_, rfl⟩
  rw [hlo, hlk] at H1
  obtain ⟨P, hP⟩ : ∃ P, LeafSays k n t o kids = P := ⟨_, rfl⟩
  rw [hP] at H1 HF ⊢
  unfold itemV
  rw [hlo, hlk]
  clear hlo hlk hP ho hk
  by_cases c1 : k = 6
  · by_cases c2 : n = 0
    · by_cases c3 : t = 0
      · by_cases c4 : lo = 0
        · by_cases c5 : lk = 0
          · subst c1 c2 c3 c4 c5
            go_enter Try.func18, Try.ntmps18
            go_wp2_with fail
            go_ret
            exact ⟨true, rfl, H1.out (by simp) (by simp) (by simp) (by simp) (by simp), by first | exact HO.out _ | exact Only.refl _ _⟩
          · subst c1 c2 c3 c4
            have c6 : ((lk : Int) == 0) = false := by simp; omega
            go_enter Try.func18, Try.ntmps18
            go_wp2_with fail
            go_ret
            exact ⟨_, rfl, by first | exact HF.out | (rw [c6]; exact HF.out), by first | exact HO.out _ | exact Only.refl _ _⟩
        · subst c1 c2 c3
          go_enter Try.func18, Try.ntmps18
          go_wp2_with fail
          go_ret
          exact ⟨false, rfl, HF.out, by first | exact HO.out _ | exact Only.refl _ _⟩
      · subst c1 c2
        go_enter Try.func18, Try.ntmps18
        go_wp2_with fail
        go_ret
        exact ⟨false, rfl, HF.out, by first | exact HO.out _ | exact Only.refl _ _⟩
    · subst c1
      go_enter Try.func18, Try.ntmps18
      go_wp2_with fail
      go_ret
      exact ⟨false, rfl, HF.out, by first | exact HO.out _ | exact Only.refl _ _⟩
  · go_enter Try.func18, Try.ntmps18
    go_wp2_with fail
    go_ret
    exact ⟨false, rfl, HF.out, by first | exact HO.out _ | exact Only.refl _ _⟩

end Go.Proofs.Ytndnglpehghmeaa
