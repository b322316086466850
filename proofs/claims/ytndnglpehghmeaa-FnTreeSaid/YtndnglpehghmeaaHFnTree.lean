/- The law FnTree holds: for every input the Go function returns true, and its arguments read as before. No condition. -/
import Derived.Test.YtndnglpehghmeaaRows
import Derived.Test.YtndnglpehghmeaaClFnTree
import Derived.Test.YtndnglpehghmeaaZ16
import Derived.Test.YtndnglpehghmeaaZ17
import Derived.WalkKit
import Derived.ProofKit
import Derived.OpenShut
import Derived.ShutString
import Derived.ChangeOld
import Derived.Below
import Derived.SizedLaws
namespace Go.Proofs.Ytndnglpehghmeaa.fnTree
open Go.ChangeShapes Go.WideShapes Go.ChangeAt Go.RowKit
set_option linter.unusedVariables false

set_option maxRecDepth 100000 in
theorem lifted (os : Os) (started : os.Started) (H : Type) (enc : TypeId × Value → H) :
    ReturnsInHanded {} Try.checked os 3 .any (Rows.fnTreeSpec.pre6 enc Try.prog Try.f3 Rows.fnTreeRow.domain false) (Rows.fnTreeSpec.post enc Try.prog Try.f3 false true false false) := by
  refine returnsInHanded_of_change_sized (C := Try.checked) Closed.own started (by kernel_rfl) Try.func3
    (ChangeSpec.witness6 (enc := enc) (C := Try.checked) false ⟨#[], #[.slice none 0 0], []⟩ 8 (by kernel_rfl) (by kernel_rfl) (by kernel_rfl) (by kernel_rfl)) ?_
  intro W base args ds gs before hval0 hW hcnd hsz0 _
  have hval : ∀ (j : Nat) t v, Try.f3.params[j]? = some t → args[j]? = some v → Value.okWide Try.prog W .any base t v := hval0
  have hsz : (DataW.weightsEach Try.prog (Try.f3.params.toList ++ Rows.fnTreeSpec.plain.varTypes Try.prog) (ds ++ gs)).all (· ≤ reachBytes) = true := hsz0
  have hW' := hW
  obtain ⟨p, q, hA0, hV, rfl, hfz, hnd⟩ := hW
  have hA : DataW.TrodAll enc Try.prog W 0 (fun _ => true) true Try.f3.params.toList args.toList ds p := hA0
  rw [Try.params3] at hA hval hsz
  obtain ⟨v0, vs0, d0, ds0, p0, q0, hargs, rfl, rfl, h0, r0⟩ := trodAll_cons hA
  obtain ⟨rfl, rfl, rfl⟩ := trodAll_nil r0
  obtain rfl : args = #[v0] := by cases args; simp_all
  obtain ⟨rfl, rfl⟩ := trodVars_none hV
  have hall : ∀ (j : Nat) (t : TypeId) (d : DataW H), ([22] : List TypeId)[j]? = some t → ([d0] : List (DataW H))[j]? = some d → ∀ m ∈ d.weights Try.prog t, m ≤ reachBytes := by
    intro j t d h1 h2 m hm
    have := List.all_eq_true.1 hsz m (DataW.weights_mem_each (j := j) (t := t) (d := d) (by rw [List.getElem?_append_left (List.getElem?_eq_some_iff.1 h1).1]; exact h1) (by rw [List.append_nil]; exact h2) m hm)
    simpa using this
  obtain ⟨a0, len0, cap0, rfl⟩ := okWide_slice Try.underlying22 (hval 0 22 v0 rfl rfl)
  have k0 := h0
  have lt0 : ∀ x ∈ p0, x.block < W.heap.size := by obtain ⟨m, hm⟩ := k0; exact DataW.trod_lt m _ _ _ hm
  obtain ⟨its0, f01, f02, f03, f04, f05⟩ : ∃ its, len0 = its.len ∧ its.len ≤ 140737488355328 ∧ ItsRd W W.heap.size a0 its ∧ Rng its ∧ Sz its := by
    obtain ⟨fuel, hf⟩ := h0
    obtain ⟨A, c, its, hcs, _, _, g1, g2, g3, g4⟩ := items_open enc W fuel _ _ hf (hall 0 _ _ rfl rfl)
    simp [Value.cells] at hcs
    obtain ⟨rfl, rfl, rfl⟩ := hcs
    exact ⟨its, rfl, g1, g2, g3, g4⟩
  clear hA0 hval0
  refine (law_FnTree its0 a0 len0 cap0 W f03 f01 (by omega) f05 f04).mono fun e W' ⟨he, bel⟩ => ?_
  subst he
  exact ⟨_, rfl, _, _, _, [], _, [], hW', trodAll_mk1 (shut_bool Try.underlying4 _), (trodAll_cons_mk (Below.trod Closed.laidOut (by kernel_rfl) (of_decide_eq_true (by kernel_rfl)) k0 bel lt0) trodAll_mk0), rfl, bel.frame _, fun h => by cases h⟩

theorem over : Rows.fnTreeRow.holds Try.pinned (OpenSpec.ofChange Rows.fnTreeSpec) :=
  OpenClaim.holds_of_wide 3 Try.f3 rfl rfl rfl rfl rfl rfl rfl ⟨rfl, rfl, rfl, rfl, rfl⟩ rfl rfl rfl rfl rfl Closed.hfn Try.func3 Closed.closed Closed.hinst Closed.hwrap
    (fun os started H enc _ => lifted os started H enc)

theorem proved : Rows.FnTreeSaid := over
#print axioms proved
end Go.Proofs.Ytndnglpehghmeaa.fnTree
