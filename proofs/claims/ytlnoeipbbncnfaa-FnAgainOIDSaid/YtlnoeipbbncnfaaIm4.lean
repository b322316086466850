/- The thin package's readers of elements of a tag, of truths and of numbers: contracts. -/
import Derived.Test.YtlnoeipbbncnfaaIm3
import Derived.Test.YtlnoeipbbncnfaaMth2
import Derived.Test.YtlnoeipbbncnfaaOpt
namespace Go.Proofs.Ytlnoeipbbncnfaa
open Go.RowKit

theorem wrap_id_u8 (x : Int) (h0 : 0 ≤ x) (h1 : x ≤ 255) : IntKind.u8.wrap x = x := by simp [IntKind.wrap, IntKind.bits, IntKind.signed]; omega
/-- Bytes, what is left, whether it went well, by what should be given. -/
def ResS (w : World) (R : Option (List Int × List Int)) (e : Ending) (w' : World) : Prop :=
  ∃ ok zs ys A c A' c', e = .returned (.tuple #[.slice A zs.length c, .slice A' ys.length c', .bool ok]) ∧ Rd w' w'.heap.size A zs ∧ Rd w' w'.heap.size A' ys ∧ Only [] w w' ∧ zs.length ≤ 4194304 ∧ ys.length ≤ 4194304 ∧ Got R ok zs ys
/-- A value, what is left, whether it went well, by what should be given. -/
def ResV {α : Type} (mk : α → Value) (w : World) (R : Option (α × List Int)) (e : Ending) (w' : World) : Prop :=
  ∃ ok x ys A c, e = .returned (.tuple #[mk x, .slice A ys.length c, .bool ok]) ∧ Rd w' w'.heap.size A ys ∧ Only [] w w' ∧ ys.length ≤ 4194304 ∧ Got R ok x ys
/-- Bytes, whether they are there, what is left, whether it went well, by what should be given. -/
def ResP (w : World) (p : Bool) (R : Option (List Int × List Int)) (e : Ending) (w' : World) : Prop :=
  ∃ ok zs ys q A c A' c', e = .returned (.tuple #[.slice A zs.length c, .bool q, .slice A' ys.length c', .bool ok]) ∧ Rd w' w'.heap.size A zs ∧ Rd w' w'.heap.size A' ys ∧ Only [] w w' ∧ zs.length ≤ 4194304 ∧ ys.length ≤ 4194304 ∧ Got R ok zs ys ∧ (ok = true → q = p)
/-- What is left, whether it went well, by what should be given. -/
def ResU (w : World) (R : Option (Unit × List Int)) (e : Ending) (w' : World) : Prop :=
  ∃ ok ys A c, e = .returned (.tuple #[.slice A ys.length c, .bool ok]) ∧ Rd w' w'.heap.size A ys ∧ Only [] w w' ∧ ys.length ≤ 4194304 ∧ Got R ok () ys











end Go.Proofs.Ytlnoeipbbncnfaa
