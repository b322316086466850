/- The thin package's readers of numbers and bytes, by the package's own: contracts. -/
import Derived.Test.YtlnoeipbbncnfaaRd1
import Derived.Deep.RegionHeld3
namespace Go.Proofs.Ytlnoeipbbncnfaa
open Go.RowKit

theorem Var.new' (w : World) (b : Nat) (t : TypeId) (v : Value) (h : b = w.heap.size) : Var (w.alloc (.cells #[v] t)) b t v := by subst h; exact Var.new w t v
/-- What a number reader of the thin package hands back: a value, what is left, whether it went well. -/
def Res3 (w : World) (v : Value) (ys : List Int) (ok : Bool) (e : Ending) (w' : World) : Prop :=
  ∃ A c, e = .returned (.tuple #[v, .slice A ys.length c, .bool ok]) ∧ Rd w' w'.heap.size A ys ∧ Only [] w w'












end Go.Proofs.Ytlnoeipbbncnfaa
