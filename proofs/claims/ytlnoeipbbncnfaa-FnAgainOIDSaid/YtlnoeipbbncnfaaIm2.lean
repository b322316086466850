/- The thin package's readers of bytes: contracts. -/
import Derived.Test.YtlnoeipbbncnfaaIm1
import Derived.Test.YtlnoeipbbncnfaaRd2
namespace Go.Proofs.Ytlnoeipbbncnfaa
open Go.RowKit

/-- What a reader of bytes hands back: bytes, what is left, whether it went well. -/
def ResBB (w : World) (xs ys : List Int) (ok : Bool) (e : Ending) (w' : World) : Prop :=
  ∃ A c A' c', e = .returned (.tuple #[.slice A xs.length c, .slice A' ys.length c', .bool ok]) ∧ Rd w' w'.heap.size A xs ∧ Rd w' w'.heap.size A' ys ∧ Only [] w w'
/-- What is left, and whether it went well. -/
def Res2 (w : World) (ys : List Int) (ok : Bool) (e : Ending) (w' : World) : Prop :=
  ∃ A c, e = .returned (.tuple #[.slice A ys.length c, .bool ok]) ∧ Rd w' w'.heap.size A ys ∧ Only [] w w'













end Go.Proofs.Ytlnoeipbbncnfaa
