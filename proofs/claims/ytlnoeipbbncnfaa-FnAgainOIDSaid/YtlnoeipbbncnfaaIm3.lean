/- The thin package's readers of elements: contracts. -/
import Derived.Test.YtlnoeipbbncnfaaIm2
import Derived.Test.YtlnoeipbbncnfaaRd5
namespace Go.Proofs.Ytlnoeipbbncnfaa
open Go.RowKit

theorem results_four {fn : Func} {t u v x : Tmp} (h : fn.results = #[.tmp t, .tmp u, .tmp v, .tmp x]) (tmps : Array Value) (P : Program) (w : World) :
    (results fn tmps).run P w = .ok (.tuple #[tmps.getD t undef, tmps.getD u undef, tmps.getD v undef, tmps.getD x undef]) w := by simp [results, h]
/-- Bytes, a value, what is left, whether it went well. -/
def ResBVB (w : World) (xs : List Int) (v : Value) (ys : List Int) (ok : Bool) (e : Ending) (w' : World) : Prop :=
  ∃ A c A' c', e = .returned (.tuple #[.slice A xs.length c, v, .slice A' ys.length c', .bool ok]) ∧ Rd w' w'.heap.size A xs ∧ Rd w' w'.heap.size A' ys ∧ Only [] w w'




end Go.Proofs.Ytlnoeipbbncnfaa
