/- Values read by the package out of an element of a tag: contracts. -/
import Derived.Test.YtkmjeneligpiaaaMth
namespace Go.Proofs.Ytkmjeneligpiaaa
open Go.RowKit






end Go.Proofs.Ytkmjeneligpiaaa
