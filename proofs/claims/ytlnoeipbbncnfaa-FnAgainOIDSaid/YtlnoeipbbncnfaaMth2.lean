/- Values read by the package out of an element of a tag: contracts. -/
import Derived.Test.YtlnoeipbbncnfaaMth
namespace Go.Proofs.Ytlnoeipbbncnfaa
open Go.RowKit






end Go.Proofs.Ytlnoeipbbncnfaa
