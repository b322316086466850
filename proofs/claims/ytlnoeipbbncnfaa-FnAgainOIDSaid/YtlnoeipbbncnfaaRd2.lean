/- The package's length-prefixed reading, and CopyBytes: contracts. -/
import Derived.Test.YtlnoeipbbncnfaaRd1
import Derived.Laws.CopyOwn
namespace Go.Proofs.Ytlnoeipbbncnfaa
open Go.RowKit


end Go.Proofs.Ytlnoeipbbncnfaa
