/- The reference's readers of contents: contracts. -/
import Derived.Test.YtlnoeipbbncnfaaSpec3
import Derived.Test.YtlnoeipbbncnfaaInt
import Derived.Test.YtlnoeipbbncnfaaMth
namespace Go.Proofs.Ytlnoeipbbncnfaa
open Go.RowKit




end Go.Proofs.Ytlnoeipbbncnfaa
