/- The package's length-prefixed reading, and CopyBytes: contracts. -/
import Derived.Test.YthlnlbofbinjhaaRd1
import Derived.Laws.CopyOwn
namespace Go.Proofs.Ythlnlbofbinjhaa
open Go.RowKit


end Go.Proofs.Ythlnlbofbinjhaa
