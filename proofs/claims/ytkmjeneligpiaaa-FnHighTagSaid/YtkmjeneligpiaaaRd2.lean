/- The package's length-prefixed reading, and CopyBytes: contracts. -/
import Derived.Test.YtkmjeneligpiaaaRd1
import Derived.Laws.CopyOwn
namespace Go.Proofs.Ytkmjeneligpiaaa
open Go.RowKit


end Go.Proofs.Ytkmjeneligpiaaa
