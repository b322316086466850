/- The package's length-prefixed reading, and CopyBytes: contracts. -/
import Derived.Test.YtilofbhpgcdenaaRd1
import Derived.Laws.CopyOwn
namespace Go.Proofs.Ytilofbhpgcdenaa
open Go.RowKit


end Go.Proofs.Ytilofbhpgcdenaa
