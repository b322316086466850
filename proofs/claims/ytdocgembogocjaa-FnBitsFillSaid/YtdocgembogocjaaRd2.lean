/- The package's length-prefixed reading, and CopyBytes: contracts. -/
import Derived.Test.YtdocgembogocjaaRd1
import Derived.Laws.CopyOwn
namespace Go.Proofs.Ytdocgembogocjaa
open Go.RowKit


end Go.Proofs.Ytdocgembogocjaa
