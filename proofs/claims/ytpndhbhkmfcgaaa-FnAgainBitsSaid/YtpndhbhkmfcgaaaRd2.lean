/- The package's length-prefixed reading, and CopyBytes: contracts. -/
import Derived.Test.YtpndhbhkmfcgaaaRd1
import Derived.Laws.CopyOwn
namespace Go.Proofs.Ytpndhbhkmfcgaaa
open Go.RowKit


end Go.Proofs.Ytpndhbhkmfcgaaa
