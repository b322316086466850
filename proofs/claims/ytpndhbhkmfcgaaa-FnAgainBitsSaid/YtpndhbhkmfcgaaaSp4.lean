/- The reference's readers of contents: contracts. -/
import Derived.Test.YtpndhbhkmfcgaaaSpec3
import Derived.Test.YtpndhbhkmfcgaaaInt
import Derived.Test.YtpndhbhkmfcgaaaMth
namespace Go.Proofs.Ytpndhbhkmfcgaaa
open Go.RowKit




end Go.Proofs.Ytpndhbhkmfcgaaa
