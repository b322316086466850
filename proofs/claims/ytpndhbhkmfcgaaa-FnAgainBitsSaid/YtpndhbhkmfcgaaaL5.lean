/- The laws on reading elements of a tag, truths and numbers: walks. -/
import Derived.Test.YtpndhbhkmfcgaaaIm4
import Derived.Test.YtpndhbhkmfcgaaaSp4
import Derived.Test.YtpndhbhkmfcgaaaL1
import Derived.Test.YtpndhbhkmfcgaaaTag
namespace Go.Proofs.Ytpndhbhkmfcgaaa
open Go.RowKit








end Go.Proofs.Ytpndhbhkmfcgaaa
