/- The laws on reading elements of a tag, truths and numbers: walks. -/
import Derived.Test.YtilofbhpgcdenaaIm4
import Derived.Test.YtilofbhpgcdenaaSp4
import Derived.Test.YtilofbhpgcdenaaL1
import Derived.Test.YtilofbhpgcdenaaTag
namespace Go.Proofs.Ytilofbhpgcdenaa
open Go.RowKit








end Go.Proofs.Ytilofbhpgcdenaa
