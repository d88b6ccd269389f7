/- The reference's Text of a season. -/
import Derived.Test.YtcjibjggaleclaaSeason
import Derived.Test.YtcjibjggaleclaaLawRule
namespace Go.Proofs.Ytcjibjggaleclaa
open Go.RowKit

end Go.Proofs.Ytcjibjggaleclaa
