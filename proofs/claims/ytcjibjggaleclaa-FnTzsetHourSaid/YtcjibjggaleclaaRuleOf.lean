/- TzsetRule and RuleOf: the rule, handed on. -/
import Derived.Test.YtcjibjggaleclaaRule
namespace Go.Proofs.Ytcjibjggaleclaa
open Go.RowKit

end Go.Proofs.Ytcjibjggaleclaa
