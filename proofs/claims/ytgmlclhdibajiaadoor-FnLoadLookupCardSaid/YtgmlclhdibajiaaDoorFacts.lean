/- Closed facts of the translation that every row of this seat asks: computed once by the kernel. No conditions. -/
import Derived.Test.YtgmlclhdibajiaaDoorRows
import Derived.JoinedOf
namespace Go.Proofs.YtgmlclhdibajiaaDoor
theorem fact_make : Tryd.prog.make = some Rows.fnLoadLookupRow.make := by kernel_rfl
theorem fact_lifts : Tryd.prog.liftsFinal = Rows.fnLoadLookupRow.lifted := by kernel_rfl
theorem fact_mayEnter : Tryd.prog.mayEnter = true := by kernel_rfl
end Go.Proofs.YtgmlclhdibajiaaDoor
