/- Closed facts of the translation that every row of this seat asks: computed once by the kernel. No conditions. -/
import Derived.Test.YtcjibjggaleclaaRows
import Derived.JoinedOf
namespace Go.Proofs.Ytcjibjggaleclaa
theorem fact_make : Try.prog.make = some Rows.fnTzsetHourRow.make := by kernel_rfl
theorem fact_lifts : Try.prog.liftsFinal = Rows.fnTzsetHourRow.lifted := by kernel_rfl
theorem fact_mayEnter : Try.prog.mayEnter = true := by kernel_rfl
end Go.Proofs.Ytcjibjggaleclaa
