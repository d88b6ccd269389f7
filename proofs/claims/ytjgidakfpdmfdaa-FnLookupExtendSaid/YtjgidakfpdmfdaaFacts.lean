/- Closed facts of the translation that every row of this seat asks: computed once by the kernel. No conditions. -/
import Derived.Test.YtjgidakfpdmfdaaRows
import Derived.JoinedOf
namespace Go.Proofs.Ytjgidakfpdmfdaa
theorem fact_make : Try.prog.make = some Rows.fnNameMissingRow.make := by kernel_rfl
theorem fact_lifts : Try.prog.liftsFinal = Rows.fnNameMissingRow.lifted := by kernel_rfl
theorem fact_mayEnter : Try.prog.mayEnter = true := by kernel_rfl
end Go.Proofs.Ytjgidakfpdmfdaa
