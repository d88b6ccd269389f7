/- OffsetOf, reads, and the reference's Offset. -/
import Derived.Test.YtkikpcfcjkgblaaSpecNum
namespace Go.Proofs.Ytkikpcfcjkgblaa
open Go.RowKit

theorem TzsetOffset_ret (l : Bs) : Ret 43 #[.string (S l)] (numV (offF l)) := by
  intro w
  go_enter Try.func43, Try.ntmps43
  go_wp2_with fail
  refine (tzsetOffset_ret l _).mono ?_
  rintro e w1 ⟨rfl, hb⟩
  unfold numV
  go_wp2
  go_ret3
  exact ⟨rfl, hb⟩
theorem OffsetOf_ret (l : Bs) : Ret 18 #[.string (S l)] (numV (offF l)) := by
  intro w
  go_enter Try.func18, Try.ntmps18
  go_wp2_with fail
  refine (TzsetOffset_ret l _).mono ?_
  rintro e w1 ⟨rfl, hb⟩
  unfold numV
  go_wp2
  go_ret3
  exact ⟨rfl, hb⟩
theorem reads_ret : Ret 20 #[] (.bool true) := by
  intro w
  go_enter Try.func20, Try.ntmps20
  go_wp2_with fail
  refine (OffsetOf_ret [45, 49, 58, 51, 48, 44, 120] _).mono ?_
  rintro e w1 ⟨rfl, hb⟩
  rw [show offF [45, 49, 58, 51, 48, 44, 120] = (-5400, [44, 120], true) by decide]
  unfold numV
  go_wp2
  go_ret
  exact ⟨rfl, hb⟩

end Go.Proofs.Ytkikpcfcjkgblaa
