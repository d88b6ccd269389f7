/- FnOffsetClock: its walk. -/
import Derived.Test.YtcjibjggaleclaaClock
import Derived.Test.YtcjibjggaleclaaPlainB
namespace Go.Proofs.Ytcjibjggaleclaa
open Go.RowKit

theorem Within_yes (n a b : Int) (h1 : a ≤ n) (h2 : n ≤ b) : Ret 14 #[.int .i64 n, .int .i64 a, .int .i64 b] (.bool true) := by
  intro w
  go_enter Try.func14, Try.ntmps14
  go_wp2
  go_ret
  exact ⟨rfl, Below.refl _ _⟩
theorem Within_no (n a b : Int) (h : ¬ (a ≤ n ∧ n ≤ b)) : Ret 14 #[.int .i64 n, .int .i64 a, .int .i64 b] (.bool false) := by
  intro w
  by_cases h1 : a ≤ n
  · have h2 : ¬ n ≤ b := by omega
    clear h
    go_enter Try.func14, Try.ntmps14
    go_wp2
    go_ret
    exact ⟨rfl, Below.refl _ _⟩
  · clear h
    go_enter Try.func14, Try.ntmps14
    go_wp2
    go_ret
    exact ⟨rfl, Below.refl _ _⟩

/-- the walk where the law speaks: behind its tests -/
theorem OffsetOf_clk (n : Int) (whole : Bool) (r : Bs) (h0 : -604799 ≤ n) (h1 : n ≤ 604799) (hr : noClk r) : Ret 16 #[.string (S (clkT n whole ++ r))] (.tuple #[.int .i64 n, .string (S r), .bool true]) := by
  have := OffsetOf_ret (clkT n whole ++ r)
  rw [offF_clk n whole r h0 h1 hr] at this
  exact this

end Go.Proofs.Ytcjibjggaleclaa
