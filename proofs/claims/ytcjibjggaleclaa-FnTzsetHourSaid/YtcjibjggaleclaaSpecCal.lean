/- The reference's Leap, Days, Ahead, Weekday. -/
import Derived.Test.YtcjibjggaleclaaCalW
namespace Go.Proofs.Ytcjibjggaleclaa
open Go.RowKit

theorem specLeap_ret (y : Int) (h0 : 0 ≤ y) : Ret 27 #[.int .i64 y] (.bool (leapB y)) := by
  intro w
  have HF : Hid (leapB y = ((y % 4 == 0) && (y % 100 != 0) || (y % 400 == 0))) := by
    show leapB y = _
    rw [leapB, Bool.eq_iff_iff]
    simp
  cases h4 : (y % 4 == 0) <;> cases h100 : (y % 100 != 0) <;> cases h400 : (y % 400 == 0)
  all_goals
    have HG := HF.out
    rw [h4, h100, h400] at HG
    have HK := Lib.hid HG
    clear HG HF
    go_enter Try.func27, Try.ntmps27
    go_wp2
    go_ret
    rw [HK.out]
    exact ⟨rfl, Below.refl _ _⟩

theorem Days_ret (y m : Int) (hy : 0 ≤ y) (h0 : 1 ≤ m) (h1 : m ≤ 12) : Ret 29 #[.int .i64 y, .int .i64 m] (.int .i64 (dim y m)) := by
  intro w
  by_cases h2 : m = 2
  · subst h2
    have HC := specLeap_ret y hy
    cases hl : leapB y
    all_goals
      rw [hl] at HC
      have HC := Lib.hid HC
    · have HF := Lib.hid (show dim y 2 = 28 by simp [dim, dimL, lp, hl])
      go_enter Try.func29, Try.ntmps29
      go_wp2_with fail
      refine (HC.out _).mono ?_
      rintro e w1 ⟨rfl, hb⟩
      go_wp2_with fail
      go_ret
      rw [HF.out]
      exact ⟨rfl, hb⟩
    · have HF := Lib.hid (show dim y 2 = 29 by simp [dim, dimL, lp, hl])
      go_enter Try.func29, Try.ntmps29
      go_wp2_with fail
      refine (HC.out _).mono ?_
      rintro e w1 ⟨rfl, hb⟩
      go_wp2_with fail
      go_ret
      rw [HF.out]
      exact ⟨rfl, hb⟩
  · have HD := Lib.hid (show dim y m = if m = 4 ∨ m = 6 ∨ m = 9 ∨ m = 11 then 30 else 31 by rw [dim, dimL, if_neg h2])
    rcases month_cases m h0 h1 with rfl | rfl | rfl | rfl | rfl | rfl | rfl | rfl | rfl | rfl | rfl | rfl
    all_goals first | (exact absurd rfl h2) | skip
    all_goals
      clear h0 h1 h2
      go_enter Try.func29, Try.ntmps29
      go_wp2
      go_ret
      rw [HD.out]
      exact ⟨ret_i64 (by simp), Below.refl _ _⟩

theorem Ahead_ret (y : Int) (h0 : 1 ≤ y) (h1 : y ≤ 20000) : Ret 26 #[.int .i64 y] (.int .i64 (ahead y)) := by
  intro w
  go_enter Try.func26, Try.ntmps26
  go_wp2
  go_ret
  exact ⟨rfl, Below.refl _ _⟩
theorem ahead_bd (y : Int) (h0 : 1 ≤ y) (h1 : y ≤ 20000) : 0 ≤ ahead y ∧ ahead y ≤ 8000000 := by unfold ahead; omega

set_option maxHeartbeats 1000000 in
theorem Weekday_ret (y m : Int) (h0 : 1 ≤ y) (h1 : y ≤ 20000) (hm0 : 1 ≤ m) (hm1 : m ≤ 12) : Ret 28 #[.int .i64 y, .int .i64 m] (.int .i64 (wday y m)) := by
  intro w
  have ha := ahead_bd y h0 h1
  have HA := Lib.hid (Ahead_ret y h0 h1)
  have HV := Lib.hid (show wday y m = (ahead y + 1 + cum y m) % 7 from rfl)
  have hc1 := cum_one y
  have HC1 := Lib.hid hc1
  clear hc1
  generalize ahead y = ah at *
  generalize wday y m = wd at *
  go_enter Try.func28, Try.ntmps28
  go_wp2_with fail
  refine (HA.out _).mono ?_
  rintro e w1 ⟨rfl, hb⟩
  clear HA
  go_wp2_with fail
  go_loopw [5, 6] (fun n i W => ∃ k : Int, 1 ≤ k ∧ k ≤ m ∧ n = .int .i64 (ah + 1 + cum y k) ∧ i = .int .i64 k ∧ Below w.heap.size w W) (fun _ i _ => (13 - intOf i).toNat)
  case atStart => exact ⟨1, by omega, by omega, by rw [HC1.out]; simp, rfl, hb⟩
  case round =>
    clear hb HC1
    obtain ⟨k, hk0, hk1, rfl, rfl, hb⟩ := hrel
    have hcb := cum_bd y k hk0 (by omega)
    by_cases hkm : k < m
    · have HS := Lib.hid (cum_succ y k hk0 (by omega))
      have HD := Lib.hid (Days_ret y k (by omega) hk0 (by omega))
      have hdb := dim_bd y k
      generalize dim y k = D at *
      go_wp2_with fail
      refine (HD.out _).mono ?_
      rintro e w2 ⟨rfl, hb'⟩
      have hb2 : Below w.heap.size w w2 := hb.trans (hb'.mono hb.size)
      go_wp2_with fail
      go_roundw
      case rel => exact ⟨k + 1, by omega, by omega, by rw [HS.out]; congr 1; omega, rfl, hb2⟩
      case measure => simp [intOf]; omega
    · obtain rfl : k = m := by omega
      generalize cum y k = cu at *
      go_wp2_with fail
      go_ret
      rw [HV.out]
      exact ⟨rfl, hb⟩
end Go.Proofs.Ytcjibjggaleclaa
