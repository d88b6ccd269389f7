/- isLeap, daysIn, daysBefore: what they compute, at every year. -/
import Derived.Test.YtgmlclhdibajiaaDoorWords
import Derived.Test.YtgmlclhdibajiaaDoorCal
namespace Go.Proofs.YtgmlclhdibajiaaDoor
open Go.RowKit

theorem and3 (y : Int) : bits .and .i64 y 3 = y % 4 := by
  show IntKind.i64.wrap ((BitVec.ofInt 64 y &&& BitVec.ofInt 64 3).toNat : Int) = _
  have e3 : (BitVec.ofInt 64 3).toNat = 2 ^ 2 - 1 := by decide
  rw [BitVec.toNat_and, e3, Nat.and_two_pow_sub_one_eq_mod, BitVec.toNat_ofInt, IntKind.wrap_i64]
  omega
theorem and15 (y : Int) : bits .and .i64 y 15 = y % 16 := by
  show IntKind.i64.wrap ((BitVec.ofInt 64 y &&& BitVec.ofInt 64 15).toNat : Int) = _
  have e3 : (BitVec.ofInt 64 15).toNat = 2 ^ 4 - 1 := by decide
  rw [BitVec.toNat_and, e3, Nat.and_two_pow_sub_one_eq_mod, BitVec.toNat_ofInt, IntKind.wrap_i64]
  omega
theorem and1 (y : Int) : bits .and .i64 y 1 = y % 2 := by
  show IntKind.i64.wrap ((BitVec.ofInt 64 y &&& BitVec.ofInt 64 1).toNat : Int) = _
  have e3 : (BitVec.ofInt 64 1).toNat = 2 ^ 1 - 1 := by decide
  rw [BitVec.toNat_and, e3, Nat.and_two_pow_sub_one_eq_mod, BitVec.toNat_ofInt, IntKind.wrap_i64]
  omega
theorem leap3 (y : Int) (h : (y.tmod 25 != 0) = true) : (bits .and .i64 y 3 == 0) = leapB y := by
  rw [and3]
  have h' : y % 25 ≠ 0 := fun hc => by rw [bne_iff_ne] at h; exact h (Int.tmod_eq_zero_of_dvd (Int.dvd_of_emod_eq_zero hc))
  unfold leapB
  rw [Bool.eq_iff_iff, beq_iff_eq, decide_eq_true_iff]
  omega
theorem leap15 (y : Int) (h : (y.tmod 25 != 0) = false) : (bits .and .i64 y 15 == 0) = leapB y := by
  rw [and15]
  have h' : y % 25 = 0 := by
    have h2 : y.tmod 25 = 0 := by simpa using h
    exact Int.emod_eq_zero_of_dvd (Int.dvd_of_tmod_eq_zero h2)
  unfold leapB
  rw [Bool.eq_iff_iff, beq_iff_eq, decide_eq_true_iff]
  omega
theorem ret_bool {a b : Bool} (h : a = b) : Ending.returned (.bool a) = .returned (.bool b) := by rw [h]
theorem ret_i64 {a b : Int} (h : a = b) : Ending.returned (.int .i64 a) = .returned (.int .i64 b) := by rw [h]

theorem isLeap_ret (y : Int) : Ret 55 #[.int .i64 y] (.bool (leapB y)) := by
  intro w
  cases h : (y.tmod 25 != 0)
  · go_enter Tryd.func55, Tryd.ntmps55
    go_wp2
    go_ret
    exact ⟨ret_bool (leap15 y h), Below.refl _ _⟩
  · go_enter Tryd.func55, Tryd.ntmps55
    go_wp2
    go_ret
    exact ⟨ret_bool (leap3 y h), Below.refl _ _⟩
theorem daysBefore_ret (m : Int) (h0 : 1 ≤ m) (h1 : m ≤ 12) : Ret 57 #[.int .i64 m] (.int .i64 (before m)) := by
  intro w
  by_cases h : m < 3
  · have HF := Lib.hid (show before m = (214 * m - 211) / 7 by rw [before, if_pos h])
    go_enter Tryd.func57, Tryd.ntmps57
    go_wp2
    go_ret
    rw [HF.out]
    exact ⟨rfl, Below.refl _ _⟩
  · have HF := Lib.hid (show before m = (214 * m - 211) / 7 + -2 by rw [before, if_neg h]; omega)
    go_enter Tryd.func57, Tryd.ntmps57
    go_wp2
    go_ret
    rw [HF.out]
    exact ⟨rfl, Below.refl _ _⟩
theorem daysIn_ret (m y : Int) (h0 : 1 ≤ m) (h1 : m ≤ 12) : Ret 56 #[.int .i64 m, .int .i64 y] (.int .i64 (dim y m)) := by
  intro w
  by_cases h2 : m = 2
  · subst h2
    have HC := isLeap_ret y
    cases hl : leapB y
    · rw [hl] at HC
      have HC := Lib.hid HC
      have HF := Lib.hid (show dim y 2 = 28 by simp [dim, dimL, lp, hl])
      go_enter Tryd.func56, Tryd.ntmps56
      go_wp2_with fail
      refine (HC.out _).mono ?_
      rintro e w1 ⟨rfl, hb⟩
      go_wp2_with fail
      go_ret
      rw [HF.out]
      exact ⟨rfl, hb⟩
    · rw [hl] at HC
      have HC := Lib.hid HC
      have HF := Lib.hid (show dim y 2 = 29 by simp [dim, dimL, lp, hl])
      go_enter Tryd.func56, Tryd.ntmps56
      go_wp2_with fail
      refine (HC.out _).mono ?_
      rintro e w1 ⟨rfl, hb⟩
      go_wp2_with fail
      go_ret
      rw [HF.out]
      exact ⟨rfl, hb⟩
  · have HD := Lib.hid (show dim y m = if m = 4 ∨ m = 6 ∨ m = 9 ∨ m = 11 then 30 else 31 by rw [dim, dimL, if_neg h2])
    rcases month_cases m h0 h1 with rfl | rfl | rfl | rfl | rfl | rfl | rfl | rfl | rfl | rfl | rfl | rfl
    all_goals first | (exact absurd rfl h2) | skip
    all_goals
      clear h0 h1 h2
      go_enter Tryd.func56, Tryd.ntmps56
      go_wp2
      go_ret
      rw [HD.out]
      exact ⟨ret_i64 (by rw [and1, IntWalk.wrap64_in _ (by omega)]; simp), Below.refl _ _⟩
end Go.Proofs.YtgmlclhdibajiaaDoor
