/- Plain words on the calendar: leap years, days of months, the weekday of a month's first day. -/
import Derived.Laws.BitsAllLaws
import Derived.Laws.BitsLemmas
namespace Go.Proofs.YtgmlclhdibajiaaDoor

def leapB (y : Int) : Bool := decide (y % 4 = 0 ∧ y % 100 ≠ 0 ∨ y % 400 = 0)
def lp (y : Int) : Int := if leapB y then 1 else 0
theorem lp_eq (y : Int) : (y % 4 = 0 ∧ y % 100 ≠ 0 ∨ y % 400 = 0) ∧ lp y = 1 ∨ ¬ (y % 4 = 0 ∧ y % 100 ≠ 0 ∨ y % 400 = 0) ∧ lp y = 0 := by
  unfold lp leapB
  by_cases h : y % 4 = 0 ∧ y % 100 ≠ 0 ∨ y % 400 = 0
  · left; exact ⟨h, by simp [h]⟩
  · right; exact ⟨h, by simp [h]⟩
/-- the days of a month, a leap year's day given apart -/
def dimL (l m : Int) : Int := if m = 2 then 28 + l else if m = 4 ∨ m = 6 ∨ m = 9 ∨ m = 11 then 30 else 31
def dim (y m : Int) : Int := dimL (lp y) m
/-- the days ahead of a month in a year that is no leap year -/
def before (m : Int) : Int := if m < 3 then (214 * m - 211) / 7 else (214 * m - 211) / 7 - 2
def cum (y m : Int) : Int := before m + (if 2 < m then lp y else 0)
def ahead (y : Int) : Int := 365 * (y - 1) + (y - 1) / 4 - (y - 1) / 100 + (y - 1) / 400
def wday (y m : Int) : Int := (ahead y + 1 + cum y m) % 7

theorem month_cases (m : Int) (h1 : 1 ≤ m) (h2 : m ≤ 12) : m = 1 ∨ m = 2 ∨ m = 3 ∨ m = 4 ∨ m = 5 ∨ m = 6 ∨ m = 7 ∨ m = 8 ∨ m = 9 ∨ m = 10 ∨ m = 11 ∨ m = 12 := by omega
theorem cum_one (y : Int) : cum y 1 = 0 := by simp [cum, before]
theorem cum_succ (y m : Int) (h1 : 1 ≤ m) (h2 : m ≤ 11) : cum y (m + 1) = cum y m + dim y m := by
  rcases month_cases m h1 (by omega) with rfl | rfl | rfl | rfl | rfl | rfl | rfl | rfl | rfl | rfl | rfl | rfl <;> simp [cum, before, dim, dimL] <;> omega
theorem lp_bd (y : Int) : 0 ≤ lp y ∧ lp y ≤ 1 := by rcases lp_eq y with ⟨_, h⟩ | ⟨_, h⟩ <;> omega
theorem dim_bd (y m : Int) : 28 ≤ dim y m ∧ dim y m ≤ 31 := by
  have := lp_bd y
  unfold dim dimL; split; omega; split <;> omega
theorem cum_bd (y m : Int) (h1 : 1 ≤ m) (h2 : m ≤ 12) : 0 ≤ cum y m ∧ cum y m ≤ 335 := by
  have := lp_bd y
  rcases month_cases m h1 h2 with rfl | rfl | rfl | rfl | rfl | rfl | rfl | rfl | rfl | rfl | rfl | rfl <;> simp [cum, before] <;> omega
theorem cum_end (y : Int) : cum y 12 + dim y 12 = 365 + lp y := by simp [cum, before, dim, dimL]; omega

/-- Zeller's number: the day of the week of a month's first day, as the code reckons it -/
def zel (m1 yy0 : Int) : Int := ((26 * m1 - 2) / 10 + 1 + yy0 % 100 + yy0 % 100 / 4 + yy0 / 100 / 4 - 2 * (yy0 / 100))
theorem zel_mar (y c : Int) : (y % 100 + y % 100 / 4 + y / 100 / 4 - 2 * (y / 100) + c) % 7 = (365 * (y - 1) + (y - 1) / 4 - (y - 1) / 100 + (y - 1) / 400 + lp y + 1 + c) % 7 := by
  have hl : lp y = y / 4 - (y - 1) / 4 - (y / 100 - (y - 1) / 100) + (y / 400 - (y - 1) / 400) := by
    rcases lp_eq y with ⟨h, e⟩ | ⟨h, e⟩ <;> rw [e] <;> omega
  rw [hl]
  have h4 : y / 4 = 25 * (y / 100) + y % 100 / 4 := by omega
  have h400 : y / 400 = y / 100 / 4 := by omega
  omega
theorem zel_jan (y c : Int) : ((y - 1) % 100 + (y - 1) % 100 / 4 + (y - 1) / 100 / 4 - 2 * ((y - 1) / 100) + c) % 7 = (365 * (y - 1) + (y - 1) / 4 - (y - 1) / 100 + (y - 1) / 400 + c) % 7 := by
  have h4 : (y - 1) / 4 = 25 * ((y - 1) / 100) + (y - 1) % 100 / 4 := by omega
  have h400 : (y - 1) / 400 = (y - 1) / 100 / 4 := by omega
  omega
theorem zel_wday (y m : Int) (h1 : 1 ≤ m) (h2 : m ≤ 12) : zel ((m + 9) % 12 + 1) (if m ≤ 2 then y - 1 else y) % 7 = wday y m := by
  unfold wday ahead zel
  by_cases hm : m ≤ 2
  · rw [if_pos hm]
    have e := zel_jan y ((26 * ((m + 9) % 12 + 1) - 2) / 10 + 1)
    have hc : cum y m = before m := by unfold cum; rw [if_neg (by omega)]; omega
    have hb : before m % 7 = ((26 * ((m + 9) % 12 + 1) - 2) / 10) % 7 := by
      have : m = 1 ∨ m = 2 := by omega
      rcases this with rfl | rfl <;> decide
    rw [hc]
    omega
  · rw [if_neg hm]
    have e := zel_mar y ((26 * ((m + 9) % 12 + 1) - 2) / 10 + 1)
    have hc : cum y m = before m + lp y := by unfold cum; rw [if_pos (by omega)]
    have hb : (before m) % 7 = ((26 * ((m + 9) % 12 + 1) - 2) / 10 + 1) % 7 := by
      rcases month_cases m h1 h2 with rfl | rfl | rfl | rfl | rfl | rfl | rfl | rfl | rfl | rfl | rfl | rfl <;> first | decide | omega
    rw [hc]
    omega

end Go.Proofs.YtgmlclhdibajiaaDoor
