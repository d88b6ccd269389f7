/- The reference's RuleTime, and that it agrees with tzruleTime in the years 1 to 9999. -/
import Derived.Test.YtcjibjggaleclaaRuleTime
import Derived.Test.YtcjibjggaleclaaSpecCal
import Derived.Test.YtcjibjggaleclaaPlainF
import Derived.Test.YtcjibjggaleclaaLawRule
namespace Go.Proofs.Ytcjibjggaleclaa
open Go.RowKit

def firstF (y : Int) (r : Ru) : Int := (r.day - wday y r.mon + 7) % 7
def specDay (y : Int) (r : Ru) : Int :=
  if r.kind = 0 then r.day - 1 + (if leapB y = true ∧ 59 < r.day then 1 else 0) else if r.kind = 1 then r.day
  else lastWk (dim y r.mon) r.week (firstF y r) + cum y r.mon
def specRT (y : Int) (r : Ru) (off : Int) : Int := specDay y r * 86400 + r.time - off

theorem dowF_tmod (x : Int) : dowF (x.tmod 7) = x % 7 := by
  unfold dowF
  by_cases h : 0 ≤ x
  · rw [Int.tmod_eq_emod_of_nonneg h, if_neg (by omega)]
  · have e : x.tmod 7 = -((-x) % 7) := by
      rw [← Int.tmod_eq_emod_of_nonneg (by omega : 0 ≤ -x), Int.neg_tmod]; omega
    rw [e]
    split <;> omega
theorem zelW_zel (m1 q : Int) (h0 : 0 ≤ m1) (h1 : m1 ≤ 12) (hq0 : 0 ≤ q) (hq1 : q ≤ 20000) : zelW m1 q = (zel m1 q).tmod 7 := by
  unfold zelW zel
  have a1 : q.tmod 100 = q % 100 := Int.tmod_eq_emod_of_nonneg hq0
  have a2 : q.tdiv 100 = q / 100 := Int.tdiv_eq_ediv_of_nonneg hq0
  rw [a1, a2, Int.tdiv_eq_ediv_of_nonneg (by omega : 0 ≤ q % 100), Int.tdiv_eq_ediv_of_nonneg (by omega : 0 ≤ q / 100)]
  rw [IntWalk.wrap64_in (2 * (q / 100)) (by omega), IntWalk.wrap64_in (q / 100 / 4) (by omega), IntWalk.wrap64_in (q % 100 / 4) (by omega),
    IntWalk.wrap64_in ((26 * m1 - 2) / 10 + 1 + q % 100) (by omega), IntWalk.wrap64_in ((26 * m1 - 2) / 10 + 1 + q % 100 + q % 100 / 4) (by omega),
    IntWalk.wrap64_in ((26 * m1 - 2) / 10 + 1 + q % 100 + q % 100 / 4 + q / 100 / 4) (by omega), IntWalk.wrap64_in _ (by omega)]
theorem d0_first (y : Int) (r : Ru) (hy0 : 1 ≤ y) (hy1 : y ≤ 9999) (hd0 : 0 ≤ r.day) (hd1 : r.day ≤ 6) (hm0 : 1 ≤ r.mon) (hm1 : r.mon ≤ 12) :
    d0F r.day (zelW ((r.mon + 9) % 12 + 1) (if r.mon ≤ 2 then y - 1 else y)) = firstF y r := by
  have hq0 : 0 ≤ (if r.mon ≤ 2 then y - 1 else y) := by split <;> omega
  have hq1 : (if r.mon ≤ 2 then y - 1 else y) ≤ 20000 := by split <;> omega
  rw [zelW_zel _ _ (by omega) (by omega) hq0 hq1, d0F, dowF_tmod, zel_wday y r.mon hm0 hm1, firstF]
  have hw : 0 ≤ wday y r.mon ∧ wday y r.mon ≤ 6 := by unfold wday; omega
  split <;> omega
theorem ruTime_spec (y : Int) (r : Ru) (off : Int) (hy0 : 1 ≤ y) (hy1 : y ≤ 9999) (hr : ruOk r = true) : ruTime y r off = specRT y r off := by
  unfold ruTime specRT specDay
  by_cases h0 : r.kind = 0
  · rw [if_pos h0, if_pos h0]
    by_cases hl : leapB y = true ∧ 60 ≤ r.day
    · rw [if_pos hl, if_pos ⟨hl.1, by omega⟩]; omega
    · rw [if_neg hl, if_neg (fun h => hl ⟨h.1, by omega⟩)]; omega
  · rw [if_neg h0, if_neg h0]
    by_cases h1 : r.kind = 1
    · rw [if_pos h1, if_pos h1]
    · rw [if_neg h1, if_neg h1]
      have h2 : r.kind = 2 := by
        obtain ⟨_, _, _, _, _, _, _, _, h⟩ := ruOk_bd r hr
        omega
      have hb : inB r.day 0 6 = true ∧ inB r.week 1 5 = true ∧ inB r.mon 1 12 = true := by
        unfold ruOk at hr
        rw [if_neg h0, if_neg h1, if_pos h2] at hr
        simp at hr
        exact ⟨hr.2.1.1, hr.2.1.2, hr.2.2⟩
      rw [inB_iff, inB_iff, inB_iff] at hb
      rw [if_pos h2, mdayF, d0_first y r hy0 hy1 hb.1.1 hb.1.2 hb.2.2.1 hb.2.2.2]
      have hc : cum y r.mon = before r.mon + (if leapB y = true ∧ 2 < r.mon then 1 else 0) := by
        unfold cum lp
        by_cases hm : 2 < r.mon
        · rw [if_pos hm]; cases hl : leapB y <;> simp [hm]
        · rw [if_neg hm, if_neg (fun h => hm h.2)]
      rw [hc]
      omega
theorem ruOk_fine (r : Ru) (h : ruOk r = true) : ruFine r := by
  obtain ⟨a, b, c, d, e, f, g, i, j⟩ := ruOk_bd r h
  rcases j with ⟨j, _, _⟩ | ⟨j, _, _⟩ | j
  · exact .inl ⟨.inl j, a, b, by omega, by omega⟩
  · exact .inl ⟨.inr j, a, b, by omega, by omega⟩
  · refine .inr ⟨j, a, ?_⟩
    unfold ruOk at h
    rw [if_neg (by omega), if_neg (by omega), if_pos j] at h
    simp [inB_iff] at h
    omega

end Go.Proofs.Ytcjibjggaleclaa
