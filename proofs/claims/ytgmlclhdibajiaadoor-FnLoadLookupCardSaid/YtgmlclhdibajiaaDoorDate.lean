/- Days since the beginning of the absolute years: year and day of the year. -/
import Derived.Test.YtgmlclhdibajiaaDoorCalW
namespace Go.Proofs.YtgmlclhdibajiaaDoor
open Go.RowKit

theorem Mul32_ret (a b : Int) (ha0 : 0 ≤ a) (ha1 : a ≤ 4294967295) (hb0 : 0 ≤ b) (hb1 : b ≤ 4294967295) (hp0 : 0 ≤ a * b) (hp1 : a * b ≤ 18446744073709551615) : Ret 58 #[.int .u32 a, .int .u32 b] (.tuple #[.int .u32 (a * b / 4294967296), .int .u32 (a * b % 4294967296)]) := by
  intro w
  go_enter Tryd.func58, Tryd.ntmps58
  go_wp2
  go_ret2
  exact ⟨rfl, Below.refl _ _⟩

theorem nat_or3 (x : Nat) : x ||| 3 = x / 4 * 4 + 3 := by
  have h1 : x = 2 ^ 2 * (x / 4) + x % 4 := by omega
  have h2 : 2 ^ 2 * (x / 4) + x % 4 = 2 ^ 2 * (x / 4) ||| x % 4 := Nat.two_pow_add_eq_or_of_lt (by omega) _
  have h3 : x % 4 ||| 3 = 3 := by
    have : x % 4 = 0 ∨ x % 4 = 1 ∨ x % 4 = 2 ∨ x % 4 = 3 := by omega
    rcases this with h | h | h | h <;> rw [h] <;> decide
  have h4 : 2 ^ 2 * (x / 4) + 3 = 2 ^ 2 * (x / 4) ||| 3 := Nat.two_pow_add_eq_or_of_lt (by omega) _
  calc x ||| 3 = (2 ^ 2 * (x / 4) ||| x % 4) ||| 3 := by rw [← h2, ← h1]
    _ = 2 ^ 2 * (x / 4) ||| (x % 4 ||| 3) := Nat.or_assoc _ _ _
    _ = 2 ^ 2 * (x / 4) ||| 3 := by rw [h3]
    _ = x / 4 * 4 + 3 := by rw [← h4]; omega
theorem or3 (x : Int) (h0 : 0 ≤ x) (h1 : x ≤ 4000000) : bits .or .u32 x 3 = x / 4 * 4 + 3 := by
  show IntKind.u32.wrap ((BitVec.ofInt 32 x ||| BitVec.ofInt 32 3).toNat : Int) = _
  have e3 : (BitVec.ofInt 32 3).toNat = 3 := by decide
  have ex : (BitVec.ofInt 32 x).toNat = x.toNat := by rw [BitVec.toNat_ofInt]; omega
  rw [BitVec.toNat_or, e3, ex, nat_or3, IntKind.wrap_u32]
  omega

/-- century, year of the century, day of the year from March on -/
def cenF (n : Int) : Int := (4 * n + 3) / 146097
def cdF (n : Int) : Int := (4 * n + 3) % 146097 / 4 * 4 + 3
theorem cd_bd (n : Int) : 3 ≤ cdF n ∧ cdF n ≤ 146099 := by unfold cdF; omega
theorem neri (cd : Int) (h0 : 0 ≤ cd) (h1 : cd ≤ 146099) : 2939745 * cd / 4294967296 = cd / 1461 ∧ 2939745 * cd % 4294967296 / 2939745 / 4 = cd % 1461 / 4 := by
  have hq : cd = 1461 * (cd / 1461) + cd % 1461 := by omega
  have hs0 : 0 ≤ cd % 1461 := by omega
  have hs1 : cd % 1461 ≤ 1460 := by omega
  have hq0 : 0 ≤ cd / 1461 := by omega
  have hq1 : cd / 1461 ≤ 100 := by omega
  generalize cd / 1461 = q at *
  generalize cd % 1461 = s at *
  subst hq
  have e : 2939745 * (1461 * q + s) = 4294967296 * q + (149 * q + 2939745 * s) := by omega
  rw [e]
  have e1 : (4294967296 * q + (149 * q + 2939745 * s)) / 4294967296 = q := by omega
  have e2 : (4294967296 * q + (149 * q + 2939745 * s)) % 4294967296 = 149 * q + 2939745 * s := by omega
  refine ⟨e1, ?_⟩
  rw [e2]
  have e3 : (149 * q + 2939745 * s) / 2939745 = s := by omega
  rw [e3]

theorem split_ret (n : Int) (h0 : 0 ≤ n) (h1 : n ≤ 300000000000000) : Ret 50 #[.int .u64 n] (.tuple #[.int .u64 (cenF n), .int .i64 (cdF n / 1461), .int .i64 (cdF n % 1461 / 4)]) := by
  intro w
  have hb := cd_bd n
  have HO := Lib.hid (show bits .or .u32 ((4 * n + 3) % 146097) 3 = cdF n by rw [or3 _ (by omega) (by omega)]; rfl)
  have HN := Lib.hid (neri (cdF n) (by omega) hb.2)
  have HM := Lib.hid (Mul32_ret 2939745 (cdF n) (by omega) (by omega) (by omega) (by omega) (by omega) (by omega))
  have HC := Lib.hid (show cenF n = (4 * n + 3) / 146097 from rfl)
  generalize cdF n = cd at *
  generalize cenF n = ce at *
  obtain ⟨hb0, hb1⟩ := hb
  have hor := HO.out
  go_enter Tryd.func50, Tryd.ntmps50
  go_wp2_with fail
  refine (HM.out _).mono ?_
  rintro e w1 ⟨rfl, hb⟩
  have hp0 : 0 ≤ 2939745 * cd / 4294967296 := by omega
  have hp1 : 2939745 * cd / 4294967296 ≤ 200 := by omega
  have hp2 : 0 ≤ 2939745 * cd % 4294967296 := by omega
  have hp3 : 2939745 * cd % 4294967296 < 4294967296 := by omega
  have HN1 := Lib.hid HN.out.1
  have HN2 := Lib.hid HN.out.2
  clear HN HO
  generalize 2939745 * cd / 4294967296 = hi at *
  generalize 2939745 * cd % 4294967296 = lo at *
  clear hor
  go_wp2_with fail
  go_ret3
  rw [HC.out, ← HN1.out, ← HN2.out]
  exact ⟨rfl, hb⟩
theorem janFeb_ret (a : Int) : Ret 51 #[.int .i64 a] (.int .i64 (if 306 ≤ a then 1 else 0)) := by
  intro w
  by_cases h : 306 ≤ a
  · rw [if_pos h]
    go_enter Tryd.func51, Tryd.ntmps51
    go_wp2
    go_ret
    exact ⟨rfl, Below.refl _ _⟩
  · rw [if_neg h]
    go_enter Tryd.func51, Tryd.ntmps51
    go_wp2
    go_ret
    exact ⟨rfl, Below.refl _ _⟩
def lpA (c y : Int) : Int := if y % 4 = 0 ∧ (y ≠ 0 ∨ c % 4 = 0) then 1 else 0
theorem leap_ret (c y : Int) (h0 : 0 ≤ c) (h1 : c ≤ 100000000000) (hy0 : 0 ≤ y) (hy1 : y ≤ 1000) : Ret 54 #[.int .u64 c, .int .i64 y] (.int .i64 (lpA c y)) := by
  intro w
  have b1 : ∀ b, (b = (0 : Int) ∨ b = 1) → bits .and .i64 0 b = 0 := by rintro b (rfl | rfl) <;> decide
  cases h4 : (y % 4 == 0) <;> cases h5 : (y != 0) <;> cases h6 : (c % 4 == 0)
  all_goals
    have HF : Hid (lpA c y = if ((y % 4 == 0) && ((y != 0) || (c % 4 == 0))) = true then 1 else 0) := by
      show lpA c y = _
      unfold lpA
      congr 1
      simp
    have HG := HF.out
    rw [h4, h5, h6] at HG
    have HK := Lib.hid HG
    clear HF HG
    go_enter Tryd.func54, Tryd.ntmps54
    go_wp2
    go_ret
    rw [HK.out]
    exact ⟨ret_i64 (by decide), Below.refl _ _⟩
theorem year_ret (c y j : Int) (h0 : 0 ≤ c) (h1 : c ≤ 100000000000) (hy0 : 0 ≤ y) (hy1 : y ≤ 1000) (hj0 : 0 ≤ j) (hj1 : j ≤ 1) : Ret 52 #[.int .u64 c, .int .i64 y, .int .i64 j] (.int .i64 (c * 100 - 292277022400 + y + j)) := by
  intro w
  go_enter Tryd.func52, Tryd.ntmps52
  go_wp2
  go_ret
  refine ⟨ret_i64 ?_, Below.refl _ _⟩
  simp only [wrap64, IntKind.wrap_u64]
  omega
theorem andNot01 (l j : Int) (hl : l = 0 ∨ l = 1) (hj : j = 0 ∨ j = 1) : bits .andNot .i64 l j = if j = 1 then 0 else l := by
  rcases hl with rfl | rfl <;> rcases hj with rfl | rfl <;> decide
theorem yday_ret (a j l : Int) (h0 : 0 ≤ a) (h1 : a ≤ 1000) (hj : j = 0 ∨ j = 1) (hl : l = 0 ∨ l = 1) : Ret 53 #[.int .i64 a, .int .i64 j, .int .i64 l] (.int .i64 (a + 60 + (if j = 1 then 0 else l) - 365 * j)) := by
  intro w
  have HA := Lib.hid (andNot01 l j hl hj)
  have hj0 : 0 ≤ j := by omega
  have hj1 : j ≤ 1 := by omega
  have hv : 0 ≤ (if j = 1 then 0 else l) ∧ (if j = 1 then 0 else l) ≤ 1 := by split <;> omega
  generalize (if j = 1 then 0 else l) = v at *
  clear hj hl
  go_enter Tryd.func53, Tryd.ntmps53
  go_wp2
  go_ret
  rw [HA.out]
  refine ⟨ret_i64 ?_, Below.refl _ _⟩
  rw [IntWalk.wrap64_in (a + 60 + v) (by omega), IntWalk.wrap64_in _ (by omega)]
/-- the year and the day of the year of a day: from the century, its year and the day from March on -/
def yearF (n : Int) : Int := cenF n * 100 - 292277022400 + cdF n / 1461 + (if 306 ≤ cdF n % 1461 / 4 then 1 else 0)
def ydayF (n : Int) : Int := cdF n % 1461 / 4 + 60 + (if (if 306 ≤ cdF n % 1461 / 4 then (1 : Int) else 0) = 1 then 0 else lpA (cenF n) (cdF n / 1461)) - 365 * (if 306 ≤ cdF n % 1461 / 4 then 1 else 0)
theorem lpA_01 (c y : Int) : lpA c y = 0 ∨ lpA c y = 1 := by unfold lpA; split <;> simp

set_option maxHeartbeats 1000000 in
theorem yearYday_ret (n : Int) (h0 : 0 ≤ n) (h1 : n ≤ 300000000000000) : Ret 47 #[.int .u64 n] (.tuple #[.int .i64 (yearF n), .int .i64 (ydayF n)]) := by
  intro w
  have hcd := cd_bd n
  have hce : 0 ≤ cenF n ∧ cenF n ≤ 100000000000 := by unfold cenF; omega
  have HS := Lib.hid (split_ret n h0 h1)
  have HY := Lib.hid (show yearF n = cenF n * 100 - 292277022400 + cdF n / 1461 + (if 306 ≤ cdF n % 1461 / 4 then 1 else 0) by rw [yearF])
  have HD := Lib.hid (show ydayF n = cdF n % 1461 / 4 + 60 + (if (if 306 ≤ cdF n % 1461 / 4 then (1 : Int) else 0) = 1 then 0 else lpA (cenF n) (cdF n / 1461)) - 365 * (if 306 ≤ cdF n % 1461 / 4 then 1 else 0) by rw [ydayF])
  generalize yearF n = Y at *
  generalize ydayF n = yd at *
  generalize cenF n = c at *
  generalize cdF n = cd at *
  have hcy : 0 ≤ cd / 1461 ∧ cd / 1461 ≤ 1000 := by omega
  have hay : 0 ≤ cd % 1461 / 4 ∧ cd % 1461 / 4 ≤ 1000 := by omega
  generalize cd / 1461 = cy at *
  generalize cd % 1461 / 4 = ay at *
  obtain ⟨hc0, hc1⟩ := hce
  obtain ⟨hcy0, hcy1⟩ := hcy
  obtain ⟨hay0, hay1⟩ := hay
  have HJ := Lib.hid (janFeb_ret ay)
  have hj : (if 306 ≤ ay then (1 : Int) else 0) = 0 ∨ (if 306 ≤ ay then (1 : Int) else 0) = 1 := by split <;> simp
  generalize (if 306 ≤ ay then (1 : Int) else 0) = j at *
  have HYr := Lib.hid (year_ret c cy j hc0 hc1 hcy0 hcy1 (by omega) (by omega))
  have HL := Lib.hid (leap_ret c cy hc0 hc1 hcy0 hcy1)
  have hl := lpA_01 c cy
  generalize lpA c cy = lf at *
  have HYd0 := yday_ret ay j lf hay0 hay1 hj hl
  have HD0 := HD.out
  clear HD
  generalize (if j = 1 then 0 else lf) = v at *
  have HYd := Lib.hid HYd0
  have HD := Lib.hid HD0
  clear hj hl h0 h1 hcd HYd0 HD0
  go_enter Tryd.func47, Tryd.ntmps47
  go_wp2_with fail
  refine (HS.out _).mono ?_
  rintro e w1 ⟨rfl, hb1⟩
  go_wp2_with fail
  refine (HJ.out _).mono ?_
  rintro e w2 ⟨rfl, hb2'⟩
  have hb2 : Below w.heap.size w w2 := hb1.trans (hb2'.mono hb1.size)
  go_wp2_with fail
  refine (HYr.out _).mono ?_
  rintro e w3 ⟨rfl, hb3'⟩
  have hb3 : Below w.heap.size w w3 := hb2.trans (hb3'.mono hb2.size)
  go_wp2_with fail
  refine (HL.out _).mono ?_
  rintro e w4 ⟨rfl, hb4'⟩
  have hb4 : Below w.heap.size w w4 := hb3.trans (hb4'.mono hb3.size)
  go_wp2_with fail
  refine (HYd.out _).mono ?_
  rintro e w5 ⟨rfl, hb5'⟩
  have hb5 : Below w.heap.size w w5 := hb4.trans (hb5'.mono hb4.size)
  go_wp2_with fail
  go_ret2
  rw [HY.out, HD.out]
  exact ⟨rfl, hb5⟩
theorem days_ret (a : Int) (h0 : 0 ≤ a) (h1 : a ≤ 18446744073709551615) : Ret 46 #[.int .u64 a] (.int .u64 (a / 86400)) := by
  intro w
  go_enter Tryd.func46, Tryd.ntmps46
  go_wp2
  go_ret
  exact ⟨rfl, Below.refl _ _⟩

/-- four times a number and three, parted by a number of the form 4 k + 1 -/
theorem part4 (k m q r : Int) (h : 4 * m + 3 = (4 * k + 1) * q + r) : m = k * q + q / 4 + r / 4 := by
  have e : (4 * k + 1) * q = 4 * (k * q) + q := by rw [Int.add_mul, Int.mul_assoc]; omega
  rw [e] at h
  generalize k * q = kq at *
  have h4 : q % 4 + r % 4 = 3 := by omega
  omega
theorem march_law (m : Int) :
    36524 * ((4 * m + 3) / 146097) + (4 * m + 3) / 146097 / 4 + (365 * (((4 * m + 3) % 146097 / 4 * 4 + 3) / 1461) + ((4 * m + 3) % 146097 / 4 * 4 + 3) / 1461 / 4 + ((4 * m + 3) % 146097 / 4 * 4 + 3) % 1461 / 4) = m := by
  have h1 := part4 36524 m ((4 * m + 3) / 146097) ((4 * m + 3) % 146097) (by omega)
  have h2 := part4 365 ((4 * m + 3) % 146097 / 4) (((4 * m + 3) % 146097 / 4 * 4 + 3) / 1461) (((4 * m + 3) % 146097 / 4 * 4 + 3) % 1461) (by omega)
  omega
theorem ahead_succ (y : Int) : ahead (y + 1) = ahead y + 365 + lp y := by
  unfold ahead
  rcases lp_eq y with ⟨h, e⟩ | ⟨h, e⟩ <;> rw [e] <;> omega
theorem cen_shift (m : Int) : cenF (m + 106751990353932) = (4 * m + 3) / 146097 + 2922770224 := by
  unfold cenF
  have e : 4 * (m + 106751990353932) + 3 = 4 * m + 3 + 2922770224 * 146097 := by omega
  rw [e, Int.add_mul_ediv_right _ _ (by decide)]
theorem cd_shift (m : Int) : cdF (m + 106751990353932) = (4 * m + 3) % 146097 / 4 * 4 + 3 := by
  unfold cdF
  have e : 4 * (m + 106751990353932) + 3 = 4 * m + 3 + 2922770224 * 146097 := by omega
  rw [e, Int.add_mul_emod_self_right]
theorem date_core (c cy ay m : Int) (hcy0 : 0 ≤ cy) (hcy1 : cy ≤ 99) (hay0 : 0 ≤ ay) (hm : 36524 * c + c / 4 + (365 * cy + cy / 4 + ay) = m) (hend : ay ≤ 364 ∨ ay = 365 ∧ lp (100 * c + cy + 1) = 1 ) (y yd : Int)
    (hy : y = 100 * c + cy + (if 306 ≤ ay then 1 else 0)) (hyd : yd = ay + 60 + (if (if 306 ≤ ay then (1 : Int) else 0) = 1 then 0 else lp (100 * c + cy)) - 365 * (if 306 ≤ ay then 1 else 0)) :
    ahead y + yd - 1 + 306 = m ∧ 1 ≤ yd ∧ yd ≤ 365 + lp y := by
  have ha : ahead (100 * c + cy + 1) = 36524 * c + c / 4 + 365 * cy + cy / 4 := by unfold ahead; omega
  have hb := lp_bd y
  by_cases h : 306 ≤ ay
  · simp only [if_pos h] at hy hyd
    subst hy
    rw [if_pos trivial] at hyd
    rw [ha]
    rcases hend with h' | ⟨h', e⟩
    · omega
    · rw [e]; omega
  · simp only [if_neg h] at hy hyd
    rw [if_neg (by decide)] at hyd
    have hs := ahead_succ (100 * c + cy)
    have hy' : y = 100 * c + cy := by omega
    subst hy'
    have hb' := lp_bd (100 * c + cy)
    omega
theorem date_law (n : Int) (h0 : 106751990353932 ≤ n) : ahead (yearF n) + ydayF n - 1 + 306 + 106751990353932 = n ∧ 1 ≤ ydayF n ∧ ydayF n ≤ 365 + lp (yearF n) := by
  obtain ⟨m, rfl⟩ : ∃ m, n = m + 106751990353932 := ⟨n - 106751990353932, by omega⟩
  have hm : 0 ≤ m := by omega
  have hl := march_law m
  have hg0 : 0 ≤ (4 * m + 3) % 146097 / 4 := by omega
  have hg1 : (4 * m + 3) % 146097 / 4 ≤ 36524 := by omega
  have hb0 : 0 ≤ (4 * m + 3) / 146097 := by omega
  have h24 : (4 * m + 3) % 146097 / 4 = 36524 → (4 * m + 3) / 146097 % 4 = 3 := by omega
  unfold yearF ydayF
  rw [cen_shift, cd_shift]
  generalize (4 * m + 3) % 146097 / 4 = g at *
  generalize (4 * m + 3) / 146097 = c at *
  have hcy0 : 0 ≤ (g * 4 + 3) / 1461 := by omega
  have hcy1 : (g * 4 + 3) / 1461 ≤ 99 := by omega
  have hay0 : 0 ≤ (g * 4 + 3) % 1461 / 4 := by omega
  have hend : (g * 4 + 3) % 1461 / 4 ≤ 364 ∨ (g * 4 + 3) % 1461 / 4 = 365 ∧ lp (100 * c + (g * 4 + 3) / 1461 + 1) = 1 := by
    by_cases he : (g * 4 + 3) % 1461 / 4 ≤ 364
    · exact .inl he
    · right
      have h65 : (g * 4 + 3) % 1461 = 1460 := by omega
      have hcy : g * 4 + 4 = 1461 * ((g * 4 + 3) / 1461 + 1) := by omega
      generalize (g * 4 + 3) / 1461 = cy at *
      refine ⟨by omega, ?_⟩
      have h4 : cy % 4 = 3 := by omega
      have h99 : cy = 99 → c % 4 = 3 := fun h => h24 (by omega)
      rcases lp_eq (100 * c + cy + 1) with ⟨_, e⟩ | ⟨h, e⟩
      · exact e
      · exfalso
        apply h
        by_cases h100 : cy = 99
        · have := h99 h100; omega
        · omega
  have hlp : lpA (c + 2922770224) ((g * 4 + 3) / 1461) = lp (100 * c + (g * 4 + 3) / 1461) := by
    generalize (g * 4 + 3) / 1461 = cy at *
    unfold lpA
    rcases lp_eq (100 * c + cy) with ⟨h, e⟩ | ⟨h, e⟩
    · rw [e, if_pos (by omega)]
    · rw [e, if_neg (by omega)]
  rw [hlp]
  have := date_core c _ _ m hcy0 hcy1 hay0 hl hend _ _ rfl rfl
  have e : (c + 2922770224) * 100 - 292277022400 + (g * 4 + 3) / 1461 = 100 * c + (g * 4 + 3) / 1461 := by omega
  rw [e]
  omega
end Go.Proofs.YtgmlclhdibajiaaDoor
