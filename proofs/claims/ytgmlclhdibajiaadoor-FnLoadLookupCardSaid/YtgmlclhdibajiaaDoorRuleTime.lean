/- tzruleTime: the seconds of a year at which a rule is met. -/
import Derived.Test.YtgmlclhdibajiaaDoorCalW
import Derived.Test.YtgmlclhdibajiaaDoorRule
namespace Go.Proofs.YtgmlclhdibajiaaDoor
open Go.RowKit

/-- the box of a rule of the package's own, and all that was there before the call -/
def PBox (w : World) (r : Ru) (W : World) : Prop :=
  Blk W w.heap.size 103 #[.int .i64 r.kind, .int .i64 r.day, .int .i64 r.week, .int .i64 r.mon, .int .i64 r.time] ∧ Below w.heap.size w W
theorem PBox.all {w W : World} {r : Ru} (h : PBox w r W) : (W.cell? ⟨w.heap.size, 0, none⟩ = some (.int .i64 r.kind) ∧ W.cell? ⟨w.heap.size, 1, none⟩ = some (.int .i64 r.day) ∧ W.cell? ⟨w.heap.size, 2, none⟩ = some (.int .i64 r.week) ∧ W.cell? ⟨w.heap.size, 3, none⟩ = some (.int .i64 r.mon) ∧ W.cell? ⟨w.heap.size, 4, none⟩ = some (.int .i64 r.time)) ∧ PBox w r W :=
  ⟨⟨h.1.cell 0, h.1.cell 1, h.1.cell 2, h.1.cell 3, h.1.cell 4⟩, h⟩
theorem PBox.below {w W W' : World} {r : Ru} (h : PBox w r W) (hb : Below W.heap.size W W') : PBox w r W' :=
  ⟨h.1.below hb h.1.lt, h.2.trans (hb.mono h.2.size)⟩
theorem PBox.new (w : World) (r : Ru) : PBox w r (w.alloc (.cells #[.int .i64 r.kind, .int .i64 r.day, .int .i64 r.week, .int .i64 r.mon, .int .i64 r.time] 103)) :=
  ⟨Blk.new w _ _ _ rfl, (Below.refl _ _).alloc (Nat.le_refl _) _⟩
theorem Ret.pbox {f : FuncId} {args : Array Value} {v : Value} (h : Ret f args v) {w : World} {r : Ru} {W : World} (hB : PBox w r W) : Calls Tryd.prog f args W fun e W' => e = .returned v ∧ PBox w r W' :=
  (h W).mono fun _ _ ⟨he, hb⟩ => ⟨he, hB.below hb⟩

def zelW (m1 q : Int) : Int := (wrap64 (wrap64 (wrap64 (wrap64 ((26 * m1 - 2) / 10 + 1 + q.tmod 100) + wrap64 ((q.tmod 100).tdiv 4)) + wrap64 ((q.tdiv 100).tdiv 4)) - wrap64 (2 * q.tdiv 100))).tmod 7
theorem zel_bd (x : Int) : -6 ≤ x.tmod 7 ∧ x.tmod 7 ≤ 6 := by
  have h1 := Int.tmod_lt_of_pos x (show (0 : Int) < 7 by decide)
  have h2 := Int.lt_tmod_of_pos x (show (0 : Int) < 7 by decide)
  omega
def dowF (z : Int) : Int := if z < 0 then z + 7 else z
def d0F (day z : Int) : Int := if day - dowF z < 0 then day - dowF z + 7 else day - dowF z
def lastWk (D wk d0 : Int) : Int := if d0 + 7 * (wk - 1) < D then d0 + 7 * (wk - 1) else d0 + 7 * (wk - 1) - 7
def mdayF (y : Int) (r : Ru) : Int := lastWk (dim y r.mon) r.week (d0F r.day (zelW ((r.mon + 9) % 12 + 1) (if r.mon ≤ 2 then y - 1 else y))) + before r.mon + (if leapB y = true ∧ 2 < r.mon then 1 else 0)
def ruTime (y : Int) (r : Ru) (off : Int) : Int :=
  (if r.kind = 0 then (r.day - 1) * 86400 + (if leapB y = true ∧ 60 ≤ r.day then 86400 else 0) else if r.kind = 1 then r.day * 86400 else if r.kind = 2 then mdayF y r * 86400 else 0) + r.time - off
theorem before_bd (m : Int) (h1 : 1 ≤ m) (h2 : m ≤ 12) : 0 ≤ before m ∧ before m ≤ 400 := by unfold before; split <;> omega

set_option maxHeartbeats 16000000 in
theorem tzruleTime_M (y : Int) (r : Ru) (off : Int) (hy0 : -1000000000000 ≤ y) (hy1 : y ≤ 1000000000000) (hk : r.kind = 2) (hd0 : 0 ≤ r.day) (hd1 : r.day ≤ 6) (hw0 : 1 ≤ r.week) (hw1 : r.week ≤ 5) (hm0 : 1 ≤ r.mon) (hm1 : r.mon ≤ 12)
    (ht0 : -1000000 ≤ r.time) (ht1 : r.time ≤ 1000000) (ho0 : -10000000 ≤ off) (ho1 : off ≤ 10000000) : Ret 48 #[.int .i64 y, ruA r, .int .i64 off] (.int .i64 (ruTime y r off)) := by
  intro w
  have HB := PBox.new w r
  obtain ⟨⟨c0, c1, c2, c3, c4⟩, _⟩ := HB.all
  have e0 : (r.kind == 0) = false := by rw [beq_eq_false_iff_ne]; omega
  have e1 : (r.kind == 1) = false := by rw [beq_eq_false_iff_ne]; omega
  have e2 : (r.kind == 2) = true := by rw [beq_iff_eq]; exact hk
  have HV := Lib.hid (show ruTime y r off = mdayF y r * 86400 + r.time - off by rw [ruTime, if_neg (by omega), if_neg (by omega), if_pos hk])
  have hD := dim_bd y r.mon
  have hbf := before_bd r.mon hm0 hm1
  have HI := Lib.hid (daysIn_ret r.mon y hm0 hm1)
  have HBf := Lib.hid (daysBefore_ret r.mon hm0 hm1)
  have HL0 := isLeap_ret y
  have HM := Lib.hid (show mdayF y r = lastWk (dim y r.mon) r.week (d0F r.day (zelW ((r.mon + 9) % 12 + 1) (if r.mon ≤ 2 then y - 1 else y))) + before r.mon + (if leapB y = true ∧ 2 < r.mon then 1 else 0) by rw [mdayF])
  generalize dim y r.mon = D at *
  generalize before r.mon = bf at *
  generalize leapB y = lb at *
  generalize mdayF y r = md at *
  generalize ruTime y r off = res at *
  have HL := Lib.hid HL0
  clear hk HL0
  unfold ruA
  by_cases hm : r.mon ≤ 2
  · skip
    skip
    go_enter Tryd.func48, Tryd.ntmps48
    go_upto_region 17 with fail
    have hzb := zel_bd (wrap64 (wrap64 (wrap64 (wrap64 ((26 * ((r.mon + 9) % 12 + 1) - 2) / 10 + 1 + (y - 1).tmod 100) + wrap64 (((y - 1).tmod 100).tdiv 4)) + wrap64 (((y - 1).tdiv 100).tdiv 4)) - wrap64 (2 * (y - 1).tdiv 100)))
    have HM' := HM.out
    rw [if_pos hm] at HM'
    unfold zelW at HM'
    clear HM
    generalize (wrap64 (wrap64 (wrap64 (wrap64 ((26 * ((r.mon + 9) % 12 + 1) - 2) / 10 + 1 + (y - 1).tmod 100) + wrap64 (((y - 1).tmod 100).tdiv 4)) + wrap64 (((y - 1).tdiv 100).tdiv 4)) - wrap64 (2 * (y - 1).tdiv 100))).tmod 7 = z at *
    have HM := Lib.hid HM'
    clear HM'
    obtain ⟨hz0, hz1⟩ := hzb
    by_cases hzn : z < 0
    · by_cases hdn : r.day - (z + 7) < 0
      · have HE := Lib.hid (show d0F r.day z = r.day - (z + 7) + 7 by rw [d0F, dowF, if_pos hzn, if_pos hdn])
        go_upto_region 22 with fail
        have hM3 := HM.out
        rw [HE.out] at hM3
        clear HM HE
        obtain ⟨d0, hd0e⟩ : ∃ d0, d0 = r.day - (z + 7) + 7 := ⟨_, rfl⟩
        have hd00 : 0 ≤ d0 := by omega
        have hd06 : d0 ≤ 6 := by omega
        rw [← hd0e] at hM3 ⊢
        have HM := Lib.hid hM3
        clear hM3 hd0e hzn hdn hz0 hz1
        go_wp2_with fail
        go_loopw [13, 14] (fun d i W => ∃ k : Int, 0 ≤ k ∧ k ≤ r.week - 1 ∧ d = .int .i64 (d0 + 7 * k) ∧ i = .int .i64 (k + 1) ∧ d0 + 7 * k < D ∧ PBox w r W) (fun _ i _ => (6 - intOf i).toNat)
        case atStart => exact ⟨0, by omega, by omega, by simp, by simp, by omega, HB⟩
        case round =>
          clear HB c0 c1 c2 c3 c4
          obtain ⟨k, hk0, hk1, rfl, rfl, hkD, HB⟩ := hrel
          obtain ⟨⟨c0, c1, c2, c3, c4⟩, _⟩ := HB.all
          by_cases hkw : k + 1 < r.week
          · by_cases hbr : D ≤ d0 + 7 * k + 7
            · have hLw : Hid (lastWk D r.week d0 = d0 + 7 * k) := by show lastWk D r.week d0 = d0 + 7 * k; rw [lastWk, if_neg (by omega)]; omega
              have HM4 := HM.out
              rw [hLw.out] at HM4
              have HM5 := Lib.hid HM4
              clear HM HM4 hLw
              go_wp2_with fail
              refine (HI.out.pbox HB).mono ?_
              rintro e w1 ⟨rfl, HX1⟩
              clear c0 c1 c2 c3 c4
              obtain ⟨⟨c0, c1, c2, c3, c4⟩, _⟩ := HX1.all
              go_wp2_with fail
              refine (HBf.out.pbox HX1).mono ?_
              rintro e w2 ⟨rfl, HX2⟩
              clear c0 c1 c2 c3 c4
              obtain ⟨⟨c0, c1, c2, c3, c4⟩, _⟩ := HX2.all
              go_wp2_with fail
              refine (HL.out.pbox HX2).mono ?_
              rintro e w3 ⟨rfl, HX3⟩
              clear c0 c1 c2 c3 c4
              obtain ⟨⟨c0, c1, c2, c3, c4⟩, _⟩ := HX3.all
              cases lb with
              | false =>
                have HF := Lib.hid (show res = (d0 + 7 * k + bf) * 86400 + r.time - off by rw [HV.out, HM5.out, if_neg (by simp)]; omega)
                clear HV HM5
                go_wp2_with fail
                go_ret
                rw [HF.out]
                exact ⟨rfl, HX3.2⟩
              | true =>
                have HF := Lib.hid (show res = (d0 + 7 * k + bf) * 86400 + r.time - off by rw [HV.out, HM5.out, if_neg (by omega)]; omega)
                clear HV HM5
                go_wp2_with fail
                go_ret
                rw [HF.out]
                exact ⟨rfl, HX3.2⟩
            · go_wp2_with fail
              refine (HI.out.pbox HB).mono ?_
              rintro e w1 ⟨rfl, HX1⟩
              go_wp2_with fail
              go_roundw
              case rel => exact ⟨k + 1, by omega, by omega, by congr 1; omega, rfl, by omega, HX1⟩
              case measure => simp [intOf]; omega
          · have hLw : Hid (lastWk D r.week d0 = d0 + 7 * k) := by
              have e : r.week - 1 = k := by omega
              show lastWk D r.week d0 = d0 + 7 * k
              rw [lastWk, e, if_pos hkD]
            have HM4 := HM.out
            rw [hLw.out] at HM4
            have HM5 := Lib.hid HM4
            clear HM HM4 hLw
            go_wp2_with fail
            have HX1 := HB
            refine (HBf.out.pbox HX1).mono ?_
            rintro e w2 ⟨rfl, HX2⟩
            clear c0 c1 c2 c3 c4
            obtain ⟨⟨c0, c1, c2, c3, c4⟩, _⟩ := HX2.all
            go_wp2_with fail
            refine (HL.out.pbox HX2).mono ?_
            rintro e w3 ⟨rfl, HX3⟩
            clear c0 c1 c2 c3 c4
            obtain ⟨⟨c0, c1, c2, c3, c4⟩, _⟩ := HX3.all
            cases lb with
            | false =>
              have HF := Lib.hid (show res = (d0 + 7 * k + bf) * 86400 + r.time - off by rw [HV.out, HM5.out, if_neg (by simp)]; omega)
              clear HV HM5
              go_wp2_with fail
              go_ret
              rw [HF.out]
              exact ⟨rfl, HX3.2⟩
            | true =>
              have HF := Lib.hid (show res = (d0 + 7 * k + bf) * 86400 + r.time - off by rw [HV.out, HM5.out, if_neg (by omega)]; omega)
              clear HV HM5
              go_wp2_with fail
              go_ret
              rw [HF.out]
              exact ⟨rfl, HX3.2⟩
      · have HE := Lib.hid (show d0F r.day z = r.day - (z + 7) by rw [d0F, dowF, if_pos hzn, if_neg hdn])
        go_upto_region 22 with fail
        have hM3 := HM.out
        rw [HE.out] at hM3
        clear HM HE
        obtain ⟨d0, hd0e⟩ : ∃ d0, d0 = r.day - (z + 7) := ⟨_, rfl⟩
        have hd00 : 0 ≤ d0 := by omega
        have hd06 : d0 ≤ 6 := by omega
        rw [← hd0e] at hM3 ⊢
        have HM := Lib.hid hM3
        clear hM3 hd0e hzn hdn hz0 hz1
        go_wp2_with fail
        go_loopw [13, 14] (fun d i W => ∃ k : Int, 0 ≤ k ∧ k ≤ r.week - 1 ∧ d = .int .i64 (d0 + 7 * k) ∧ i = .int .i64 (k + 1) ∧ d0 + 7 * k < D ∧ PBox w r W) (fun _ i _ => (6 - intOf i).toNat)
        case atStart => exact ⟨0, by omega, by omega, by simp, by simp, by omega, HB⟩
        case round =>
          clear HB c0 c1 c2 c3 c4
          obtain ⟨k, hk0, hk1, rfl, rfl, hkD, HB⟩ := hrel
          obtain ⟨⟨c0, c1, c2, c3, c4⟩, _⟩ := HB.all
          by_cases hkw : k + 1 < r.week
          · by_cases hbr : D ≤ d0 + 7 * k + 7
            · have hLw : Hid (lastWk D r.week d0 = d0 + 7 * k) := by show lastWk D r.week d0 = d0 + 7 * k; rw [lastWk, if_neg (by omega)]; omega
              have HM4 := HM.out
              rw [hLw.out] at HM4
              have HM5 := Lib.hid HM4
              clear HM HM4 hLw
              go_wp2_with fail
              refine (HI.out.pbox HB).mono ?_
              rintro e w1 ⟨rfl, HX1⟩
              clear c0 c1 c2 c3 c4
              obtain ⟨⟨c0, c1, c2, c3, c4⟩, _⟩ := HX1.all
              go_wp2_with fail
              refine (HBf.out.pbox HX1).mono ?_
              rintro e w2 ⟨rfl, HX2⟩
              clear c0 c1 c2 c3 c4
              obtain ⟨⟨c0, c1, c2, c3, c4⟩, _⟩ := HX2.all
              go_wp2_with fail
              refine (HL.out.pbox HX2).mono ?_
              rintro e w3 ⟨rfl, HX3⟩
              clear c0 c1 c2 c3 c4
              obtain ⟨⟨c0, c1, c2, c3, c4⟩, _⟩ := HX3.all
              cases lb with
              | false =>
                have HF := Lib.hid (show res = (d0 + 7 * k + bf) * 86400 + r.time - off by rw [HV.out, HM5.out, if_neg (by simp)]; omega)
                clear HV HM5
                go_wp2_with fail
                go_ret
                rw [HF.out]
                exact ⟨rfl, HX3.2⟩
              | true =>
                have HF := Lib.hid (show res = (d0 + 7 * k + bf) * 86400 + r.time - off by rw [HV.out, HM5.out, if_neg (by omega)]; omega)
                clear HV HM5
                go_wp2_with fail
                go_ret
                rw [HF.out]
                exact ⟨rfl, HX3.2⟩
            · go_wp2_with fail
              refine (HI.out.pbox HB).mono ?_
              rintro e w1 ⟨rfl, HX1⟩
              go_wp2_with fail
              go_roundw
              case rel => exact ⟨k + 1, by omega, by omega, by congr 1; omega, rfl, by omega, HX1⟩
              case measure => simp [intOf]; omega
          · have hLw : Hid (lastWk D r.week d0 = d0 + 7 * k) := by
              have e : r.week - 1 = k := by omega
              show lastWk D r.week d0 = d0 + 7 * k
              rw [lastWk, e, if_pos hkD]
            have HM4 := HM.out
            rw [hLw.out] at HM4
            have HM5 := Lib.hid HM4
            clear HM HM4 hLw
            go_wp2_with fail
            have HX1 := HB
            refine (HBf.out.pbox HX1).mono ?_
            rintro e w2 ⟨rfl, HX2⟩
            clear c0 c1 c2 c3 c4
            obtain ⟨⟨c0, c1, c2, c3, c4⟩, _⟩ := HX2.all
            go_wp2_with fail
            refine (HL.out.pbox HX2).mono ?_
            rintro e w3 ⟨rfl, HX3⟩
            clear c0 c1 c2 c3 c4
            obtain ⟨⟨c0, c1, c2, c3, c4⟩, _⟩ := HX3.all
            cases lb with
            | false =>
              have HF := Lib.hid (show res = (d0 + 7 * k + bf) * 86400 + r.time - off by rw [HV.out, HM5.out, if_neg (by simp)]; omega)
              clear HV HM5
              go_wp2_with fail
              go_ret
              rw [HF.out]
              exact ⟨rfl, HX3.2⟩
            | true =>
              have HF := Lib.hid (show res = (d0 + 7 * k + bf) * 86400 + r.time - off by rw [HV.out, HM5.out, if_neg (by omega)]; omega)
              clear HV HM5
              go_wp2_with fail
              go_ret
              rw [HF.out]
              exact ⟨rfl, HX3.2⟩
    · by_cases hdn : r.day - z < 0
      · have HE := Lib.hid (show d0F r.day z = r.day - z + 7 by rw [d0F, dowF, if_neg hzn, if_pos hdn])
        go_upto_region 22 with fail
        have hM3 := HM.out
        rw [HE.out] at hM3
        clear HM HE
        obtain ⟨d0, hd0e⟩ : ∃ d0, d0 = r.day - z + 7 := ⟨_, rfl⟩
        have hd00 : 0 ≤ d0 := by omega
        have hd06 : d0 ≤ 6 := by omega
        rw [← hd0e] at hM3 ⊢
        have HM := Lib.hid hM3
        clear hM3 hd0e hzn hdn hz0 hz1
        go_wp2_with fail
        go_loopw [13, 14] (fun d i W => ∃ k : Int, 0 ≤ k ∧ k ≤ r.week - 1 ∧ d = .int .i64 (d0 + 7 * k) ∧ i = .int .i64 (k + 1) ∧ d0 + 7 * k < D ∧ PBox w r W) (fun _ i _ => (6 - intOf i).toNat)
        case atStart => exact ⟨0, by omega, by omega, by simp, by simp, by omega, HB⟩
        case round =>
          clear HB c0 c1 c2 c3 c4
          obtain ⟨k, hk0, hk1, rfl, rfl, hkD, HB⟩ := hrel
          obtain ⟨⟨c0, c1, c2, c3, c4⟩, _⟩ := HB.all
          by_cases hkw : k + 1 < r.week
          · by_cases hbr : D ≤ d0 + 7 * k + 7
            · have hLw : Hid (lastWk D r.week d0 = d0 + 7 * k) := by show lastWk D r.week d0 = d0 + 7 * k; rw [lastWk, if_neg (by omega)]; omega
              have HM4 := HM.out
              rw [hLw.out] at HM4
              have HM5 := Lib.hid HM4
              clear HM HM4 hLw
              go_wp2_with fail
              refine (HI.out.pbox HB).mono ?_
              rintro e w1 ⟨rfl, HX1⟩
              clear c0 c1 c2 c3 c4
              obtain ⟨⟨c0, c1, c2, c3, c4⟩, _⟩ := HX1.all
              go_wp2_with fail
              refine (HBf.out.pbox HX1).mono ?_
              rintro e w2 ⟨rfl, HX2⟩
              clear c0 c1 c2 c3 c4
              obtain ⟨⟨c0, c1, c2, c3, c4⟩, _⟩ := HX2.all
              go_wp2_with fail
              refine (HL.out.pbox HX2).mono ?_
              rintro e w3 ⟨rfl, HX3⟩
              clear c0 c1 c2 c3 c4
              obtain ⟨⟨c0, c1, c2, c3, c4⟩, _⟩ := HX3.all
              cases lb with
              | false =>
                have HF := Lib.hid (show res = (d0 + 7 * k + bf) * 86400 + r.time - off by rw [HV.out, HM5.out, if_neg (by simp)]; omega)
                clear HV HM5
                go_wp2_with fail
                go_ret
                rw [HF.out]
                exact ⟨rfl, HX3.2⟩
              | true =>
                have HF := Lib.hid (show res = (d0 + 7 * k + bf) * 86400 + r.time - off by rw [HV.out, HM5.out, if_neg (by omega)]; omega)
                clear HV HM5
                go_wp2_with fail
                go_ret
                rw [HF.out]
                exact ⟨rfl, HX3.2⟩
            · go_wp2_with fail
              refine (HI.out.pbox HB).mono ?_
              rintro e w1 ⟨rfl, HX1⟩
              go_wp2_with fail
              go_roundw
              case rel => exact ⟨k + 1, by omega, by omega, by congr 1; omega, rfl, by omega, HX1⟩
              case measure => simp [intOf]; omega
          · have hLw : Hid (lastWk D r.week d0 = d0 + 7 * k) := by
              have e : r.week - 1 = k := by omega
              show lastWk D r.week d0 = d0 + 7 * k
              rw [lastWk, e, if_pos hkD]
            have HM4 := HM.out
            rw [hLw.out] at HM4
            have HM5 := Lib.hid HM4
            clear HM HM4 hLw
            go_wp2_with fail
            have HX1 := HB
            refine (HBf.out.pbox HX1).mono ?_
            rintro e w2 ⟨rfl, HX2⟩
            clear c0 c1 c2 c3 c4
            obtain ⟨⟨c0, c1, c2, c3, c4⟩, _⟩ := HX2.all
            go_wp2_with fail
            refine (HL.out.pbox HX2).mono ?_
            rintro e w3 ⟨rfl, HX3⟩
            clear c0 c1 c2 c3 c4
            obtain ⟨⟨c0, c1, c2, c3, c4⟩, _⟩ := HX3.all
            cases lb with
            | false =>
              have HF := Lib.hid (show res = (d0 + 7 * k + bf) * 86400 + r.time - off by rw [HV.out, HM5.out, if_neg (by simp)]; omega)
              clear HV HM5
              go_wp2_with fail
              go_ret
              rw [HF.out]
              exact ⟨rfl, HX3.2⟩
            | true =>
              have HF := Lib.hid (show res = (d0 + 7 * k + bf) * 86400 + r.time - off by rw [HV.out, HM5.out, if_neg (by omega)]; omega)
              clear HV HM5
              go_wp2_with fail
              go_ret
              rw [HF.out]
              exact ⟨rfl, HX3.2⟩
      · have HE := Lib.hid (show d0F r.day z = r.day - z by rw [d0F, dowF, if_neg hzn, if_neg hdn])
        go_upto_region 22 with fail
        have hM3 := HM.out
        rw [HE.out] at hM3
        clear HM HE
        obtain ⟨d0, hd0e⟩ : ∃ d0, d0 = r.day - z := ⟨_, rfl⟩
        have hd00 : 0 ≤ d0 := by omega
        have hd06 : d0 ≤ 6 := by omega
        rw [← hd0e] at hM3 ⊢
        have HM := Lib.hid hM3
        clear hM3 hd0e hzn hdn hz0 hz1
        go_wp2_with fail
        go_loopw [13, 14] (fun d i W => ∃ k : Int, 0 ≤ k ∧ k ≤ r.week - 1 ∧ d = .int .i64 (d0 + 7 * k) ∧ i = .int .i64 (k + 1) ∧ d0 + 7 * k < D ∧ PBox w r W) (fun _ i _ => (6 - intOf i).toNat)
        case atStart => exact ⟨0, by omega, by omega, by simp, by simp, by omega, HB⟩
        case round =>
          clear HB c0 c1 c2 c3 c4
          obtain ⟨k, hk0, hk1, rfl, rfl, hkD, HB⟩ := hrel
          obtain ⟨⟨c0, c1, c2, c3, c4⟩, _⟩ := HB.all
          by_cases hkw : k + 1 < r.week
          · by_cases hbr : D ≤ d0 + 7 * k + 7
            · have hLw : Hid (lastWk D r.week d0 = d0 + 7 * k) := by show lastWk D r.week d0 = d0 + 7 * k; rw [lastWk, if_neg (by omega)]; omega
              have HM4 := HM.out
              rw [hLw.out] at HM4
              have HM5 := Lib.hid HM4
              clear HM HM4 hLw
              go_wp2_with fail
              refine (HI.out.pbox HB).mono ?_
              rintro e w1 ⟨rfl, HX1⟩
              clear c0 c1 c2 c3 c4
              obtain ⟨⟨c0, c1, c2, c3, c4⟩, _⟩ := HX1.all
              go_wp2_with fail
              refine (HBf.out.pbox HX1).mono ?_
              rintro e w2 ⟨rfl, HX2⟩
              clear c0 c1 c2 c3 c4
              obtain ⟨⟨c0, c1, c2, c3, c4⟩, _⟩ := HX2.all
              go_wp2_with fail
              refine (HL.out.pbox HX2).mono ?_
              rintro e w3 ⟨rfl, HX3⟩
              clear c0 c1 c2 c3 c4
              obtain ⟨⟨c0, c1, c2, c3, c4⟩, _⟩ := HX3.all
              cases lb with
              | false =>
                have HF := Lib.hid (show res = (d0 + 7 * k + bf) * 86400 + r.time - off by rw [HV.out, HM5.out, if_neg (by simp)]; omega)
                clear HV HM5
                go_wp2_with fail
                go_ret
                rw [HF.out]
                exact ⟨rfl, HX3.2⟩
              | true =>
                have HF := Lib.hid (show res = (d0 + 7 * k + bf) * 86400 + r.time - off by rw [HV.out, HM5.out, if_neg (by omega)]; omega)
                clear HV HM5
                go_wp2_with fail
                go_ret
                rw [HF.out]
                exact ⟨rfl, HX3.2⟩
            · go_wp2_with fail
              refine (HI.out.pbox HB).mono ?_
              rintro e w1 ⟨rfl, HX1⟩
              go_wp2_with fail
              go_roundw
              case rel => exact ⟨k + 1, by omega, by omega, by congr 1; omega, rfl, by omega, HX1⟩
              case measure => simp [intOf]; omega
          · have hLw : Hid (lastWk D r.week d0 = d0 + 7 * k) := by
              have e : r.week - 1 = k := by omega
              show lastWk D r.week d0 = d0 + 7 * k
              rw [lastWk, e, if_pos hkD]
            have HM4 := HM.out
            rw [hLw.out] at HM4
            have HM5 := Lib.hid HM4
            clear HM HM4 hLw
            go_wp2_with fail
            have HX1 := HB
            refine (HBf.out.pbox HX1).mono ?_
            rintro e w2 ⟨rfl, HX2⟩
            clear c0 c1 c2 c3 c4
            obtain ⟨⟨c0, c1, c2, c3, c4⟩, _⟩ := HX2.all
            go_wp2_with fail
            refine (HL.out.pbox HX2).mono ?_
            rintro e w3 ⟨rfl, HX3⟩
            clear c0 c1 c2 c3 c4
            obtain ⟨⟨c0, c1, c2, c3, c4⟩, _⟩ := HX3.all
            cases lb with
            | false =>
              have HF := Lib.hid (show res = (d0 + 7 * k + bf) * 86400 + r.time - off by rw [HV.out, HM5.out, if_neg (by simp)]; omega)
              clear HV HM5
              go_wp2_with fail
              go_ret
              rw [HF.out]
              exact ⟨rfl, HX3.2⟩
            | true =>
              have HF := Lib.hid (show res = (d0 + 7 * k + bf) * 86400 + r.time - off by rw [HV.out, HM5.out, if_neg (by omega)]; omega)
              clear HV HM5
              go_wp2_with fail
              go_ret
              rw [HF.out]
              exact ⟨rfl, HX3.2⟩
  · skip
    skip
    go_enter Tryd.func48, Tryd.ntmps48
    go_upto_region 17 with fail
    have hzb := zel_bd (wrap64 (wrap64 (wrap64 (wrap64 ((26 * ((r.mon + 9) % 12 + 1) - 2) / 10 + 1 + (y).tmod 100) + wrap64 (((y).tmod 100).tdiv 4)) + wrap64 (((y).tdiv 100).tdiv 4)) - wrap64 (2 * (y).tdiv 100)))
    have HM' := HM.out
    rw [if_neg hm] at HM'
    unfold zelW at HM'
    clear HM
    generalize (wrap64 (wrap64 (wrap64 (wrap64 ((26 * ((r.mon + 9) % 12 + 1) - 2) / 10 + 1 + (y).tmod 100) + wrap64 (((y).tmod 100).tdiv 4)) + wrap64 (((y).tdiv 100).tdiv 4)) - wrap64 (2 * (y).tdiv 100))).tmod 7 = z at *
    have HM := Lib.hid HM'
    clear HM'
    obtain ⟨hz0, hz1⟩ := hzb
    by_cases hzn : z < 0
    · by_cases hdn : r.day - (z + 7) < 0
      · have HE := Lib.hid (show d0F r.day z = r.day - (z + 7) + 7 by rw [d0F, dowF, if_pos hzn, if_pos hdn])
        go_upto_region 22 with fail
        have hM3 := HM.out
        rw [HE.out] at hM3
        clear HM HE
        obtain ⟨d0, hd0e⟩ : ∃ d0, d0 = r.day - (z + 7) + 7 := ⟨_, rfl⟩
        have hd00 : 0 ≤ d0 := by omega
        have hd06 : d0 ≤ 6 := by omega
        rw [← hd0e] at hM3 ⊢
        have HM := Lib.hid hM3
        clear hM3 hd0e hzn hdn hz0 hz1
        go_wp2_with fail
        go_loopw [13, 14] (fun d i W => ∃ k : Int, 0 ≤ k ∧ k ≤ r.week - 1 ∧ d = .int .i64 (d0 + 7 * k) ∧ i = .int .i64 (k + 1) ∧ d0 + 7 * k < D ∧ PBox w r W) (fun _ i _ => (6 - intOf i).toNat)
        case atStart => exact ⟨0, by omega, by omega, by simp, by simp, by omega, HB⟩
        case round =>
          clear HB c0 c1 c2 c3 c4
          obtain ⟨k, hk0, hk1, rfl, rfl, hkD, HB⟩ := hrel
          obtain ⟨⟨c0, c1, c2, c3, c4⟩, _⟩ := HB.all
          by_cases hkw : k + 1 < r.week
          · by_cases hbr : D ≤ d0 + 7 * k + 7
            · have hLw : Hid (lastWk D r.week d0 = d0 + 7 * k) := by show lastWk D r.week d0 = d0 + 7 * k; rw [lastWk, if_neg (by omega)]; omega
              have HM4 := HM.out
              rw [hLw.out] at HM4
              have HM5 := Lib.hid HM4
              clear HM HM4 hLw
              go_wp2_with fail
              refine (HI.out.pbox HB).mono ?_
              rintro e w1 ⟨rfl, HX1⟩
              clear c0 c1 c2 c3 c4
              obtain ⟨⟨c0, c1, c2, c3, c4⟩, _⟩ := HX1.all
              go_wp2_with fail
              refine (HBf.out.pbox HX1).mono ?_
              rintro e w2 ⟨rfl, HX2⟩
              clear c0 c1 c2 c3 c4
              obtain ⟨⟨c0, c1, c2, c3, c4⟩, _⟩ := HX2.all
              go_wp2_with fail
              refine (HL.out.pbox HX2).mono ?_
              rintro e w3 ⟨rfl, HX3⟩
              clear c0 c1 c2 c3 c4
              obtain ⟨⟨c0, c1, c2, c3, c4⟩, _⟩ := HX3.all
              cases lb with
              | false =>
                have HF := Lib.hid (show res = (d0 + 7 * k + bf) * 86400 + r.time - off by rw [HV.out, HM5.out, if_neg (by simp)]; omega)
                clear HV HM5
                go_wp2_with fail
                go_ret
                rw [HF.out]
                exact ⟨rfl, HX3.2⟩
              | true =>
                have HF := Lib.hid (show res = (d0 + 7 * k + bf + 1) * 86400 + r.time - off by rw [HV.out, HM5.out, if_pos ⟨rfl, by omega⟩])
                clear HV HM5
                go_wp2_with fail
                go_ret
                rw [HF.out]
                exact ⟨rfl, HX3.2⟩
            · go_wp2_with fail
              refine (HI.out.pbox HB).mono ?_
              rintro e w1 ⟨rfl, HX1⟩
              go_wp2_with fail
              go_roundw
              case rel => exact ⟨k + 1, by omega, by omega, by congr 1; omega, rfl, by omega, HX1⟩
              case measure => simp [intOf]; omega
          · have hLw : Hid (lastWk D r.week d0 = d0 + 7 * k) := by
              have e : r.week - 1 = k := by omega
              show lastWk D r.week d0 = d0 + 7 * k
              rw [lastWk, e, if_pos hkD]
            have HM4 := HM.out
            rw [hLw.out] at HM4
            have HM5 := Lib.hid HM4
            clear HM HM4 hLw
            go_wp2_with fail
            have HX1 := HB
            refine (HBf.out.pbox HX1).mono ?_
            rintro e w2 ⟨rfl, HX2⟩
            clear c0 c1 c2 c3 c4
            obtain ⟨⟨c0, c1, c2, c3, c4⟩, _⟩ := HX2.all
            go_wp2_with fail
            refine (HL.out.pbox HX2).mono ?_
            rintro e w3 ⟨rfl, HX3⟩
            clear c0 c1 c2 c3 c4
            obtain ⟨⟨c0, c1, c2, c3, c4⟩, _⟩ := HX3.all
            cases lb with
            | false =>
              have HF := Lib.hid (show res = (d0 + 7 * k + bf) * 86400 + r.time - off by rw [HV.out, HM5.out, if_neg (by simp)]; omega)
              clear HV HM5
              go_wp2_with fail
              go_ret
              rw [HF.out]
              exact ⟨rfl, HX3.2⟩
            | true =>
              have HF := Lib.hid (show res = (d0 + 7 * k + bf + 1) * 86400 + r.time - off by rw [HV.out, HM5.out, if_pos ⟨rfl, by omega⟩])
              clear HV HM5
              go_wp2_with fail
              go_ret
              rw [HF.out]
              exact ⟨rfl, HX3.2⟩
      · have HE := Lib.hid (show d0F r.day z = r.day - (z + 7) by rw [d0F, dowF, if_pos hzn, if_neg hdn])
        go_upto_region 22 with fail
        have hM3 := HM.out
        rw [HE.out] at hM3
        clear HM HE
        obtain ⟨d0, hd0e⟩ : ∃ d0, d0 = r.day - (z + 7) := ⟨_, rfl⟩
        have hd00 : 0 ≤ d0 := by omega
        have hd06 : d0 ≤ 6 := by omega
        rw [← hd0e] at hM3 ⊢
        have HM := Lib.hid hM3
        clear hM3 hd0e hzn hdn hz0 hz1
        go_wp2_with fail
        go_loopw [13, 14] (fun d i W => ∃ k : Int, 0 ≤ k ∧ k ≤ r.week - 1 ∧ d = .int .i64 (d0 + 7 * k) ∧ i = .int .i64 (k + 1) ∧ d0 + 7 * k < D ∧ PBox w r W) (fun _ i _ => (6 - intOf i).toNat)
        case atStart => exact ⟨0, by omega, by omega, by simp, by simp, by omega, HB⟩
        case round =>
          clear HB c0 c1 c2 c3 c4
          obtain ⟨k, hk0, hk1, rfl, rfl, hkD, HB⟩ := hrel
          obtain ⟨⟨c0, c1, c2, c3, c4⟩, _⟩ := HB.all
          by_cases hkw : k + 1 < r.week
          · by_cases hbr : D ≤ d0 + 7 * k + 7
            · have hLw : Hid (lastWk D r.week d0 = d0 + 7 * k) := by show lastWk D r.week d0 = d0 + 7 * k; rw [lastWk, if_neg (by omega)]; omega
              have HM4 := HM.out
              rw [hLw.out] at HM4
              have HM5 := Lib.hid HM4
              clear HM HM4 hLw
              go_wp2_with fail
              refine (HI.out.pbox HB).mono ?_
              rintro e w1 ⟨rfl, HX1⟩
              clear c0 c1 c2 c3 c4
              obtain ⟨⟨c0, c1, c2, c3, c4⟩, _⟩ := HX1.all
              go_wp2_with fail
              refine (HBf.out.pbox HX1).mono ?_
              rintro e w2 ⟨rfl, HX2⟩
              clear c0 c1 c2 c3 c4
              obtain ⟨⟨c0, c1, c2, c3, c4⟩, _⟩ := HX2.all
              go_wp2_with fail
              refine (HL.out.pbox HX2).mono ?_
              rintro e w3 ⟨rfl, HX3⟩
              clear c0 c1 c2 c3 c4
              obtain ⟨⟨c0, c1, c2, c3, c4⟩, _⟩ := HX3.all
              cases lb with
              | false =>
                have HF := Lib.hid (show res = (d0 + 7 * k + bf) * 86400 + r.time - off by rw [HV.out, HM5.out, if_neg (by simp)]; omega)
                clear HV HM5
                go_wp2_with fail
                go_ret
                rw [HF.out]
                exact ⟨rfl, HX3.2⟩
              | true =>
                have HF := Lib.hid (show res = (d0 + 7 * k + bf + 1) * 86400 + r.time - off by rw [HV.out, HM5.out, if_pos ⟨rfl, by omega⟩])
                clear HV HM5
                go_wp2_with fail
                go_ret
                rw [HF.out]
                exact ⟨rfl, HX3.2⟩
            · go_wp2_with fail
              refine (HI.out.pbox HB).mono ?_
              rintro e w1 ⟨rfl, HX1⟩
              go_wp2_with fail
              go_roundw
              case rel => exact ⟨k + 1, by omega, by omega, by congr 1; omega, rfl, by omega, HX1⟩
              case measure => simp [intOf]; omega
          · have hLw : Hid (lastWk D r.week d0 = d0 + 7 * k) := by
              have e : r.week - 1 = k := by omega
              show lastWk D r.week d0 = d0 + 7 * k
              rw [lastWk, e, if_pos hkD]
            have HM4 := HM.out
            rw [hLw.out] at HM4
            have HM5 := Lib.hid HM4
            clear HM HM4 hLw
            go_wp2_with fail
            have HX1 := HB
            refine (HBf.out.pbox HX1).mono ?_
            rintro e w2 ⟨rfl, HX2⟩
            clear c0 c1 c2 c3 c4
            obtain ⟨⟨c0, c1, c2, c3, c4⟩, _⟩ := HX2.all
            go_wp2_with fail
            refine (HL.out.pbox HX2).mono ?_
            rintro e w3 ⟨rfl, HX3⟩
            clear c0 c1 c2 c3 c4
            obtain ⟨⟨c0, c1, c2, c3, c4⟩, _⟩ := HX3.all
            cases lb with
            | false =>
              have HF := Lib.hid (show res = (d0 + 7 * k + bf) * 86400 + r.time - off by rw [HV.out, HM5.out, if_neg (by simp)]; omega)
              clear HV HM5
              go_wp2_with fail
              go_ret
              rw [HF.out]
              exact ⟨rfl, HX3.2⟩
            | true =>
              have HF := Lib.hid (show res = (d0 + 7 * k + bf + 1) * 86400 + r.time - off by rw [HV.out, HM5.out, if_pos ⟨rfl, by omega⟩])
              clear HV HM5
              go_wp2_with fail
              go_ret
              rw [HF.out]
              exact ⟨rfl, HX3.2⟩
    · by_cases hdn : r.day - z < 0
      · have HE := Lib.hid (show d0F r.day z = r.day - z + 7 by rw [d0F, dowF, if_neg hzn, if_pos hdn])
        go_upto_region 22 with fail
        have hM3 := HM.out
        rw [HE.out] at hM3
        clear HM HE
        obtain ⟨d0, hd0e⟩ : ∃ d0, d0 = r.day - z + 7 := ⟨_, rfl⟩
        have hd00 : 0 ≤ d0 := by omega
        have hd06 : d0 ≤ 6 := by omega
        rw [← hd0e] at hM3 ⊢
        have HM := Lib.hid hM3
        clear hM3 hd0e hzn hdn hz0 hz1
        go_wp2_with fail
        go_loopw [13, 14] (fun d i W => ∃ k : Int, 0 ≤ k ∧ k ≤ r.week - 1 ∧ d = .int .i64 (d0 + 7 * k) ∧ i = .int .i64 (k + 1) ∧ d0 + 7 * k < D ∧ PBox w r W) (fun _ i _ => (6 - intOf i).toNat)
        case atStart => exact ⟨0, by omega, by omega, by simp, by simp, by omega, HB⟩
        case round =>
          clear HB c0 c1 c2 c3 c4
          obtain ⟨k, hk0, hk1, rfl, rfl, hkD, HB⟩ := hrel
          obtain ⟨⟨c0, c1, c2, c3, c4⟩, _⟩ := HB.all
          by_cases hkw : k + 1 < r.week
          · by_cases hbr : D ≤ d0 + 7 * k + 7
            · have hLw : Hid (lastWk D r.week d0 = d0 + 7 * k) := by show lastWk D r.week d0 = d0 + 7 * k; rw [lastWk, if_neg (by omega)]; omega
              have HM4 := HM.out
              rw [hLw.out] at HM4
              have HM5 := Lib.hid HM4
              clear HM HM4 hLw
              go_wp2_with fail
              refine (HI.out.pbox HB).mono ?_
              rintro e w1 ⟨rfl, HX1⟩
              clear c0 c1 c2 c3 c4
              obtain ⟨⟨c0, c1, c2, c3, c4⟩, _⟩ := HX1.all
              go_wp2_with fail
              refine (HBf.out.pbox HX1).mono ?_
              rintro e w2 ⟨rfl, HX2⟩
              clear c0 c1 c2 c3 c4
              obtain ⟨⟨c0, c1, c2, c3, c4⟩, _⟩ := HX2.all
              go_wp2_with fail
              refine (HL.out.pbox HX2).mono ?_
              rintro e w3 ⟨rfl, HX3⟩
              clear c0 c1 c2 c3 c4
              obtain ⟨⟨c0, c1, c2, c3, c4⟩, _⟩ := HX3.all
              cases lb with
              | false =>
                have HF := Lib.hid (show res = (d0 + 7 * k + bf) * 86400 + r.time - off by rw [HV.out, HM5.out, if_neg (by simp)]; omega)
                clear HV HM5
                go_wp2_with fail
                go_ret
                rw [HF.out]
                exact ⟨rfl, HX3.2⟩
              | true =>
                have HF := Lib.hid (show res = (d0 + 7 * k + bf + 1) * 86400 + r.time - off by rw [HV.out, HM5.out, if_pos ⟨rfl, by omega⟩])
                clear HV HM5
                go_wp2_with fail
                go_ret
                rw [HF.out]
                exact ⟨rfl, HX3.2⟩
            · go_wp2_with fail
              refine (HI.out.pbox HB).mono ?_
              rintro e w1 ⟨rfl, HX1⟩
              go_wp2_with fail
              go_roundw
              case rel => exact ⟨k + 1, by omega, by omega, by congr 1; omega, rfl, by omega, HX1⟩
              case measure => simp [intOf]; omega
          · have hLw : Hid (lastWk D r.week d0 = d0 + 7 * k) := by
              have e : r.week - 1 = k := by omega
              show lastWk D r.week d0 = d0 + 7 * k
              rw [lastWk, e, if_pos hkD]
            have HM4 := HM.out
            rw [hLw.out] at HM4
            have HM5 := Lib.hid HM4
            clear HM HM4 hLw
            go_wp2_with fail
            have HX1 := HB
            refine (HBf.out.pbox HX1).mono ?_
            rintro e w2 ⟨rfl, HX2⟩
            clear c0 c1 c2 c3 c4
            obtain ⟨⟨c0, c1, c2, c3, c4⟩, _⟩ := HX2.all
            go_wp2_with fail
            refine (HL.out.pbox HX2).mono ?_
            rintro e w3 ⟨rfl, HX3⟩
            clear c0 c1 c2 c3 c4
            obtain ⟨⟨c0, c1, c2, c3, c4⟩, _⟩ := HX3.all
            cases lb with
            | false =>
              have HF := Lib.hid (show res = (d0 + 7 * k + bf) * 86400 + r.time - off by rw [HV.out, HM5.out, if_neg (by simp)]; omega)
              clear HV HM5
              go_wp2_with fail
              go_ret
              rw [HF.out]
              exact ⟨rfl, HX3.2⟩
            | true =>
              have HF := Lib.hid (show res = (d0 + 7 * k + bf + 1) * 86400 + r.time - off by rw [HV.out, HM5.out, if_pos ⟨rfl, by omega⟩])
              clear HV HM5
              go_wp2_with fail
              go_ret
              rw [HF.out]
              exact ⟨rfl, HX3.2⟩
      · have HE := Lib.hid (show d0F r.day z = r.day - z by rw [d0F, dowF, if_neg hzn, if_neg hdn])
        go_upto_region 22 with fail
        have hM3 := HM.out
        rw [HE.out] at hM3
        clear HM HE
        obtain ⟨d0, hd0e⟩ : ∃ d0, d0 = r.day - z := ⟨_, rfl⟩
        have hd00 : 0 ≤ d0 := by omega
        have hd06 : d0 ≤ 6 := by omega
        rw [← hd0e] at hM3 ⊢
        have HM := Lib.hid hM3
        clear hM3 hd0e hzn hdn hz0 hz1
        go_wp2_with fail
        go_loopw [13, 14] (fun d i W => ∃ k : Int, 0 ≤ k ∧ k ≤ r.week - 1 ∧ d = .int .i64 (d0 + 7 * k) ∧ i = .int .i64 (k + 1) ∧ d0 + 7 * k < D ∧ PBox w r W) (fun _ i _ => (6 - intOf i).toNat)
        case atStart => exact ⟨0, by omega, by omega, by simp, by simp, by omega, HB⟩
        case round =>
          clear HB c0 c1 c2 c3 c4
          obtain ⟨k, hk0, hk1, rfl, rfl, hkD, HB⟩ := hrel
          obtain ⟨⟨c0, c1, c2, c3, c4⟩, _⟩ := HB.all
          by_cases hkw : k + 1 < r.week
          · by_cases hbr : D ≤ d0 + 7 * k + 7
            · have hLw : Hid (lastWk D r.week d0 = d0 + 7 * k) := by show lastWk D r.week d0 = d0 + 7 * k; rw [lastWk, if_neg (by omega)]; omega
              have HM4 := HM.out
              rw [hLw.out] at HM4
              have HM5 := Lib.hid HM4
              clear HM HM4 hLw
              go_wp2_with fail
              refine (HI.out.pbox HB).mono ?_
              rintro e w1 ⟨rfl, HX1⟩
              clear c0 c1 c2 c3 c4
              obtain ⟨⟨c0, c1, c2, c3, c4⟩, _⟩ := HX1.all
              go_wp2_with fail
              refine (HBf.out.pbox HX1).mono ?_
              rintro e w2 ⟨rfl, HX2⟩
              clear c0 c1 c2 c3 c4
              obtain ⟨⟨c0, c1, c2, c3, c4⟩, _⟩ := HX2.all
              go_wp2_with fail
              refine (HL.out.pbox HX2).mono ?_
              rintro e w3 ⟨rfl, HX3⟩
              clear c0 c1 c2 c3 c4
              obtain ⟨⟨c0, c1, c2, c3, c4⟩, _⟩ := HX3.all
              cases lb with
              | false =>
                have HF := Lib.hid (show res = (d0 + 7 * k + bf) * 86400 + r.time - off by rw [HV.out, HM5.out, if_neg (by simp)]; omega)
                clear HV HM5
                go_wp2_with fail
                go_ret
                rw [HF.out]
                exact ⟨rfl, HX3.2⟩
              | true =>
                have HF := Lib.hid (show res = (d0 + 7 * k + bf + 1) * 86400 + r.time - off by rw [HV.out, HM5.out, if_pos ⟨rfl, by omega⟩])
                clear HV HM5
                go_wp2_with fail
                go_ret
                rw [HF.out]
                exact ⟨rfl, HX3.2⟩
            · go_wp2_with fail
              refine (HI.out.pbox HB).mono ?_
              rintro e w1 ⟨rfl, HX1⟩
              go_wp2_with fail
              go_roundw
              case rel => exact ⟨k + 1, by omega, by omega, by congr 1; omega, rfl, by omega, HX1⟩
              case measure => simp [intOf]; omega
          · have hLw : Hid (lastWk D r.week d0 = d0 + 7 * k) := by
              have e : r.week - 1 = k := by omega
              show lastWk D r.week d0 = d0 + 7 * k
              rw [lastWk, e, if_pos hkD]
            have HM4 := HM.out
            rw [hLw.out] at HM4
            have HM5 := Lib.hid HM4
            clear HM HM4 hLw
            go_wp2_with fail
            have HX1 := HB
            refine (HBf.out.pbox HX1).mono ?_
            rintro e w2 ⟨rfl, HX2⟩
            clear c0 c1 c2 c3 c4
            obtain ⟨⟨c0, c1, c2, c3, c4⟩, _⟩ := HX2.all
            go_wp2_with fail
            refine (HL.out.pbox HX2).mono ?_
            rintro e w3 ⟨rfl, HX3⟩
            clear c0 c1 c2 c3 c4
            obtain ⟨⟨c0, c1, c2, c3, c4⟩, _⟩ := HX3.all
            cases lb with
            | false =>
              have HF := Lib.hid (show res = (d0 + 7 * k + bf) * 86400 + r.time - off by rw [HV.out, HM5.out, if_neg (by simp)]; omega)
              clear HV HM5
              go_wp2_with fail
              go_ret
              rw [HF.out]
              exact ⟨rfl, HX3.2⟩
            | true =>
              have HF := Lib.hid (show res = (d0 + 7 * k + bf + 1) * 86400 + r.time - off by rw [HV.out, HM5.out, if_pos ⟨rfl, by omega⟩])
              clear HV HM5
              go_wp2_with fail
              go_ret
              rw [HF.out]
              exact ⟨rfl, HX3.2⟩

set_option maxHeartbeats 4000000 in
theorem tzruleTime_J (y : Int) (r : Ru) (off : Int) (hk : r.kind = 0) (hd0 : 0 ≤ r.day) (hd1 : r.day ≤ 999) (ht0 : -1000000 ≤ r.time) (ht1 : r.time ≤ 1000000) (ho0 : -10000000 ≤ off) (ho1 : off ≤ 10000000) : Ret 48 #[.int .i64 y, ruA r, .int .i64 off] (.int .i64 (ruTime y r off)) := by
  intro w
  have HB := PBox.new w r
  obtain ⟨⟨c0, c1, c2, c3, c4⟩, _⟩ := HB.all
  have e0 : (r.kind == 0) = true := by rw [beq_iff_eq]; exact hk
  have HL0 := isLeap_ret y
  have HV0 : ruTime y r off = (r.day - 1) * 86400 + (if leapB y = true ∧ 60 ≤ r.day then 86400 else 0) + r.time - off := by rw [ruTime, if_pos hk]
  generalize leapB y = lb at *
  generalize ruTime y r off = res at *
  have HV := Lib.hid HV0
  have HL := Lib.hid HL0
  clear hk HL0 HV0
  unfold ruA
  by_cases h60 : 60 ≤ r.day
  · cases lb with
    | false =>
      have HF := Lib.hid (show res = (r.day - 1) * 86400 + r.time - off by rw [HV.out, if_neg (by simp)]; omega)
      go_enter Tryd.func48, Tryd.ntmps48
      go_wp2_with fail
      refine (HL.out.pbox HB).mono ?_
      rintro e w1 ⟨rfl, HX1⟩
      clear c0 c1 c2 c3 c4
      obtain ⟨⟨c0, c1, c2, c3, c4⟩, _⟩ := HX1.all
      go_wp2_with fail
      go_ret
      rw [HF.out]
      exact ⟨rfl, HX1.2⟩
    | true =>
      have HF := Lib.hid (show res = (r.day - 1) * 86400 + 86400 + r.time - off by rw [HV.out, if_pos ⟨rfl, h60⟩])
      go_enter Tryd.func48, Tryd.ntmps48
      go_wp2_with fail
      refine (HL.out.pbox HB).mono ?_
      rintro e w1 ⟨rfl, HX1⟩
      clear c0 c1 c2 c3 c4
      obtain ⟨⟨c0, c1, c2, c3, c4⟩, _⟩ := HX1.all
      go_wp2_with fail
      go_ret
      rw [HF.out]
      exact ⟨rfl, HX1.2⟩
  · cases lb with
    | false =>
      have HF := Lib.hid (show res = (r.day - 1) * 86400 + r.time - off by rw [HV.out, if_neg (by simp)]; omega)
      go_enter Tryd.func48, Tryd.ntmps48
      go_wp2_with fail
      refine (HL.out.pbox HB).mono ?_
      rintro e w1 ⟨rfl, HX1⟩
      clear c0 c1 c2 c3 c4
      obtain ⟨⟨c0, c1, c2, c3, c4⟩, _⟩ := HX1.all
      go_wp2_with fail
      go_ret
      rw [HF.out]
      exact ⟨rfl, HX1.2⟩
    | true =>
      have HF := Lib.hid (show res = (r.day - 1) * 86400 + r.time - off by rw [HV.out, if_neg (by omega)]; omega)
      go_enter Tryd.func48, Tryd.ntmps48
      go_wp2_with fail
      refine (HL.out.pbox HB).mono ?_
      rintro e w1 ⟨rfl, HX1⟩
      clear c0 c1 c2 c3 c4
      obtain ⟨⟨c0, c1, c2, c3, c4⟩, _⟩ := HX1.all
      go_wp2_with fail
      go_ret
      rw [HF.out]
      exact ⟨rfl, HX1.2⟩
theorem tzruleTime_D (y : Int) (r : Ru) (off : Int) (hk : r.kind = 1) (hd0 : 0 ≤ r.day) (hd1 : r.day ≤ 999) (ht0 : -1000000 ≤ r.time) (ht1 : r.time ≤ 1000000) (ho0 : -10000000 ≤ off) (ho1 : off ≤ 10000000) : Ret 48 #[.int .i64 y, ruA r, .int .i64 off] (.int .i64 (ruTime y r off)) := by
  intro w
  have HB := PBox.new w r
  obtain ⟨⟨c0, c1, c2, c3, c4⟩, _⟩ := HB.all
  have e0 : (r.kind == 0) = false := by rw [beq_eq_false_iff_ne]; omega
  have e1 : (r.kind == 1) = true := by rw [beq_iff_eq]; exact hk
  have HF := Lib.hid (show ruTime y r off = r.day * 86400 + r.time - off by rw [ruTime, if_neg (by omega), if_pos hk])
  clear hk
  unfold ruA
  go_enter Tryd.func48, Tryd.ntmps48
  go_wp2_with fail
  go_ret
  rw [HF.out]
  exact ⟨rfl, HB.2⟩
/-- a rule that the reader of rules gives -/
def ruFine (r : Ru) : Prop := (r.kind = 0 ∨ r.kind = 1) ∧ 0 ≤ r.day ∧ r.day ≤ 999 ∧ -1000000 ≤ r.time ∧ r.time ≤ 1000000 ∨ r.kind = 2 ∧ 0 ≤ r.day ∧ r.day ≤ 6 ∧ 1 ≤ r.week ∧ r.week ≤ 5 ∧ 1 ≤ r.mon ∧ r.mon ≤ 12 ∧ -1000000 ≤ r.time ∧ r.time ≤ 1000000
theorem tzruleTime_ret (y : Int) (r : Ru) (off : Int) (hy0 : -1000000000000 ≤ y) (hy1 : y ≤ 1000000000000) (hr : ruFine r) (ho0 : -10000000 ≤ off) (ho1 : off ≤ 10000000) : Ret 48 #[.int .i64 y, ruA r, .int .i64 off] (.int .i64 (ruTime y r off)) := by
  rcases hr with ⟨hk | hk, a, b, c, d⟩ | ⟨hk, a, b, c, d, e, f, g, h⟩
  · exact tzruleTime_J y r off hk a b c d ho0 ho1
  · exact tzruleTime_D y r off hk a b c d ho0 ho1
  · exact tzruleTime_M y r off hy0 hy1 hk a b c d e f g h ho0 ho1

end Go.Proofs.YtgmlclhdibajiaaDoor
