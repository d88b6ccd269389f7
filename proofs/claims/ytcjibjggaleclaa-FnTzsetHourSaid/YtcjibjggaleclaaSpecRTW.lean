/- The walks of the reference's RuleTime and of the thin ones. -/
import Derived.Test.YtcjibjggaleclaaSpecRT
namespace Go.Proofs.Ytcjibjggaleclaa
open Go.RowKit

theorem Ret.at {f : FuncId} {args : Array Value} {v : Value} (h : Ret f args v) (w : World) (r : Ru) (W : World) (hB : InBox w r W) : Calls Try.prog f args W fun e W' => e = .returned v ∧ InBox w r W' := h.box hB
theorem wday_bd (y m : Int) : 0 ≤ wday y m ∧ wday y m ≤ 6 := by unfold wday; omega

set_option maxHeartbeats 8000000 in
theorem specRuleTime_M (y : Int) (r : Ru) (off : Int) (hy0 : 1 ≤ y) (hy1 : y ≤ 9999) (hk : r.kind = 2) (hd0 : 0 ≤ r.day) (hd1 : r.day ≤ 6) (hw0 : 1 ≤ r.week) (hw1 : r.week ≤ 5) (hm0 : 1 ≤ r.mon) (hm1 : r.mon ≤ 12)
    (ht0 : -1000000 ≤ r.time) (ht1 : r.time ≤ 1000000) (ho0 : -10000000 ≤ off) (ho1 : off ≤ 10000000) : Ret 23 #[.int .i64 y, ruA r, .int .i64 off] (.int .i64 (specRT y r off)) := by
  intro w
  have HB := InBox.new w r
  obtain ⟨⟨c0, c1, c2, c3, c4⟩, _⟩ := HB.all
  have e0 : (r.kind == 0) = false := by rw [beq_eq_false_iff_ne]; omega
  have e2 : (r.kind == 2) = true := by rw [beq_iff_eq]; exact hk
  have HV := Lib.hid (show specRT y r off = (lastWk (dim y r.mon) r.week ((r.day - wday y r.mon + 7) % 7) + cum y r.mon) * 86400 + r.time - off by rw [specRT, specDay, if_neg (by omega), if_neg (by omega), firstF])
  have hwd := wday_bd y r.mon
  have hD := dim_bd y r.mon
  have hcu := cum_bd y r.mon hm0 hm1
  have HW := Lib.hid (Weekday_ret y r.mon hy0 (by omega) hm0 hm1)
  have HD := Lib.hid (Days_ret y r.mon (by omega) hm0 hm1)
  have HC1 := Lib.hid (cum_one y)
  generalize wday y r.mon = wd at *
  generalize dim y r.mon = D at *
  generalize specRT y r off = res at *
  obtain ⟨hwd0, hwd1⟩ := hwd
  obtain ⟨hD0, hD1⟩ := hD
  obtain ⟨hcu0, hcu1⟩ := hcu
  clear hk
  unfold ruA
  have f1 : IntKind.i64.wrap (r.day - wd) = r.day - wd := IntWalk.i64_in _ (by omega)
  have f2 : IntKind.i64.wrap (r.day - wd + 7) = r.day - wd + 7 := IntWalk.i64_in _ (by omega)
  have f3 : (r.day - wd + 7).tmod 7 = (r.day - wd + 7) % 7 := Int.tmod_eq_emod_of_nonneg (by omega)
  go_enter Try.func23, Try.ntmps23
  go_wp2_with fail
  go_region_held3 (fun w' => (w'.cell? ⟨w.heap.size, 0, none⟩ = some (.int .i64 r.kind) ∧ w'.cell? ⟨w.heap.size, 1, none⟩ = some (.int .i64 r.day) ∧ w'.cell? ⟨w.heap.size, 2, none⟩ = some (.int .i64 r.week) ∧ w'.cell? ⟨w.heap.size, 3, none⟩ = some (.int .i64 r.mon) ∧ w'.cell? ⟨w.heap.size, 4, none⟩ = some (.int .i64 r.time)) ∧ InBox w r w')
    (first | exact (HB.drew).all | exact InBox.all (by assumption))
    (first | (go_at_call 28; refine (HW.out.at w r _ ?_).mono ?_; (simp [*]); rintro e w' ⟨rfl, hB'⟩))
  clear c0 c1 c2 c3 c4 f1 f2 f3 HW HB
  have HX := hB'
  obtain ⟨⟨c0, c1, c2, c3, c4⟩, _⟩ := HX.all
  have HV2 := HV.out
  rw [show (r.day - wd + 7) % 7 = (r.day - wd) % 7 by omega] at HV2
  have hfs : 0 ≤ (r.day - wd) % 7 ∧ (r.day - wd) % 7 ≤ 6 := by omega
  clear HV
  generalize (r.day - wd) % 7 = fs at *
  have HV := Lib.hid HV2
  clear HV2
  obtain ⟨hfs0, hfs1⟩ := hfs
  go_wp2_with fail
  go_loopw [7] (fun d W => ∃ j : Int, 0 ≤ j ∧ j ≤ 1 ∧ (j = 1 → D ≤ fs + 7 * (r.week - 1)) ∧ d = .int .i64 (fs + 7 * (r.week - 1) - 7 * j) ∧ InBox w r W) (fun d _ => (intOf d).toNat)
  case atStart => exact ⟨0, by omega, by omega, by omega, by simp, HX⟩
  case round =>
    clear HX c0 c1 c2 c3 c4 hB'
    obtain ⟨j, hj0, hj1, hj2, rfl, HX⟩ := hrel
    obtain ⟨⟨c0, c1, c2, c3, c4⟩, _⟩ := HX.all
    by_cases hge : D ≤ fs + 7 * (r.week - 1) - 7 * j
    · obtain rfl : j = 0 := by omega
      clear hj2
      have hge' : D ≤ fs + 7 * (r.week - 1) := by omega
      have hz : fs + 7 * (r.week - 1) - 7 * 0 = fs + 7 * (r.week - 1) := by omega
      rw [hz]
      clear hge hz
      go_wp2_with fail
      refine (HD.out.at w r _ HX).mono ?_
      rintro e w1 ⟨rfl, HX1⟩
      go_wp2_with fail
      go_roundw
      case rel => exact ⟨1, by omega, by omega, fun _ => hge', by congr 1, HX1⟩
      case measure => simp [intOf]; omega
    · have hLw : Hid (lastWk D r.week fs = fs + 7 * (r.week - 1) - 7 * j) := by
        show lastWk D r.week fs = _
        unfold lastWk
        by_cases h : fs + 7 * (r.week - 1) < D
        · rw [if_pos h]; omega
        · rw [if_neg h]; omega
      have hdb0 : 0 ≤ fs + 7 * (r.week - 1) - 7 * j := by
        rcases (show j = 0 ∨ j = 1 by omega) with h | h
        · omega
        · have := hj2 h; omega
      have HV2 := HV.out
      rw [hLw.out] at HV2
      clear HV hLw hj2
      obtain ⟨d1, hd1e⟩ : ∃ d1, d1 = fs + 7 * (r.week - 1) - 7 * j := ⟨_, rfl⟩
      rw [← hd1e] at HV2 hge hdb0 ⊢
      have HV := Lib.hid HV2
      clear HV2 hd1e hj0 hj1
      go_wp2_with fail
      refine (HD.out.at w r _ HX).mono ?_
      rintro e w1 ⟨rfl, HX1⟩
      clear c0 c1 c2 c3 c4
      obtain ⟨⟨c0, c1, c2, c3, c4⟩, _⟩ := HX1.all
      go_wp2_with fail
      go_loopw [7, 9] (fun d i W => ∃ k : Int, 1 ≤ k ∧ k ≤ r.mon ∧ d = .int .i64 (d1 + cum y k) ∧ i = .int .i64 k ∧ InBox w r W) (fun _ i _ => (13 - intOf i).toNat)
      case atStart => exact ⟨1, by omega, by omega, by rw [HC1.out]; simp, rfl, HX1⟩
      case round =>
        clear HX HX1 c0 c1 c2 c3 c4 HC1
        obtain ⟨k, hk0, hk1, rfl, rfl, HX⟩ := hrel
        obtain ⟨⟨c0, c1, c2, c3, c4⟩, _⟩ := HX.all
        have hcb := cum_bd y k hk0 (by omega)
        by_cases hkm : k < r.mon
        · have HS := Lib.hid (cum_succ y k hk0 (by omega))
          have HDk := Lib.hid (Days_ret y k (by omega) hk0 (by omega))
          have hdb := dim_bd y k
          generalize dim y k = Dk at *
          go_wp2_with fail
          refine (HDk.out.at w r _ HX).mono ?_
          rintro e w2 ⟨rfl, HX2⟩
          go_wp2_with fail
          go_roundw
          case rel => exact ⟨k + 1, by omega, by omega, by rw [HS.out]; congr 1; omega, rfl, HX2⟩
          case measure => simp [intOf]; omega
        · obtain rfl : k = r.mon := by omega
          generalize cum y r.mon = cu at *
          go_wp2_with fail
          go_ret
          rw [HV.out]
          exact ⟨rfl, HX.2⟩

set_option maxHeartbeats 4000000 in
theorem specRuleTime_J (y : Int) (r : Ru) (off : Int) (hy0 : 1 ≤ y) (hk : r.kind = 0) (hd0 : 0 ≤ r.day) (hd1 : r.day ≤ 999) (ht0 : -1000000 ≤ r.time) (ht1 : r.time ≤ 1000000) (ho0 : -10000000 ≤ off) (ho1 : off ≤ 10000000) : Ret 23 #[.int .i64 y, ruA r, .int .i64 off] (.int .i64 (specRT y r off)) := by
  intro w
  have HB := InBox.new w r
  obtain ⟨⟨c0, c1, c2, c3, c4⟩, _⟩ := HB.all
  have e0 : (r.kind == 0) = true := by rw [beq_iff_eq]; exact hk
  have HL0 := specLeap_ret y (by omega)
  have HV0 : specRT y r off = (r.day - 1 + (if leapB y = true ∧ 59 < r.day then 1 else 0)) * 86400 + r.time - off := by rw [specRT, specDay, if_pos hk]
  generalize leapB y = lb at *
  generalize specRT y r off = res at *
  have HV := Lib.hid HV0
  have HL := Lib.hid HL0
  clear hk HL0 HV0
  unfold ruA
  by_cases h60 : 59 < r.day
  · cases lb with
    | false =>
      have HF := Lib.hid (show res = (r.day - 1) * 86400 + r.time - off by rw [HV.out, if_neg (by simp)]; omega)
      go_enter Try.func23, Try.ntmps23
      go_wp2_with fail
      refine (HL.out.at w r _ HB).mono ?_
      rintro e w1 ⟨rfl, HX1⟩
      clear c0 c1 c2 c3 c4
      obtain ⟨⟨c0, c1, c2, c3, c4⟩, _⟩ := HX1.all
      go_wp2_with fail
      go_ret
      rw [HF.out]
      exact ⟨rfl, HX1.2⟩
    | true =>
      have HF := Lib.hid (show res = (r.day - 1 + 1) * 86400 + r.time - off by rw [HV.out, if_pos ⟨rfl, h60⟩])
      go_enter Try.func23, Try.ntmps23
      go_wp2_with fail
      refine (HL.out.at w r _ HB).mono ?_
      rintro e w1 ⟨rfl, HX1⟩
      clear c0 c1 c2 c3 c4
      obtain ⟨⟨c0, c1, c2, c3, c4⟩, _⟩ := HX1.all
      go_wp2_with fail
      go_ret
      rw [HF.out]
      exact ⟨ret_i64 (by omega), HX1.2⟩
  · cases lb with
    | false =>
      have HF := Lib.hid (show res = (r.day - 1) * 86400 + r.time - off by rw [HV.out, if_neg (by simp)]; omega)
      go_enter Try.func23, Try.ntmps23
      go_wp2_with fail
      refine (HL.out.at w r _ HB).mono ?_
      rintro e w1 ⟨rfl, HX1⟩
      clear c0 c1 c2 c3 c4
      obtain ⟨⟨c0, c1, c2, c3, c4⟩, _⟩ := HX1.all
      go_wp2_with fail
      go_ret
      rw [HF.out]
      exact ⟨rfl, HX1.2⟩
    | true =>
      have HF := Lib.hid (show res = (r.day - 1) * 86400 + r.time - off by rw [HV.out, if_neg (by omega)]; omega)
      go_enter Try.func23, Try.ntmps23
      go_wp2_with fail
      refine (HL.out.at w r _ HB).mono ?_
      rintro e w1 ⟨rfl, HX1⟩
      clear c0 c1 c2 c3 c4
      obtain ⟨⟨c0, c1, c2, c3, c4⟩, _⟩ := HX1.all
      go_wp2_with fail
      go_ret
      rw [HF.out]
      exact ⟨rfl, HX1.2⟩
theorem specRuleTime_D (y : Int) (r : Ru) (off : Int) (hk : r.kind = 1) (hd0 : 0 ≤ r.day) (hd1 : r.day ≤ 999) (ht0 : -1000000 ≤ r.time) (ht1 : r.time ≤ 1000000) (ho0 : -10000000 ≤ off) (ho1 : off ≤ 10000000) : Ret 23 #[.int .i64 y, ruA r, .int .i64 off] (.int .i64 (specRT y r off)) := by
  intro w
  have HB := InBox.new w r
  obtain ⟨⟨c0, c1, c2, c3, c4⟩, _⟩ := HB.all
  have e0 : (r.kind == 0) = false := by rw [beq_eq_false_iff_ne]; omega
  have e1 : (r.kind == 2) = false := by rw [beq_eq_false_iff_ne]; omega
  have HF := Lib.hid (show specRT y r off = r.day * 86400 + r.time - off by rw [specRT, specDay, if_neg (by omega), if_pos hk])
  clear hk
  unfold ruA
  go_enter Try.func23, Try.ntmps23
  go_wp2_with fail
  go_ret
  rw [HF.out]
  exact ⟨rfl, HB.2⟩
theorem specRuleTime_ret (y : Int) (r : Ru) (off : Int) (hy0 : 1 ≤ y) (hy1 : y ≤ 9999) (hr : ruOk r = true) (ho0 : -10000000 ≤ off) (ho1 : off ≤ 10000000) : Ret 23 #[.int .i64 y, ruA r, .int .i64 off] (.int .i64 (specRT y r off)) := by
  rcases ruOk_fine r hr with ⟨hk | hk, a, b, c, d⟩ | ⟨hk, a, b, c, d, e, f, g, h⟩
  · exact specRuleTime_J y r off hy0 hk a b c d ho0 ho1
  · exact specRuleTime_D y r off hk a b c d ho0 ho1
  · exact specRuleTime_M y r off hy0 hy1 hk a b c d e f g h ho0 ho1
end Go.Proofs.Ytcjibjggaleclaa
