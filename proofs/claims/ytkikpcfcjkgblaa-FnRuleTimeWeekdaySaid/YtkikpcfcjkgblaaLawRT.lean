/- FnExactRuleTime and FnRuleTimeWeekday: their walks. -/
import Derived.Test.YtkikpcfcjkgblaaSpecRTW
namespace Go.Proofs.Ytkikpcfcjkgblaa
open Go.RowKit

set_option maxHeartbeats 8000000 in
theorem fnExactRuleTime_walk (y : Int) (r : Ru) (off : Int) : Ret 10 #[.int .i64 y, ruA r, .int .i64 off] (.bool true) := by
  intro w
  have HB := InBox.new w r
  obtain ⟨⟨c0, c1, c2, c3, c4⟩, _⟩ := HB.all
  have H1 := Within_ret y 1 9999
  cases h1 : inB y 1 9999
  · rw [h1] at H1
    have H1 := Lib.hid H1
    clear h1
    unfold ruA
    go_enter Try.func10, Try.ntmps10
    go_wp2_with fail
    refine (H1.out.box HB).mono ?_
    rintro e w1 ⟨rfl, HX1⟩
    clear c0 c1 c2 c3 c4
    obtain ⟨⟨c0, c1, c2, c3, c4⟩, _⟩ := HX1.all
    have hlt1 := HX1.1.lt
    go_wp2_with fail
    refine (reads_ret.box HX1).mono ?_
    rintro e w2 ⟨rfl, HX2⟩
    clear c0 c1 c2 c3 c4
    obtain ⟨⟨c0, c1, c2, c3, c4⟩, _⟩ := HX2.all
    have hlt2 := HX2.1.lt
    go_wp2_with fail
    go_ret
    exact ⟨rfl, HX2.2⟩
  rw [h1] at H1
  have H1 := Lib.hid H1
  have H2 := RuleOk_ret r
  cases h2 : ruOk r
  · rw [h2] at H2
    have H2 := Lib.hid H2
    clear h1 h2
    unfold ruA at *
    go_enter Try.func10, Try.ntmps10
    go_wp2_with fail
    refine (H1.out.box HB).mono ?_
    rintro e w1 ⟨rfl, HX1⟩
    clear c0 c1 c2 c3 c4
    obtain ⟨⟨c0, c1, c2, c3, c4⟩, _⟩ := HX1.all
    have hlt1 := HX1.1.lt
    go_wp2_with fail
    refine (H2.out.box HX1).mono ?_
    rintro e w2 ⟨rfl, HX2⟩
    clear c0 c1 c2 c3 c4
    obtain ⟨⟨c0, c1, c2, c3, c4⟩, _⟩ := HX2.all
    have hlt2 := HX2.1.lt
    go_wp2_with fail
    refine (reads_ret.box HX2).mono ?_
    rintro e w3 ⟨rfl, HX3⟩
    clear c0 c1 c2 c3 c4
    obtain ⟨⟨c0, c1, c2, c3, c4⟩, _⟩ := HX3.all
    have hlt3 := HX3.1.lt
    go_wp2_with fail
    go_ret
    exact ⟨rfl, HX3.2⟩
  rw [h2] at H2
  have H2 := Lib.hid H2
  have H3 := Within_ret off (-1000000) 1000000
  cases h3 : inB off (-1000000) 1000000
  · rw [h3] at H3
    have H3 := Lib.hid H3
    clear h1 h2 h3
    unfold ruA at *
    go_enter Try.func10, Try.ntmps10
    go_wp2_with fail
    refine (H1.out.box HB).mono ?_
    rintro e w1 ⟨rfl, HX1⟩
    clear c0 c1 c2 c3 c4
    obtain ⟨⟨c0, c1, c2, c3, c4⟩, _⟩ := HX1.all
    have hlt1 := HX1.1.lt
    go_wp2_with fail
    refine (H2.out.box HX1).mono ?_
    rintro e w2 ⟨rfl, HX2⟩
    clear c0 c1 c2 c3 c4
    obtain ⟨⟨c0, c1, c2, c3, c4⟩, _⟩ := HX2.all
    have hlt2 := HX2.1.lt
    go_wp2_with fail
    refine (H3.out.box HX2).mono ?_
    rintro e w3 ⟨rfl, HX3⟩
    clear c0 c1 c2 c3 c4
    obtain ⟨⟨c0, c1, c2, c3, c4⟩, _⟩ := HX3.all
    have hlt3 := HX3.1.lt
    go_wp2_with fail
    refine (reads_ret.box HX3).mono ?_
    rintro e w4 ⟨rfl, HX4⟩
    clear c0 c1 c2 c3 c4
    obtain ⟨⟨c0, c1, c2, c3, c4⟩, _⟩ := HX4.all
    have hlt4 := HX4.1.lt
    go_wp2_with fail
    go_ret
    exact ⟨rfl, HX4.2⟩
  rw [h3] at H3
  have H3 := Lib.hid H3
  rw [inB_iff] at h1 h3
  have HS := specRuleTime_ret y r off h1.1 h1.2 h2 (by omega) (by omega)
  rw [← ruTime_spec y r off h1.1 h1.2 h2] at HS
  have HS := Lib.hid HS
  have HI := Lib.hid (implRuleTime_ret y r off (by omega) (by omega) (ruOk_fine r h2) (by omega) (by omega))
  generalize ruTime y r off = res at *
  clear h1 h2 h3
  unfold ruA at *
  go_enter Try.func10, Try.ntmps10
  go_wp2_with fail
  refine (H1.out.box HB).mono ?_
  rintro e w1 ⟨rfl, HX1⟩
  clear c0 c1 c2 c3 c4
  obtain ⟨⟨c0, c1, c2, c3, c4⟩, _⟩ := HX1.all
  have hlt1 := HX1.1.lt
  go_wp2_with fail
  refine (H2.out.box HX1).mono ?_
  rintro e w2 ⟨rfl, HX2⟩
  clear c0 c1 c2 c3 c4
  obtain ⟨⟨c0, c1, c2, c3, c4⟩, _⟩ := HX2.all
  have hlt2 := HX2.1.lt
  go_wp2_with fail
  refine (H3.out.box HX2).mono ?_
  rintro e w3 ⟨rfl, HX3⟩
  clear c0 c1 c2 c3 c4
  obtain ⟨⟨c0, c1, c2, c3, c4⟩, _⟩ := HX3.all
  have hlt3 := HX3.1.lt
  go_wp2_with fail
  go_region_held3 (fun w' => (w'.cell? ⟨w.heap.size, 0, none⟩ = some (.int .i64 r.kind) ∧ w'.cell? ⟨w.heap.size, 1, none⟩ = some (.int .i64 r.day) ∧ w'.cell? ⟨w.heap.size, 2, none⟩ = some (.int .i64 r.week) ∧ w'.cell? ⟨w.heap.size, 3, none⟩ = some (.int .i64 r.mon) ∧ w'.cell? ⟨w.heap.size, 4, none⟩ = some (.int .i64 r.time)) ∧ InBox w r w')
    (first | exact ((InBox.drew (by assumption))).all | exact InBox.all (by assumption))
    (first | (go_at_call 32; refine (HI.out.at w r _ ?_).mono ?_; (simp [*]); rintro e w' ⟨rfl, hB'⟩) | (go_at_call 33; refine (HS.out.at w r _ ?_).mono ?_; (simp [*]); rintro e w' ⟨rfl, hB'⟩) | (go_at_call 20; refine (reads_ret.at w r _ ?_).mono ?_; (simp [*]); rintro e w' ⟨rfl, hB'⟩))
  all_goals
    go_wp2_with fail
    go_ret
    exact ⟨rfl, hB'.2⟩

theorem cum_mono (y k m : Int) (h0 : 1 ≤ k) (h1 : k < m) (h2 : m ≤ 12) : cum y k + dim y k ≤ cum y m := by
  have hl := lp_bd y
  rcases month_cases k h0 (by omega) with rfl | rfl | rfl | rfl | rfl | rfl | rfl | rfl | rfl | rfl | rfl | rfl <;> rcases month_cases m (by omega) h2 with rfl | rfl | rfl | rfl | rfl | rfl | rfl | rfl | rfl | rfl | rfl | rfl <;> first | omega | (simp [cum, before, dim, dimL]; done) | (simp [cum, before, dim, dimL]; omega)
theorem lastWk_bd (D wk d0 : Int) (hD0 : 28 ≤ D) (h0 : 0 ≤ d0) (h1 : d0 ≤ 6) (hw0 : 1 ≤ wk) (hw1 : wk ≤ 5) : 0 ≤ lastWk D wk d0 ∧ lastWk D wk d0 < D ∧ lastWk D wk d0 % 7 = d0 % 7 := by
  unfold lastWk; split <;> omega
theorem weekday_law (y : Int) (r : Ru) (hd0 : 0 ≤ r.day) (hd1 : r.day ≤ 6) (hw0 : 1 ≤ r.week) (hw1 : r.week ≤ 5) : 0 ≤ lastWk (dim y r.mon) r.week (firstF y r) ∧ lastWk (dim y r.mon) r.week (firstF y r) < dim y r.mon ∧ (wday y r.mon + lastWk (dim y r.mon) r.week (firstF y r)) % 7 = r.day := by
  have hf : 0 ≤ firstF y r ∧ firstF y r ≤ 6 := by unfold firstF; omega
  have h := lastWk_bd (dim y r.mon) r.week (firstF y r) (dim_bd y r.mon).1 hf.1 hf.2 hw0 hw1
  refine ⟨h.1, h.2.1, ?_⟩
  have h7 := h.2.2
  unfold firstF at *
  have := wday_bd y r.mon
  omega

set_option maxHeartbeats 8000000 in
theorem fnRuleTimeWeekday_walk (y : Int) (r : Ru) : Ret 11 #[.int .i64 y, ruA r] (.bool true) := by
  intro w
  have HB := InBox.new w r
  obtain ⟨⟨c0, c1, c2, c3, c4⟩, _⟩ := HB.all
  have H1 := Within_ret y 1 9999
  cases h1 : inB y 1 9999
  · rw [h1] at H1
    have H1 := Lib.hid H1
    clear h1
    unfold ruA
    go_enter Try.func11, Try.ntmps11
    go_wp2_with fail
    refine (H1.out.box HB).mono ?_
    rintro e w1 ⟨rfl, HX1⟩
    clear c0 c1 c2 c3 c4
    obtain ⟨⟨c0, c1, c2, c3, c4⟩, _⟩ := HX1.all
    have hlt1 := HX1.1.lt
    go_wp2_with fail
    refine (reads_ret.box HX1).mono ?_
    rintro e w2 ⟨rfl, HX2⟩
    clear c0 c1 c2 c3 c4
    obtain ⟨⟨c0, c1, c2, c3, c4⟩, _⟩ := HX2.all
    have hlt2 := HX2.1.lt
    go_wp2_with fail
    go_ret
    exact ⟨rfl, HX2.2⟩
  rw [h1] at H1
  have H1 := Lib.hid H1
  have H2 := RuleOk_ret r
  cases h2 : ruOk r
  · rw [h2] at H2
    have H2 := Lib.hid H2
    clear h1 h2
    unfold ruA at *
    go_enter Try.func11, Try.ntmps11
    go_wp2_with fail
    refine (H1.out.box HB).mono ?_
    rintro e w1 ⟨rfl, HX1⟩
    clear c0 c1 c2 c3 c4
    obtain ⟨⟨c0, c1, c2, c3, c4⟩, _⟩ := HX1.all
    have hlt1 := HX1.1.lt
    go_wp2_with fail
    refine (H2.out.box HX1).mono ?_
    rintro e w2 ⟨rfl, HX2⟩
    clear c0 c1 c2 c3 c4
    obtain ⟨⟨c0, c1, c2, c3, c4⟩, _⟩ := HX2.all
    have hlt2 := HX2.1.lt
    go_wp2_with fail
    refine (reads_ret.box HX2).mono ?_
    rintro e w3 ⟨rfl, HX3⟩
    clear c0 c1 c2 c3 c4
    obtain ⟨⟨c0, c1, c2, c3, c4⟩, _⟩ := HX3.all
    have hlt3 := HX3.1.lt
    go_wp2_with fail
    go_ret
    exact ⟨rfl, HX3.2⟩
  rw [h2] at H2
  have H2 := Lib.hid H2
  by_cases hk : r.kind = 2
  · have ek : (r.kind != 2) = false := by simp [hk]
    obtain ⟨hd0, hd1, hw0, hw1, hm0, hm1, _, _⟩ : 0 ≤ r.day ∧ r.day ≤ 6 ∧ 1 ≤ r.week ∧ r.week ≤ 5 ∧ 1 ≤ r.mon ∧ r.mon ≤ 12 ∧ -1000000 ≤ r.time ∧ r.time ≤ 1000000 := by
      rcases ruOk_fine r h2 with ⟨h, _⟩ | h
      · omega
      · exact h.2
    rw [inB_iff] at h1
    obtain ⟨hy0, hy1⟩ := h1
    have hr0 : ruOk ⟨r.kind, r.day, r.week, r.mon, 0⟩ = true := by
      have h := h2
      unfold ruOk at h ⊢
      rw [Bool.and_eq_true] at h ⊢
      exact ⟨rfl, h.2⟩
    have hRT : ruTime y ⟨r.kind, r.day, r.week, r.mon, 0⟩ 0 = (lastWk (dim y r.mon) r.week (firstF y r) + cum y r.mon) * 86400 := by
      rw [ruTime_spec y _ 0 hy0 hy1 hr0, specRT, specDay, if_neg (by simp only []; omega), if_neg (by simp only []; omega)]
      show (lastWk (dim y r.mon) r.week (firstF y r) + cum y r.mon) * 86400 + 0 - 0 = _
      omega
    have HI := implRuleTime_ret y ⟨r.kind, r.day, r.week, r.mon, 0⟩ 0 (by omega) (by omega) (ruOk_fine _ hr0) (by omega) (by omega)
    rw [hRT] at HI
    have HI := Lib.hid HI
    clear hRT hr0 h2 hk
    obtain ⟨hl0, hl1, hl2⟩ := weekday_law y r hd0 hd1 hw0 hw1
    have HW := Lib.hid (Weekday_ret y r.mon hy0 (by omega) hm0 hm1)
    have hcm := cum_bd y r.mon hm0 hm1
    have hwd := wday_bd y r.mon
    have HC1 := Lib.hid (cum_one y)
    generalize lastWk (dim y r.mon) r.week (firstF y r) = lw at *
    generalize wday y r.mon = wd at *
    have HL2 := Lib.hid hl2
    clear hl2
    have hdm := dim_bd y r.mon
    obtain ⟨hcm0, hcm1⟩ := hcm
    obtain ⟨hwd0, hwd1⟩ := hwd
    obtain ⟨hdm0, hdm1⟩ := hdm
    unfold ruA at *
    go_enter Try.func11, Try.ntmps11
    go_wp2_with fail
    refine (H1.out.box HB).mono ?_
    rintro e w1 ⟨rfl, HX1⟩
    clear c0 c1 c2 c3 c4
    obtain ⟨⟨c0, c1, c2, c3, c4⟩, _⟩ := HX1.all
    have hlt1 := HX1.1.lt
    go_wp2_with fail
    refine (H2.out.box HX1).mono ?_
    rintro e w2 ⟨rfl, HX2⟩
    clear c0 c1 c2 c3 c4
    obtain ⟨⟨c0, c1, c2, c3, c4⟩, _⟩ := HX2.all
    have hlt2 := HX2.1.lt
    have hfz := fun i => HX2.1.frozen i
    go_wp2_with fail
    clear hfz
    have HX3 : InBox w ⟨r.kind, r.day, r.week, r.mon, 0⟩ (w2.setCell ⟨w.heap.size, 4, none⟩ (.int .i64 0)) := ⟨HX2.1.set 4 _, HX2.2.setCell (Nat.le_refl _) _⟩
    refine (HI.out.box HX3).mono ?_
    rintro e w4 ⟨rfl, HX4⟩
    clear c0 c1 c2 c3 c4 HX1 HX2 HX3 HB hlt1 hlt2 H1 H2 HI
    obtain ⟨⟨c0, c1, c2, c3, c4⟩, _⟩ := HX4.all
    simp only [] at c0 c1 c2 c3 c4
    have hdiv : ((lw + cum y r.mon) * 86400) / 86400 = lw + cum y r.mon := by omega
    have hmod : ((lw + cum y r.mon) * 86400) % 86400 = 0 := by omega
    go_wp2_with fail
    clear hdiv
    go_loopw [6, 7] (fun d i W => ∃ k : Int, 1 ≤ k ∧ k ≤ r.mon ∧ d = .int .i64 (lw + cum y r.mon - cum y k) ∧ i = .int .i64 k ∧ InBox w (⟨r.kind, r.day, r.week, r.mon, 0⟩ : Ru) W) (fun _ i _ => (13 - intOf i).toNat)
    case atStart => exact ⟨1, by omega, by omega, by rw [HC1.out]; simp, rfl, HX4⟩
    case round =>
      clear HX4 c0 c1 c2 c3 c4 HC1
      obtain ⟨k, hk0, hk1, rfl, rfl, HX⟩ := hrel
      obtain ⟨⟨c0, c1, c2, c3, c4⟩, _⟩ := HX.all
      simp only [] at c0 c1 c2 c3 c4
      have hck := cum_bd y k hk0 (by omega)
      by_cases hkm : k < r.mon
      · have hmo := cum_mono y k r.mon hk0 hkm hm1
        have HS := Lib.hid (cum_succ y k hk0 (by omega))
        have HD := Lib.hid (Days_ret y k (by omega) hk0 (by omega))
        have hdb := dim_bd y k
        clear hmod
        generalize dim y k = D at *
        generalize hcu : cum y r.mon = cu at *
        clear hcu
        go_wp2_with fail
        refine (HD.out.box HX).mono ?_
        rintro e w5 ⟨rfl, HX5⟩
        clear c0 c1 c2 c3 c4
        obtain ⟨⟨c0, c1, c2, c3, c4⟩, _⟩ := HX5.all
        simp only [] at c0 c1 c2 c3 c4
        go_wp2_with fail
        refine (HD.out.box HX5).mono ?_
        rintro e w6 ⟨rfl, HX6⟩
        go_wp2_with fail
        go_roundw
        case rel => exact ⟨k + 1, by omega, by omega, by rw [HS.out]; congr 1; omega, rfl, HX6⟩
        case measure => simp [intOf]; omega
      · obtain rfl : k = r.mon := by omega
        have hz : lw + cum y r.mon - cum y r.mon = lw := by omega
        rw [hz]
        clear hz
        have HD := Lib.hid (Days_ret y r.mon (by omega) hm0 hm1)
        have hmd : ((lw + cum y r.mon) * 86400).tmod 86400 = 0 := by rw [Int.tmod_eq_emod_of_nonneg (by omega)]; exact hmod
        clear hmod hkm hk0 hk1
        generalize dim y r.mon = D at *
        generalize cum y r.mon = cu at *
        have g1 : IntKind.i64.wrap (wd + lw) = wd + lw := IntWalk.i64_in _ (by omega)
        have g2 : (wd + lw).tmod 7 = r.day := by rw [Int.tmod_eq_emod_of_nonneg (by omega)]; exact HL2.out
        have G1 := Lib.hid g1
        have G2 := Lib.hid g2
        have GM := Lib.hid hmd
        clear g1 g2 hmd
        by_cases h12 : r.mon < 12
        · go_wp2_with fail
          refine (HD.out.box HX).mono ?_
          rintro e w5 ⟨rfl, HX5⟩
          clear c0 c1 c2 c3 c4
          obtain ⟨⟨c0, c1, c2, c3, c4⟩, _⟩ := HX5.all
          simp only [] at c0 c1 c2 c3 c4
          clear HX
          go_wp2_with fail
          have g1 := G1.out
          have g2 := G2.out
          have gm := GM.out
          go_region_held3 (fun w' => (w'.cell? ⟨w.heap.size, 0, none⟩ = some (.int .i64 (⟨r.kind, r.day, r.week, r.mon, 0⟩ : Ru).kind) ∧ w'.cell? ⟨w.heap.size, 1, none⟩ = some (.int .i64 (⟨r.kind, r.day, r.week, r.mon, 0⟩ : Ru).day) ∧ w'.cell? ⟨w.heap.size, 2, none⟩ = some (.int .i64 (⟨r.kind, r.day, r.week, r.mon, 0⟩ : Ru).week) ∧ w'.cell? ⟨w.heap.size, 3, none⟩ = some (.int .i64 (⟨r.kind, r.day, r.week, r.mon, 0⟩ : Ru).mon) ∧ w'.cell? ⟨w.heap.size, 4, none⟩ = some (.int .i64 (⟨r.kind, r.day, r.week, r.mon, 0⟩ : Ru).time)) ∧ InBox w (⟨r.kind, r.day, r.week, r.mon, 0⟩ : Ru) w')
            (first | exact ((InBox.drew (by assumption))).all | exact InBox.all (by assumption))
            (first | (go_at_call 35; refine (HW.out.at w (⟨r.kind, r.day, r.week, r.mon, 0⟩ : Ru) _ ?_).mono ?_; (simp [*]); rintro e w' ⟨rfl, hB'⟩) | (go_at_call 20; refine (reads_ret.at w (⟨r.kind, r.day, r.week, r.mon, 0⟩ : Ru) _ ?_).mono ?_; (simp [*]); rintro e w' ⟨rfl, hB'⟩))
          all_goals
            go_wp2_with fail
            go_ret
            exact ⟨rfl, hB'.2⟩
        · go_wp2_with fail
          have g1 := G1.out
          have g2 := G2.out
          have gm := GM.out
          go_region_held3 (fun w' => (w'.cell? ⟨w.heap.size, 0, none⟩ = some (.int .i64 (⟨r.kind, r.day, r.week, r.mon, 0⟩ : Ru).kind) ∧ w'.cell? ⟨w.heap.size, 1, none⟩ = some (.int .i64 (⟨r.kind, r.day, r.week, r.mon, 0⟩ : Ru).day) ∧ w'.cell? ⟨w.heap.size, 2, none⟩ = some (.int .i64 (⟨r.kind, r.day, r.week, r.mon, 0⟩ : Ru).week) ∧ w'.cell? ⟨w.heap.size, 3, none⟩ = some (.int .i64 (⟨r.kind, r.day, r.week, r.mon, 0⟩ : Ru).mon) ∧ w'.cell? ⟨w.heap.size, 4, none⟩ = some (.int .i64 (⟨r.kind, r.day, r.week, r.mon, 0⟩ : Ru).time)) ∧ InBox w (⟨r.kind, r.day, r.week, r.mon, 0⟩ : Ru) w')
            (first | exact ((InBox.drew (by assumption))).all | exact InBox.all (by assumption))
            (first | (go_at_call 35; refine (HW.out.at w (⟨r.kind, r.day, r.week, r.mon, 0⟩ : Ru) _ ?_).mono ?_; (simp [*]); rintro e w' ⟨rfl, hB'⟩) | (go_at_call 20; refine (reads_ret.at w (⟨r.kind, r.day, r.week, r.mon, 0⟩ : Ru) _ ?_).mono ?_; (simp [*]); rintro e w' ⟨rfl, hB'⟩))
          all_goals
            go_wp2_with fail
            go_ret
            exact ⟨rfl, hB'.2⟩
  · have ek : (r.kind != 2) = true := by simp [hk]
    clear h1 h2 hk
    unfold ruA at *
    go_enter Try.func11, Try.ntmps11
    go_wp2_with fail
    refine (H1.out.box HB).mono ?_
    rintro e w1 ⟨rfl, HX1⟩
    clear c0 c1 c2 c3 c4
    obtain ⟨⟨c0, c1, c2, c3, c4⟩, _⟩ := HX1.all
    have hlt1 := HX1.1.lt
    go_wp2_with fail
    refine (H2.out.box HX1).mono ?_
    rintro e w2 ⟨rfl, HX2⟩
    clear c0 c1 c2 c3 c4
    obtain ⟨⟨c0, c1, c2, c3, c4⟩, _⟩ := HX2.all
    have hlt2 := HX2.1.lt
    go_wp2_with fail
    refine (reads_ret.box HX2).mono ?_
    rintro e w3 ⟨rfl, HX3⟩
    clear c0 c1 c2 c3 c4
    obtain ⟨⟨c0, c1, c2, c3, c4⟩, _⟩ := HX3.all
    have hlt3 := HX3.1.lt
    go_wp2_with fail
    go_ret
    exact ⟨rfl, HX3.2⟩

end Go.Proofs.Ytkikpcfcjkgblaa
