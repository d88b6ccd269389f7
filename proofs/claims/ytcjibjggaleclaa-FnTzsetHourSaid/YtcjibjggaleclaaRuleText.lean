/- The reference's RuleOk and RuleText. -/
import Derived.Test.YtcjibjggaleclaaRuleOf
import Derived.Test.YtcjibjggaleclaaLawClock
import Derived.Deep.RegionHeld3
import Derived.Deep.DeepCutAuto
namespace Go.Proofs.Ytcjibjggaleclaa
open Go.RowKit

def ruT (r : Ru) (whole : Bool) : Bs :=
  (if r.kind = 0 then 74 :: decT r.day else if r.kind = 1 then decT r.day else 77 :: (decT r.mon ++ 46 :: (decT r.week ++ 46 :: decT r.day))) ++
  (if whole = true ∨ r.time ≠ 7200 then 47 :: clkT r.time whole else [])

/-- the box of a rule, and all that was there before the call -/
def InBox (w : World) (r : Ru) (W : World) : Prop :=
  Blk W w.heap.size 25 #[.int .i64 r.kind, .int .i64 r.day, .int .i64 r.week, .int .i64 r.mon, .int .i64 r.time] ∧ Below w.heap.size w W
theorem InBox.all {w W : World} {r : Ru} (h : InBox w r W) : (W.cell? ⟨w.heap.size, 0, none⟩ = some (.int .i64 r.kind) ∧ W.cell? ⟨w.heap.size, 1, none⟩ = some (.int .i64 r.day) ∧ W.cell? ⟨w.heap.size, 2, none⟩ = some (.int .i64 r.week) ∧ W.cell? ⟨w.heap.size, 3, none⟩ = some (.int .i64 r.mon) ∧ W.cell? ⟨w.heap.size, 4, none⟩ = some (.int .i64 r.time)) ∧ InBox w r W :=
  ⟨⟨h.1.cell 0, h.1.cell 1, h.1.cell 2, h.1.cell 3, h.1.cell 4⟩, h⟩
theorem InBox.drew {w W : World} {r : Ru} (h : InBox w r W) : InBox w r W.drew := ⟨h.1, h.2.drew⟩
theorem InBox.drewN {w W : World} {r : Ru} (h : InBox w r W) (n : Nat) : InBox w r (W.drewN n) := ⟨h.1, below_drewN h.2 n⟩
theorem InBox.below {w W W' : World} {r : Ru} (h : InBox w r W) (hb : Below W.heap.size W W') : InBox w r W' :=
  ⟨h.1.below hb h.1.lt, h.2.trans (hb.mono h.2.size)⟩
theorem InBox.new (w : World) (r : Ru) : InBox w r (w.alloc (.cells #[.int .i64 r.kind, .int .i64 r.day, .int .i64 r.week, .int .i64 r.mon, .int .i64 r.time] 25)) :=
  ⟨Blk.new w _ _ _ rfl, (Below.refl _ _).alloc (Nat.le_refl _) _⟩
theorem Decimal_at (w : World) (r : Ru) (n : Int) (h0 : 0 ≤ n) (h1 : n ≤ 999) (W : World) (h : InBox w r W) :
    Calls Try.prog 19 #[.int .i64 n] W fun e W' => e = .returned (.string (S (decT n))) ∧ InBox w r W' :=
  (Decimal_ret n h0 h1 W).mono fun _ _ ⟨he, hb⟩ => ⟨he, h.below hb⟩

theorem Clock_at (w : World) (r : Ru) (n : Int) (whole : Bool) (h0 : -604799 ≤ n) (h1 : n ≤ 604799) (W : World) (h : InBox w r W) :
    Calls Try.prog 10 #[.int .i64 n, .bool whole] W fun e W' => e = .returned (.string (S (clkT n whole))) ∧ InBox w r W' :=
  (Clock_ret n whole h0 h1 W).mono fun _ _ ⟨he, hb⟩ => ⟨he, h.below hb⟩
theorem time_cases (t : Int) (whole : Bool) : (whole = true) ∨ (whole = false ∧ (t != 7200) = true) ∨ (whole = false ∧ (t != 7200) = false) := by
  cases whole
  · cases h : (t != 7200)
    · exact .inr (.inr ⟨rfl, rfl⟩)
    · exact .inr (.inl ⟨rfl, rfl⟩)
  · exact .inl rfl
theorem ruT_time (r : Ru) (whole : Bool) (h : Bs) (hh : (if r.kind = 0 then 74 :: decT r.day else if r.kind = 1 then decT r.day else 77 :: (decT r.mon ++ 46 :: (decT r.week ++ 46 :: decT r.day))) = h) :
    (whole = true ∨ (r.time != 7200) = true → ruT r whole = h ++ 47 :: clkT r.time whole) ∧ (whole = false → (r.time != 7200) = false → ruT r whole = h) := by
  rw [ruT, hh]
  constructor
  · intro h
    have h' : whole = true ∨ r.time ≠ 7200 := by
      rcases h with h | h
      · exact .inl h
      · right; simpa using h
    rw [if_pos h']
  · intro h1 h2
    have h' : ¬ (whole = true ∨ r.time ≠ 7200) := by
      rintro (h | h)
      · rw [h1] at h; cases h
      · simp at h2; exact h h2
    rw [if_neg h', List.append_nil]
set_option maxHeartbeats 8000000 in
theorem RuleText_M (r : Ru) (whole : Bool) (hk0 : r.kind ≠ 0) (hk1 : r.kind ≠ 1) (hd0 : 0 ≤ r.day) (hd1 : r.day ≤ 999) (hw0 : 0 ≤ r.week) (hw1 : r.week ≤ 999) (hm0 : 0 ≤ r.mon) (hm1 : r.mon ≤ 999) (ht0 : -604799 ≤ r.time) (ht1 : r.time ≤ 604799) :
    Ret 11 #[ruA r, .bool whole] (.string (S (ruT r whole))) := by
  intro w
  have HB := InBox.new w r
  obtain ⟨⟨c0, c1, c2, c3, c4⟩, _⟩ := HB.all
  have l1 := decT_len r.mon
  have l2 := decT_len r.week
  have l3 := decT_len r.day
  have l4 := clkT_len r.time true
  have l5 := clkT_len r.time false
  have e0 : (r.kind == 0) = false := by rw [beq_eq_false_iff_ne]; exact hk0
  have e1 : (r.kind == 1) = false := by rw [beq_eq_false_iff_ne]; exact hk1
  have hT := ruT_time r whole (77 :: (decT r.mon ++ 46 :: (decT r.week ++ 46 :: decT r.day))) (by rw [if_neg hk0, if_neg hk1])
  have hlh : (77 :: (decT r.mon ++ 46 :: (decT r.week ++ 46 :: decT r.day))).length ≤ 20 := by simp; omega
  obtain ⟨hT1, hT2⟩ := hT
  have f1 : ¬ 9223372036854775807 < 1 + (decT r.mon).length := by omega
  have f2 : ¬ 9223372036854775807 < (decT r.mon).length + 1 + 1 := by omega
  have f3 : ¬ 9223372036854775807 < (decT r.mon).length + 1 + 1 + (decT r.week).length := by omega
  have f4 : ¬ 9223372036854775807 < (decT r.mon).length + ((decT r.week).length + 1) + 1 + 1 := by omega
  have f5 : ¬ 9223372036854775807 < (decT r.mon).length + ((decT r.week).length + 1 + 1) + 1 + (decT r.day).length := by omega
  unfold ruA
  clear hk0 hk1
  rcases time_cases r.time whole with rfl | ⟨rfl, et⟩ | ⟨rfl, et⟩
  · have HF := Lib.hid (hT1 (.inl rfl))
    clear hT1 hT2
    go_enter Try.func11, Try.ntmps11
    go_wp2_with fail
    go_region_held3 (fun w' => (w'.cell? ⟨w.heap.size, 0, none⟩ = some (.int .i64 r.kind) ∧ w'.cell? ⟨w.heap.size, 1, none⟩ = some (.int .i64 r.day) ∧ w'.cell? ⟨w.heap.size, 2, none⟩ = some (.int .i64 r.week) ∧ w'.cell? ⟨w.heap.size, 3, none⟩ = some (.int .i64 r.mon) ∧ w'.cell? ⟨w.heap.size, 4, none⟩ = some (.int .i64 r.time)) ∧ InBox w r w')
      (first | exact (HB.drew).all | exact InBox.all (by assumption))
      (first | (go_at_call 19; refine (Decimal_at w r _ ?_ ?_ _ ?_).mono ?_; (omega); (omega); (simp [*]); rintro e w' ⟨rfl, hB'⟩))
    clear c0 c1 c2 c3 c4
    have HX := hB'
    obtain ⟨⟨c0, c1, c2, c3, c4⟩, _⟩ := HX.all
    go_wp2_with fail
    refine (Clock_at w r _ _ ht0 ht1 _ HX).mono ?_
    rintro e w9 ⟨rfl, HY⟩
    go_wp2_with fail
    go_ret
    rw [HF.out]
    exact ⟨ret_str (by simp), HY.2⟩
  · have HF := Lib.hid (hT1 (.inr et))
    clear hT1 hT2
    go_enter Try.func11, Try.ntmps11
    go_wp2_with fail
    go_region_held3 (fun w' => (w'.cell? ⟨w.heap.size, 0, none⟩ = some (.int .i64 r.kind) ∧ w'.cell? ⟨w.heap.size, 1, none⟩ = some (.int .i64 r.day) ∧ w'.cell? ⟨w.heap.size, 2, none⟩ = some (.int .i64 r.week) ∧ w'.cell? ⟨w.heap.size, 3, none⟩ = some (.int .i64 r.mon) ∧ w'.cell? ⟨w.heap.size, 4, none⟩ = some (.int .i64 r.time)) ∧ InBox w r w')
      (first | exact (HB.drew).all | exact InBox.all (by assumption))
      (first | (go_at_call 19; refine (Decimal_at w r _ ?_ ?_ _ ?_).mono ?_; (omega); (omega); (simp [*]); rintro e w' ⟨rfl, hB'⟩))
    clear c0 c1 c2 c3 c4
    have HX := hB'
    obtain ⟨⟨c0, c1, c2, c3, c4⟩, _⟩ := HX.all
    go_wp2_with fail
    refine (Clock_at w r _ _ ht0 ht1 _ HX).mono ?_
    rintro e w9 ⟨rfl, HY⟩
    go_wp2_with fail
    go_ret
    rw [HF.out]
    exact ⟨ret_str (by simp), HY.2⟩
  · have HF := Lib.hid (hT2 rfl et)
    clear hT1 hT2
    go_enter Try.func11, Try.ntmps11
    go_wp2_with fail
    go_region_held3 (fun w' => (w'.cell? ⟨w.heap.size, 0, none⟩ = some (.int .i64 r.kind) ∧ w'.cell? ⟨w.heap.size, 1, none⟩ = some (.int .i64 r.day) ∧ w'.cell? ⟨w.heap.size, 2, none⟩ = some (.int .i64 r.week) ∧ w'.cell? ⟨w.heap.size, 3, none⟩ = some (.int .i64 r.mon) ∧ w'.cell? ⟨w.heap.size, 4, none⟩ = some (.int .i64 r.time)) ∧ InBox w r w')
      (first | exact (HB.drew).all | exact InBox.all (by assumption))
      (first | (go_at_call 19; refine (Decimal_at w r _ ?_ ?_ _ ?_).mono ?_; (omega); (omega); (simp [*]); rintro e w' ⟨rfl, hB'⟩))
    clear c0 c1 c2 c3 c4
    have HX := hB'
    obtain ⟨⟨c0, c1, c2, c3, c4⟩, _⟩ := HX.all
    go_wp2_with fail
    go_ret
    rw [HF.out]
    exact ⟨ret_str (by simp), HX.2⟩

set_option maxHeartbeats 8000000 in
theorem RuleText_J (r : Ru) (whole : Bool) (hk : r.kind = 0) (hd0 : 0 ≤ r.day) (hd1 : r.day ≤ 999) (ht0 : -604799 ≤ r.time) (ht1 : r.time ≤ 604799) :
    Ret 11 #[ruA r, .bool whole] (.string (S (ruT r whole))) := by
  intro w
  have HB := InBox.new w r
  obtain ⟨⟨c0, c1, c2, c3, c4⟩, _⟩ := HB.all
  have l1 := decT_len r.mon
  have l2 := decT_len r.week
  have l3 := decT_len r.day
  have l4 := clkT_len r.time true
  have l5 := clkT_len r.time false
  have e0 : (r.kind == 0) = true := by rw [beq_iff_eq]; exact hk
  have hT := ruT_time r whole (74 :: decT r.day) (by rw [if_pos hk])
  have hlh : (74 :: decT r.day).length ≤ 20 := by simp; omega
  obtain ⟨hT1, hT2⟩ := hT
  unfold ruA
  clear hk
  rcases time_cases r.time whole with rfl | ⟨rfl, et⟩ | ⟨rfl, et⟩
  · have HF := Lib.hid (hT1 (.inl rfl))
    clear hT1 hT2
    go_enter Try.func11, Try.ntmps11
    go_wp2_with fail
    refine (Decimal_at w r _ hd0 hd1 _ HB).mono ?_
    rintro e w8 ⟨rfl, HX⟩
    clear c0 c1 c2 c3 c4
    obtain ⟨⟨c0, c1, c2, c3, c4⟩, _⟩ := HX.all
    go_wp2_with fail
    refine (Clock_at w r _ _ ht0 ht1 _ HX).mono ?_
    rintro e w9 ⟨rfl, HY⟩
    go_wp2_with fail
    go_ret
    rw [HF.out]
    exact ⟨ret_str (by simp), HY.2⟩
  · have HF := Lib.hid (hT1 (.inr et))
    clear hT1 hT2
    go_enter Try.func11, Try.ntmps11
    go_wp2_with fail
    refine (Decimal_at w r _ hd0 hd1 _ HB).mono ?_
    rintro e w8 ⟨rfl, HX⟩
    clear c0 c1 c2 c3 c4
    obtain ⟨⟨c0, c1, c2, c3, c4⟩, _⟩ := HX.all
    go_wp2_with fail
    refine (Clock_at w r _ _ ht0 ht1 _ HX).mono ?_
    rintro e w9 ⟨rfl, HY⟩
    go_wp2_with fail
    go_ret
    rw [HF.out]
    exact ⟨ret_str (by simp), HY.2⟩
  · have HF := Lib.hid (hT2 rfl et)
    clear hT1 hT2
    go_enter Try.func11, Try.ntmps11
    go_wp2_with fail
    refine (Decimal_at w r _ hd0 hd1 _ HB).mono ?_
    rintro e w8 ⟨rfl, HX⟩
    clear c0 c1 c2 c3 c4
    obtain ⟨⟨c0, c1, c2, c3, c4⟩, _⟩ := HX.all
    go_wp2_with fail
    go_ret
    rw [HF.out]
    exact ⟨ret_str (by simp), HX.2⟩

set_option maxHeartbeats 8000000 in
theorem RuleText_D (r : Ru) (whole : Bool) (hk : r.kind = 1) (hd0 : 0 ≤ r.day) (hd1 : r.day ≤ 999) (ht0 : -604799 ≤ r.time) (ht1 : r.time ≤ 604799) :
    Ret 11 #[ruA r, .bool whole] (.string (S (ruT r whole))) := by
  intro w
  have HB := InBox.new w r
  obtain ⟨⟨c0, c1, c2, c3, c4⟩, _⟩ := HB.all
  have l1 := decT_len r.mon
  have l2 := decT_len r.week
  have l3 := decT_len r.day
  have l4 := clkT_len r.time true
  have l5 := clkT_len r.time false
  have e0 : (r.kind == 0) = false := by rw [beq_eq_false_iff_ne]; omega
  have e1 : (r.kind == 1) = true := by rw [beq_iff_eq]; exact hk
  have hT := ruT_time r whole (decT r.day) (by rw [if_neg (by omega), if_pos hk])
  obtain ⟨hT1, hT2⟩ := hT
  unfold ruA
  clear hk
  rcases time_cases r.time whole with rfl | ⟨rfl, et⟩ | ⟨rfl, et⟩
  · have HF := Lib.hid (hT1 (.inl rfl))
    clear hT1 hT2
    go_enter Try.func11, Try.ntmps11
    go_wp2_with fail
    refine (Decimal_at w r _ hd0 hd1 _ HB).mono ?_
    rintro e w8 ⟨rfl, HX⟩
    clear c0 c1 c2 c3 c4
    obtain ⟨⟨c0, c1, c2, c3, c4⟩, _⟩ := HX.all
    go_wp2_with fail
    refine (Clock_at w r _ _ ht0 ht1 _ HX).mono ?_
    rintro e w9 ⟨rfl, HY⟩
    go_wp2_with fail
    go_ret
    rw [HF.out]
    exact ⟨ret_str (by simp), HY.2⟩
  · have HF := Lib.hid (hT1 (.inr et))
    clear hT1 hT2
    go_enter Try.func11, Try.ntmps11
    go_wp2_with fail
    refine (Decimal_at w r _ hd0 hd1 _ HB).mono ?_
    rintro e w8 ⟨rfl, HX⟩
    clear c0 c1 c2 c3 c4
    obtain ⟨⟨c0, c1, c2, c3, c4⟩, _⟩ := HX.all
    go_wp2_with fail
    refine (Clock_at w r _ _ ht0 ht1 _ HX).mono ?_
    rintro e w9 ⟨rfl, HY⟩
    go_wp2_with fail
    go_ret
    rw [HF.out]
    exact ⟨ret_str (by simp), HY.2⟩
  · have HF := Lib.hid (hT2 rfl et)
    clear hT1 hT2
    go_enter Try.func11, Try.ntmps11
    go_wp2_with fail
    refine (Decimal_at w r _ hd0 hd1 _ HB).mono ?_
    rintro e w8 ⟨rfl, HX⟩
    clear c0 c1 c2 c3 c4
    obtain ⟨⟨c0, c1, c2, c3, c4⟩, _⟩ := HX.all
    go_wp2_with fail
    go_ret
    rw [HF.out]
    exact ⟨ret_str (by simp), HX.2⟩

theorem RuleText_ret (r : Ru) (whole : Bool) (hd0 : 0 ≤ r.day) (hd1 : r.day ≤ 999) (hw0 : 0 ≤ r.week) (hw1 : r.week ≤ 999) (hm0 : 0 ≤ r.mon) (hm1 : r.mon ≤ 999) (ht0 : -604799 ≤ r.time) (ht1 : r.time ≤ 604799) :
    Ret 11 #[ruA r, .bool whole] (.string (S (ruT r whole))) := by
  by_cases h0 : r.kind = 0
  · exact RuleText_J r whole h0 hd0 hd1 ht0 ht1
  · by_cases h1 : r.kind = 1
    · exact RuleText_D r whole h1 hd0 hd1 ht0 ht1
    · exact RuleText_M r whole h0 h1 hd0 hd1 hw0 hw1 hm0 hm1 ht0 ht1

end Go.Proofs.Ytcjibjggaleclaa
