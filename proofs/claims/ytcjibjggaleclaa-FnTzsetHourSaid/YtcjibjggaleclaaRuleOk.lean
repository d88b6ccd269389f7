/- The reference's RuleOk. -/
import Derived.Test.YtcjibjggaleclaaRuleText
namespace Go.Proofs.Ytcjibjggaleclaa
open Go.RowKit

def inB (n a b : Int) : Bool := decide (a ≤ n) && decide (n ≤ b)
theorem inB_iff (n a b : Int) : inB n a b = true ↔ a ≤ n ∧ n ≤ b := by simp [inB]
theorem Within_ret (n a b : Int) : Ret 14 #[.int .i64 n, .int .i64 a, .int .i64 b] (.bool (inB n a b)) := by
  by_cases h : a ≤ n ∧ n ≤ b
  · rw [(inB_iff n a b).2 h]; exact Within_yes n a b h.1 h.2
  · have : inB n a b = false := by rw [← Bool.not_eq_true, inB_iff]; exact h
    rw [this]; exact Within_no n a b h
def ruOk (r : Ru) : Bool :=
  inB r.time (-604799) 604799 && (if r.kind = 0 then inB r.day 1 365 && (r.week == 0) && (r.mon == 0) else if r.kind = 1 then inB r.day 0 365 && (r.week == 0) && (r.mon == 0) else if r.kind = 2 then inB r.day 0 6 && inB r.week 1 5 && inB r.mon 1 12 else false)
theorem Within_at (w : World) (r : Ru) (n a b : Int) (x : Bool) (hx : inB n a b = x) (W : World) (h : InBox w r W) :
    Calls Try.prog 14 #[.int .i64 n, .int .i64 a, .int .i64 b] W fun e W' => e = .returned (.bool x) ∧ InBox w r W' :=
  (hx ▸ Within_ret n a b W).mono fun _ _ ⟨he, hb⟩ => ⟨he, h.below hb⟩

set_option maxHeartbeats 8000000 in
theorem RuleOk_ret (r : Ru) : Ret 15 #[ruA r] (.bool (ruOk r)) := by
  intro w
  have HB := InBox.new w r
  obtain ⟨⟨c0, c1, c2, c3, c4⟩, _⟩ := HB.all
  cases ht : inB r.time (-604799) 604799
  · have HF := Lib.hid (show ruOk r = false by rw [ruOk, ht]; rfl)
    have Ht := Lib.hid ht
    clear ht
    unfold ruA
    go_enter Try.func15, Try.ntmps15
    go_wp2_with fail
    refine (Within_at w r _ _ _ _ Ht.out _ HB).mono ?_
    rintro e w1 ⟨rfl, HX1⟩
    clear c0 c1 c2 c3 c4
    obtain ⟨⟨c0, c1, c2, c3, c4⟩, _⟩ := HX1.all
    go_wp2_with fail
    go_ret
    rw [HF.out]
    exact ⟨rfl, HX1.2⟩
  have Ht := Lib.hid ht
  by_cases hk0 : r.kind = 0
  · skip
    have e0 : (r.kind == 0) = true := by rw [beq_iff_eq]; exact hk0
    cases hd : inB r.day 1 365
    · have Hd := Lib.hid hd
      have HF := Lib.hid (show ruOk r = false by simp [ruOk, ht, hk0, hd])
      clear ht hk0
      unfold ruA
      go_enter Try.func15, Try.ntmps15
      go_wp2_with fail
      refine (Within_at w r _ _ _ _ Ht.out _ HB).mono ?_
      rintro e w1 ⟨rfl, HX1⟩
      clear c0 c1 c2 c3 c4
      obtain ⟨⟨c0, c1, c2, c3, c4⟩, _⟩ := HX1.all
      go_wp2_with fail
      refine (Within_at w r _ _ _ _ Hd.out _ HX1).mono ?_
      rintro e w2 ⟨rfl, HX2⟩
      clear c0 c1 c2 c3 c4
      obtain ⟨⟨c0, c1, c2, c3, c4⟩, _⟩ := HX2.all
      go_wp2_with fail
      go_ret
      rw [HF.out]
      exact ⟨rfl, HX2.2⟩
    have Hd := Lib.hid hd
    cases hw : (r.week == 0)
    · have hw' : r.week ≠ 0 := by rw [beq_eq_false_iff_ne] at hw; exact hw
      have HF := Lib.hid (show ruOk r = false by simp [ruOk, ht, hk0, hw'])
      clear hw' ht hd
      clear hk0
      unfold ruA
      go_enter Try.func15, Try.ntmps15
      go_wp2_with fail
      refine (Within_at w r _ _ _ _ Ht.out _ HB).mono ?_
      rintro e w1 ⟨rfl, HX1⟩
      clear c0 c1 c2 c3 c4
      obtain ⟨⟨c0, c1, c2, c3, c4⟩, _⟩ := HX1.all
      go_wp2_with fail
      refine (Within_at w r _ _ _ _ Hd.out _ HX1).mono ?_
      rintro e w2 ⟨rfl, HX2⟩
      clear c0 c1 c2 c3 c4
      obtain ⟨⟨c0, c1, c2, c3, c4⟩, _⟩ := HX2.all
      go_wp2_with fail
      go_ret
      rw [HF.out]
      exact ⟨rfl, HX2.2⟩
    have hw' : r.week = 0 := by rw [beq_iff_eq] at hw; exact hw
    cases hm : (r.mon == 0)
    · have hm' : r.mon ≠ 0 := by rw [beq_eq_false_iff_ne] at hm; exact hm
      have HF := Lib.hid (show ruOk r = false by simp [ruOk, ht, hk0, hm'])
      clear hm' hw' ht hd
      clear hk0
      unfold ruA
      go_enter Try.func15, Try.ntmps15
      go_wp2_with fail
      refine (Within_at w r _ _ _ _ Ht.out _ HB).mono ?_
      rintro e w1 ⟨rfl, HX1⟩
      clear c0 c1 c2 c3 c4
      obtain ⟨⟨c0, c1, c2, c3, c4⟩, _⟩ := HX1.all
      go_wp2_with fail
      refine (Within_at w r _ _ _ _ Hd.out _ HX1).mono ?_
      rintro e w2 ⟨rfl, HX2⟩
      clear c0 c1 c2 c3 c4
      obtain ⟨⟨c0, c1, c2, c3, c4⟩, _⟩ := HX2.all
      go_wp2_with fail
      go_ret
      rw [HF.out]
      exact ⟨rfl, HX2.2⟩
    have hm' : r.mon = 0 := by rw [beq_iff_eq] at hm; exact hm
    have HF := Lib.hid (show ruOk r = true by simp [ruOk, ht, hk0, hd, hw', hm'])
    clear hm' hw' ht hd
    clear hk0
    unfold ruA
    go_enter Try.func15, Try.ntmps15
    go_wp2_with fail
    refine (Within_at w r _ _ _ _ Ht.out _ HB).mono ?_
    rintro e w1 ⟨rfl, HX1⟩
    clear c0 c1 c2 c3 c4
    obtain ⟨⟨c0, c1, c2, c3, c4⟩, _⟩ := HX1.all
    go_wp2_with fail
    refine (Within_at w r _ _ _ _ Hd.out _ HX1).mono ?_
    rintro e w2 ⟨rfl, HX2⟩
    clear c0 c1 c2 c3 c4
    obtain ⟨⟨c0, c1, c2, c3, c4⟩, _⟩ := HX2.all
    go_wp2_with fail
    go_ret
    rw [HF.out]
    exact ⟨rfl, HX2.2⟩
  by_cases hk1 : r.kind = 1
  · skip
    have e0 : (r.kind == 0) = false := by rw [beq_eq_false_iff_ne]; exact hk0
    have e1 : (r.kind == 1) = true := by rw [beq_iff_eq]; exact hk1
    cases hd : inB r.day 0 365
    · have Hd := Lib.hid hd
      have HF := Lib.hid (show ruOk r = false by simp [ruOk, ht, hk1, hd])
      clear ht hk0 hk1
      unfold ruA
      go_enter Try.func15, Try.ntmps15
      go_wp2_with fail
      refine (Within_at w r _ _ _ _ Ht.out _ HB).mono ?_
      rintro e w1 ⟨rfl, HX1⟩
      clear c0 c1 c2 c3 c4
      obtain ⟨⟨c0, c1, c2, c3, c4⟩, _⟩ := HX1.all
      go_wp2_with fail
      refine (Within_at w r _ _ _ _ Hd.out _ HX1).mono ?_
      rintro e w2 ⟨rfl, HX2⟩
      clear c0 c1 c2 c3 c4
      obtain ⟨⟨c0, c1, c2, c3, c4⟩, _⟩ := HX2.all
      go_wp2_with fail
      go_ret
      rw [HF.out]
      exact ⟨rfl, HX2.2⟩
    have Hd := Lib.hid hd
    cases hw : (r.week == 0)
    · have hw' : r.week ≠ 0 := by rw [beq_eq_false_iff_ne] at hw; exact hw
      have HF := Lib.hid (show ruOk r = false by simp [ruOk, ht, hk1, hw'])
      clear hw' ht hd
      clear hk0 hk1
      unfold ruA
      go_enter Try.func15, Try.ntmps15
      go_wp2_with fail
      refine (Within_at w r _ _ _ _ Ht.out _ HB).mono ?_
      rintro e w1 ⟨rfl, HX1⟩
      clear c0 c1 c2 c3 c4
      obtain ⟨⟨c0, c1, c2, c3, c4⟩, _⟩ := HX1.all
      go_wp2_with fail
      refine (Within_at w r _ _ _ _ Hd.out _ HX1).mono ?_
      rintro e w2 ⟨rfl, HX2⟩
      clear c0 c1 c2 c3 c4
      obtain ⟨⟨c0, c1, c2, c3, c4⟩, _⟩ := HX2.all
      go_wp2_with fail
      go_ret
      rw [HF.out]
      exact ⟨rfl, HX2.2⟩
    have hw' : r.week = 0 := by rw [beq_iff_eq] at hw; exact hw
    cases hm : (r.mon == 0)
    · have hm' : r.mon ≠ 0 := by rw [beq_eq_false_iff_ne] at hm; exact hm
      have HF := Lib.hid (show ruOk r = false by simp [ruOk, ht, hk1, hm'])
      clear hm' hw' ht hd
      clear hk0 hk1
      unfold ruA
      go_enter Try.func15, Try.ntmps15
      go_wp2_with fail
      refine (Within_at w r _ _ _ _ Ht.out _ HB).mono ?_
      rintro e w1 ⟨rfl, HX1⟩
      clear c0 c1 c2 c3 c4
      obtain ⟨⟨c0, c1, c2, c3, c4⟩, _⟩ := HX1.all
      go_wp2_with fail
      refine (Within_at w r _ _ _ _ Hd.out _ HX1).mono ?_
      rintro e w2 ⟨rfl, HX2⟩
      clear c0 c1 c2 c3 c4
      obtain ⟨⟨c0, c1, c2, c3, c4⟩, _⟩ := HX2.all
      go_wp2_with fail
      go_ret
      rw [HF.out]
      exact ⟨rfl, HX2.2⟩
    have hm' : r.mon = 0 := by rw [beq_iff_eq] at hm; exact hm
    have HF := Lib.hid (show ruOk r = true by simp [ruOk, ht, hk1, hd, hw', hm'])
    clear hm' hw' ht hd
    clear hk0 hk1
    unfold ruA
    go_enter Try.func15, Try.ntmps15
    go_wp2_with fail
    refine (Within_at w r _ _ _ _ Ht.out _ HB).mono ?_
    rintro e w1 ⟨rfl, HX1⟩
    clear c0 c1 c2 c3 c4
    obtain ⟨⟨c0, c1, c2, c3, c4⟩, _⟩ := HX1.all
    go_wp2_with fail
    refine (Within_at w r _ _ _ _ Hd.out _ HX1).mono ?_
    rintro e w2 ⟨rfl, HX2⟩
    clear c0 c1 c2 c3 c4
    obtain ⟨⟨c0, c1, c2, c3, c4⟩, _⟩ := HX2.all
    go_wp2_with fail
    go_ret
    rw [HF.out]
    exact ⟨rfl, HX2.2⟩
  have e0 : (r.kind == 0) = false := by rw [beq_eq_false_iff_ne]; exact hk0
  have e1 : (r.kind == 1) = false := by rw [beq_eq_false_iff_ne]; exact hk1
  by_cases hk2 : r.kind = 2
  · have e2 : (r.kind == 2) = true := by rw [beq_iff_eq]; exact hk2
    cases hd : inB r.day 0 6
    · have Hd := Lib.hid hd
      have HF := Lib.hid (show ruOk r = false by simp [ruOk, ht, hk2, hd])
      clear hk0 hk1 hk2 ht hd
      unfold ruA
      go_enter Try.func15, Try.ntmps15
      go_wp2_with fail
      refine (Within_at w r _ _ _ _ Ht.out _ HB).mono ?_
      rintro e w1 ⟨rfl, HX1⟩
      clear c0 c1 c2 c3 c4
      obtain ⟨⟨c0, c1, c2, c3, c4⟩, _⟩ := HX1.all
      go_wp2_with fail
      refine (Within_at w r _ _ _ _ Hd.out _ HX1).mono ?_
      rintro e w2 ⟨rfl, HX2⟩
      clear c0 c1 c2 c3 c4
      obtain ⟨⟨c0, c1, c2, c3, c4⟩, _⟩ := HX2.all
      go_wp2_with fail
      go_ret
      rw [HF.out]
      exact ⟨rfl, HX2.2⟩
    have Hd := Lib.hid hd
    cases hw : inB r.week 1 5
    · have Hw := Lib.hid hw
      have HF := Lib.hid (show ruOk r = false by simp [ruOk, ht, hk2, hw])
      clear hk0 hk1 hk2 ht hd hw
      unfold ruA
      go_enter Try.func15, Try.ntmps15
      go_wp2_with fail
      refine (Within_at w r _ _ _ _ Ht.out _ HB).mono ?_
      rintro e w1 ⟨rfl, HX1⟩
      clear c0 c1 c2 c3 c4
      obtain ⟨⟨c0, c1, c2, c3, c4⟩, _⟩ := HX1.all
      go_wp2_with fail
      refine (Within_at w r _ _ _ _ Hd.out _ HX1).mono ?_
      rintro e w2 ⟨rfl, HX2⟩
      clear c0 c1 c2 c3 c4
      obtain ⟨⟨c0, c1, c2, c3, c4⟩, _⟩ := HX2.all
      go_wp2_with fail
      refine (Within_at w r _ _ _ _ Hw.out _ HX2).mono ?_
      rintro e w3 ⟨rfl, HX3⟩
      clear c0 c1 c2 c3 c4
      obtain ⟨⟨c0, c1, c2, c3, c4⟩, _⟩ := HX3.all
      go_wp2_with fail
      go_ret
      rw [HF.out]
      exact ⟨rfl, HX3.2⟩
    have Hw := Lib.hid hw
    cases hm : inB r.mon 1 12
    · have Hm := Lib.hid hm
      have HF := Lib.hid (show ruOk r = false by simp [ruOk, ht, hk2, hm])
      clear hk0 hk1 hk2 ht hd hw hm
      unfold ruA
      go_enter Try.func15, Try.ntmps15
      go_wp2_with fail
      refine (Within_at w r _ _ _ _ Ht.out _ HB).mono ?_
      rintro e w1 ⟨rfl, HX1⟩
      clear c0 c1 c2 c3 c4
      obtain ⟨⟨c0, c1, c2, c3, c4⟩, _⟩ := HX1.all
      go_wp2_with fail
      refine (Within_at w r _ _ _ _ Hd.out _ HX1).mono ?_
      rintro e w2 ⟨rfl, HX2⟩
      clear c0 c1 c2 c3 c4
      obtain ⟨⟨c0, c1, c2, c3, c4⟩, _⟩ := HX2.all
      go_wp2_with fail
      refine (Within_at w r _ _ _ _ Hw.out _ HX2).mono ?_
      rintro e w3 ⟨rfl, HX3⟩
      clear c0 c1 c2 c3 c4
      obtain ⟨⟨c0, c1, c2, c3, c4⟩, _⟩ := HX3.all
      go_wp2_with fail
      refine (Within_at w r _ _ _ _ Hm.out _ HX3).mono ?_
      rintro e w4 ⟨rfl, HX4⟩
      clear c0 c1 c2 c3 c4
      obtain ⟨⟨c0, c1, c2, c3, c4⟩, _⟩ := HX4.all
      go_wp2_with fail
      go_ret
      rw [HF.out]
      exact ⟨rfl, HX4.2⟩
    have Hm := Lib.hid hm
    have HF := Lib.hid (show ruOk r = true by simp [ruOk, ht, hk2, hd, hw, hm])
    clear hk0 hk1 hk2 ht hd hw hm
    unfold ruA
    go_enter Try.func15, Try.ntmps15
    go_wp2_with fail
    refine (Within_at w r _ _ _ _ Ht.out _ HB).mono ?_
    rintro e w1 ⟨rfl, HX1⟩
    clear c0 c1 c2 c3 c4
    obtain ⟨⟨c0, c1, c2, c3, c4⟩, _⟩ := HX1.all
    go_wp2_with fail
    refine (Within_at w r _ _ _ _ Hd.out _ HX1).mono ?_
    rintro e w2 ⟨rfl, HX2⟩
    clear c0 c1 c2 c3 c4
    obtain ⟨⟨c0, c1, c2, c3, c4⟩, _⟩ := HX2.all
    go_wp2_with fail
    refine (Within_at w r _ _ _ _ Hw.out _ HX2).mono ?_
    rintro e w3 ⟨rfl, HX3⟩
    clear c0 c1 c2 c3 c4
    obtain ⟨⟨c0, c1, c2, c3, c4⟩, _⟩ := HX3.all
    go_wp2_with fail
    refine (Within_at w r _ _ _ _ Hm.out _ HX3).mono ?_
    rintro e w4 ⟨rfl, HX4⟩
    clear c0 c1 c2 c3 c4
    obtain ⟨⟨c0, c1, c2, c3, c4⟩, _⟩ := HX4.all
    go_wp2_with fail
    go_ret
    rw [HF.out]
    exact ⟨rfl, HX4.2⟩
  have e2 : (r.kind == 2) = false := by rw [beq_eq_false_iff_ne]; exact hk2
  have HF := Lib.hid (show ruOk r = false by simp [ruOk, hk0, hk1, hk2])
  clear hk0 hk1 hk2 ht
  unfold ruA
  go_enter Try.func15, Try.ntmps15
  go_wp2_with fail
  refine (Within_at w r _ _ _ _ Ht.out _ HB).mono ?_
  rintro e w1 ⟨rfl, HX1⟩
  clear c0 c1 c2 c3 c4
  obtain ⟨⟨c0, c1, c2, c3, c4⟩, _⟩ := HX1.all
  go_wp2_with fail
  go_ret
  rw [HF.out]
  exact ⟨rfl, HX1.2⟩

end Go.Proofs.Ytcjibjggaleclaa
