/- The reference's Named, Bracketed and Name. -/
import Derived.Test.YtcjibjggaleclaaLawClock
import Derived.Test.YtcjibjggaleclaaPlainC
namespace Go.Proofs.Ytcjibjggaleclaa
open Go.RowKit

set_option maxHeartbeats 4000000 in
theorem Named_ret (l : Bs) (hl : l.length ≤ 4294967296) : Ret 18 #[.string (S l)] (.bool (namedB l)) := by
  intro w
  have HY := Lib.hid (fun (h : lenB l = true) (a : (3 : Int) ≤ (l.length : Int)) (b : (l.length : Int) ≤ 100) => Within_yes (l.length : Int) 3 100 a b)
  have HN := Lib.hid (fun (h : lenB l = false) (a : ¬ ((3 : Int) ≤ (l.length : Int) ∧ (l.length : Int) ≤ 100)) => Within_no (l.length : Int) 3 100 a)
  go_enter Try.func18, Try.ntmps18
  go_wp2_with fail
  go_loop [3] (fun i => ∃ k : Nat, k ≤ l.length ∧ i = .int .i64 k ∧ Hid ((l.take k).all letB = true)) (fun i => l.length - (intOf i).toNat)
  case atStart => exact ⟨0, Nat.zero_le _, rfl, by simp [Hid]⟩
  case round =>
    obtain ⟨k, hk, rfl, HA⟩ := hrel
    by_cases hlt : k < l.length
    · by_cases hc : letB l[k] = true
      · have HA' := Lib.hid (all_take_succ letB l k hlt HA.out hc)
        have hcs := letB_yes _ hc
        clear HA hc
        rcases hcs with ⟨c1, c2, c3, c4⟩ | ⟨c1, c2, c3, c4⟩
        all_goals
          go_wp2_with fail
          go_round
          case rel => exact ⟨k + 1, by omega, by go_num, HA'⟩
          case measure => simp [intOf]; omega
      · have HF := Lib.hid (show namedB l = false by rw [namedB, all_false letB l k hlt hc]; rfl)
        have hcs := letB_no _ hc
        clear HA hc
        rcases hcs with ⟨c1, c2, c3, c4⟩ | ⟨c1, c2, c3, c4⟩ | ⟨c1, c2, c3, c4⟩
        all_goals
          go_wp2_with fail
          go_ret
          rw [HF.out]
          exact ⟨rfl, Below.refl _ _⟩
    · have hall : l.all letB = true := by
        have := HA.out; rwa [List.take_of_length_le (by omega)] at this
      clear HA
      rcases lenB_cases l with ⟨h, a, b⟩ | ⟨h, a⟩
      · have HF := Lib.hid (show namedB l = true by rw [namedB, hall, h]; rfl)
        clear hall
        go_wp2_with fail
        refine (HY.out h a b _).mono ?_
        rintro e w1 ⟨rfl, hb⟩
        clear h
        go_wp2_with fail
        go_ret
        rw [HF.out]
        exact ⟨rfl, hb⟩
      · have HF := Lib.hid (show namedB l = false by rw [namedB, hall, h]; rfl)
        have ha := Lib.hid a
        clear hall a
        go_wp2_with fail
        refine (HN.out h ha.out _).mono ?_
        rintro e w1 ⟨rfl, hb⟩
        clear h
        go_wp2_with fail
        go_ret
        rw [HF.out]
        exact ⟨rfl, hb⟩

set_option maxHeartbeats 4000000 in
theorem Bracketed_ret (l : Bs) (hl : l.length ≤ 4294967296) : Ret 13 #[.string (S l)] (.bool (brackB l)) := by
  intro w
  have HY := Lib.hid (fun (h : lenB l = true) (a : (3 : Int) ≤ (l.length : Int)) (b : (l.length : Int) ≤ 100) => Within_yes (l.length : Int) 3 100 a b)
  have HN := Lib.hid (fun (h : lenB l = false) (a : ¬ ((3 : Int) ≤ (l.length : Int) ∧ (l.length : Int) ≤ 100)) => Within_no (l.length : Int) 3 100 a)
  go_enter Try.func13, Try.ntmps13
  go_wp2_with fail
  go_loop [3] (fun i => ∃ k : Nat, k ≤ l.length ∧ i = .int .i64 k ∧ Hid ((l.take k).all brkB = true)) (fun i => l.length - (intOf i).toNat)
  case atStart => exact ⟨0, Nat.zero_le _, rfl, by simp [Hid]⟩
  case round =>
    obtain ⟨k, hk, rfl, HA⟩ := hrel
    by_cases hlt : k < l.length
    · by_cases hc : brkB l[k] = true
      · have HA' := Lib.hid (all_take_succ brkB l k hlt HA.out hc)
        have hcs := brkB_yes _ hc
        clear HA hc
        rcases hcs with ⟨c1, c2, c3, c4, c5, c6, c7, c8⟩ | ⟨c1, c2, c3, c4, c5, c6, c7, c8⟩ | ⟨c1, c2, c3, c4, c5, c6, c7, c8⟩ | ⟨c1, c2, c3, c4, c5, c6, c7, c8⟩ | ⟨c1, c2, c3, c4, c5, c6, c7, c8⟩
        all_goals
          go_wp2_with fail
          go_round
          case rel => exact ⟨k + 1, by omega, by go_num, HA'⟩
          case measure => simp [intOf]; omega
      · have HF := Lib.hid (show brackB l = false by rw [brackB, all_false brkB l k hlt hc]; rfl)
        have hcs := brkB_no _ hc
        clear HA hc
        rcases hcs with ⟨c1, c2, c3, c4, c5, c6, c7, c8⟩ | ⟨c1, c2, c3, c4, c5, c6, c7, c8⟩ | ⟨c1, c2, c3, c4, c5, c6, c7, c8⟩ | ⟨c1, c2, c3, c4, c5, c6, c7, c8⟩
        all_goals
          go_wp2_with fail
          go_ret
          rw [HF.out]
          exact ⟨rfl, Below.refl _ _⟩
    · have hall : l.all brkB = true := by
        have := HA.out; rwa [List.take_of_length_le (by omega)] at this
      clear HA
      rcases lenB_cases l with ⟨h, a, b⟩ | ⟨h, a⟩
      · have HF := Lib.hid (show brackB l = true by rw [brackB, hall, h]; rfl)
        clear hall
        go_wp2_with fail
        refine (HY.out h a b _).mono ?_
        rintro e w1 ⟨rfl, hb⟩
        clear h
        go_wp2_with fail
        go_ret
        rw [HF.out]
        exact ⟨rfl, hb⟩
      · have HF := Lib.hid (show brackB l = false by rw [brackB, hall, h]; rfl)
        have ha := Lib.hid a
        clear hall a
        go_wp2_with fail
        refine (HN.out h ha.out _).mono ?_
        rintro e w1 ⟨rfl, hb⟩
        clear h
        go_wp2_with fail
        go_ret
        rw [HF.out]
        exact ⟨rfl, hb⟩

theorem specName_ret (l : Bs) (hl : l.length ≤ 4294967296) : Ret 9 #[.string (S l)] (.string (S (nameT l))) := by
  intro w
  have HC := Named_ret l hl
  cases hn : namedB l
  all_goals
    rw [hn] at HC
    have HC := Lib.hid HC
  · have HF := Lib.hid (show nameT l = 60 :: (l ++ [62]) by rw [nameT, hn]; rfl)
    clear hn
    go_enter Try.func9, Try.ntmps9
    go_wp2_with fail
    refine (HC.out _).mono ?_
    rintro e w1 ⟨rfl, hb⟩
    go_wp2_with fail
    go_ret
    rw [HF.out]
    exact ⟨ret_str (by simp), hb⟩
  · have HF := Lib.hid (show nameT l = l by rw [nameT, hn]; rfl)
    clear hn
    go_enter Try.func9, Try.ntmps9
    go_wp2_with fail
    refine (HC.out _).mono ?_
    rintro e w1 ⟨rfl, hb⟩
    go_wp2_with fail
    go_ret
    rw [HF.out]
    exact ⟨ret_str (by simp), hb⟩

end Go.Proofs.Ytcjibjggaleclaa
