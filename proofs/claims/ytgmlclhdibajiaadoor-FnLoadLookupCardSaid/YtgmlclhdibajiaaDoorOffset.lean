/- tzsetOffset returns what the plain function offF computes, at every text. -/
import Derived.Test.YtgmlclhdibajiaaDoorNum
namespace Go.Proofs.YtgmlclhdibajiaaDoor
open Go.RowKit

theorem colon_cases (c : UInt8) : (c = 58 ∧ ((c.toNat : Int) != 58) = false) ∨ (c ≠ 58 ∧ ((c.toNat : Int) != 58) = true) := by
  rcases byte_cases c 58 with ⟨h, e⟩ | ⟨h, e⟩
  · subst h; exact .inl ⟨rfl, rfl⟩
  · refine .inr ⟨h, ?_⟩
    change ((c.toNat : Int) == 58) = false at e
    rw [bne, e]; rfl

set_option maxHeartbeats 4000000 in
theorem tzsetOffset_ret (l : Bs) : Ret 44 #[.string (S l)] (numV (offF l)) := by
  intro w
  rcases l with _ | ⟨c, cs⟩
  · go_enter Tryd.func44, Tryd.ntmps44
    go_wp2
    go_ret3
    exact ⟨rfl, Below.refl _ _⟩
  · obtain ⟨neg, l1, hs⟩ : ∃ neg l1, signOf (c :: cs) = (neg, l1) := ⟨_, _, rfl⟩
    have HV := Lib.hid (show offF (c :: cs) = offA neg l1 by rw [offF, if_neg (by simp), hs])
    obtain ⟨h, l2, ok, hq⟩ : ∃ h l2 ok, numF l1 0 168 = (h, l2, ok) := ⟨_, _, _, rfl⟩
    have hbd := numF_bd l1 0 168 (by omega)
    rw [hq] at hbd
    obtain ⟨hb1, hb2⟩ := hbd
    simp only [] at hb1 hb2
    have hcall : Ret 49 #[.string (S l1), .int .i64 0, .int .i64 168] (.tuple #[.int .i64 h, .string (S l2), .bool ok]) := by
      have := tzsetNum_ret l1 0 168 (by omega)
      rw [hq] at this
      exact this
    have hz : ((cs.length : Int) + 1 == 0) = false := by rw [beq_eq_false_iff_ne]; omega
    have HQ := Lib.hid hq
    have HS := Lib.hid hs
    have HC := Lib.hid hcall
    clear hq hs hcall
    rcases signOf_cases c cs with ⟨e1, e3⟩ | ⟨e1, e2, e3⟩ | ⟨e1, e2, e3⟩
    all_goals
      obtain ⟨rfl, rfl⟩ := Prod.mk.inj (e3.symm.trans HS.out)
      clear e3 HS
    all_goals
      go_enter Tryd.func44, Tryd.ntmps44
      go_wp2_with fail
      refine (HC.out _).mono ?_
      rintro e w1 ⟨rfl, hb⟩
      clear HC
    all_goals
      cases ok with
      | false =>
        have HF := Lib.hid (HV.out.trans (offA_no HQ.out))
        clear HV HQ
        go_wp2_with fail
        go_ret3
        rw [HF.out]
        exact ⟨rfl, hb⟩
      | true =>
        rcases l2 with _ | ⟨d, ds⟩
        · have HF := Lib.hid (HV.out.trans (offA_nil HQ.out))
          clear HV HQ
          go_wp2_with fail
          go_ret3
          rw [HF.out]
          exact ⟨rfl, hb⟩
        · have hz1 : ((ds.length : Int) + 1 == 0) = false := by rw [beq_eq_false_iff_ne]; omega
          rcases colon_cases d with ⟨rfl, hd⟩ | ⟨hd', hd⟩
          · have HV2 := Lib.hid (HV.out.trans (offA_go HQ.out))
            clear HV HQ
            obtain ⟨m, l3, ok3, hq3⟩ : ∃ m l3 ok3, numF ds 0 59 = (m, l3, ok3) := ⟨_, _, _, rfl⟩
            have hbd3 := numF_bd ds 0 59 (by omega)
            rw [hq3] at hbd3
            obtain ⟨hm1, hm2⟩ := hbd3
            simp only [] at hm1 hm2
            have HC3 := Lib.hid (show Ret 49 #[.string (S ds), .int .i64 0, .int .i64 59] (.tuple #[.int .i64 m, .string (S l3), .bool ok3]) by
              have := tzsetNum_ret ds 0 59 (by omega)
              rw [hq3] at this
              exact this)
            have HQ3 := Lib.hid hq3
            clear hq3
            go_wp2_with fail
            refine (HC3.out _).mono ?_
            rintro e w2 ⟨rfl, hb'⟩
            have hb2' : Below w.heap.size w w2 := hb.trans (hb'.mono hb.size)
            clear HC3 hb'
            cases ok3 with
            | false =>
              have HF := Lib.hid (HV2.out.trans (offB_no HQ3.out))
              clear HV2 HQ3
              go_wp2_with fail
              go_ret3
              rw [HF.out]
              exact ⟨rfl, hb2'⟩
            | true =>
              rcases l3 with _ | ⟨d3, ds3⟩
              · have HF := Lib.hid (HV2.out.trans (offB_nil HQ3.out))
                clear HV2 HQ3
                go_wp2_with fail
                go_ret3
                rw [HF.out]
                exact ⟨rfl, hb2'⟩
              · have hz3 : ((ds3.length : Int) + 1 == 0) = false := by rw [beq_eq_false_iff_ne]; omega
                rcases colon_cases d3 with ⟨rfl, hd3⟩ | ⟨hd3', hd3⟩
                · have HV3 := Lib.hid (HV2.out.trans (offB_go HQ3.out))
                  clear HV2 HQ3
                  obtain ⟨sc, l4, ok4, hq4⟩ : ∃ sc l4 ok4, numF ds3 0 59 = (sc, l4, ok4) := ⟨_, _, _, rfl⟩
                  have hbd4 := numF_bd ds3 0 59 (by omega)
                  rw [hq4] at hbd4
                  obtain ⟨hs1, hs2⟩ := hbd4
                  simp only [] at hs1 hs2
                  have HC4 := Lib.hid (show Ret 49 #[.string (S ds3), .int .i64 0, .int .i64 59] (.tuple #[.int .i64 sc, .string (S l4), .bool ok4]) by
                    have := tzsetNum_ret ds3 0 59 (by omega)
                    rw [hq4] at this
                    exact this)
                  have HQ4 := Lib.hid hq4
                  clear hq4
                  go_wp2_with fail
                  refine (HC4.out _).mono ?_
                  rintro e w3 ⟨rfl, hb'⟩
                  have hb3' : Below w.heap.size w w3 := hb2'.trans (hb'.mono hb2'.size)
                  clear HC4 hb'
                  cases ok4 with
                  | false =>
                    have HF := Lib.hid (HV3.out.trans (offC_no HQ4.out))
                    clear HV3 HQ4
                    go_wp2_with fail
                    go_ret3
                    rw [HF.out]
                    exact ⟨rfl, hb3'⟩
                  | true =>
                    have HF := Lib.hid (HV3.out.trans (offC_yes HQ4.out))
                    clear HV3 HQ4
                    go_wp2_with fail
                    go_ret3
                    rw [HF.out]
                    exact ⟨rfl, hb3'⟩
                · have HF := Lib.hid (HV2.out.trans (offB_end HQ3.out hd3'))
                  clear HV2 HQ3 hd3'
                  go_wp2_with fail
                  go_ret3
                  rw [HF.out]
                  exact ⟨rfl, hb2'⟩
          · have HF := Lib.hid (HV.out.trans (offA_end HQ.out hd'))
            clear HV HQ hd'
            go_wp2_with fail
            go_ret3
            rw [HF.out]
            exact ⟨rfl, hb⟩

end Go.Proofs.YtgmlclhdibajiaaDoor
