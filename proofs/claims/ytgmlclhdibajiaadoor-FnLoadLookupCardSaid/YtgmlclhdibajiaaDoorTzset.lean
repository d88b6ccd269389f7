/- tzset returns what the plain functions compute, at every text and every time. -/
import Derived.Test.YtgmlclhdibajiaaDoorTzsetP
import Derived.Deep.DeepCutAuto
namespace Go.Proofs.YtgmlclhdibajiaaDoor
open Go.RowKit

theorem off_call' (r : Bs) (t : Int) (r' : Bs) (ok : Bool) (h : offF r = (t, r', ok)) : -608399 ≤ t ∧ t ≤ 608399 ∧ r'.length ≤ r.length := by
  have := offF_bd r
  rw [h] at this
  exact ⟨this.1.1, this.1.2, this.2⟩
theorem name_len' (r : Bs) (n r' : Bs) (ok : Bool) (h : nameF r = (n, r', ok)) : r'.length ≤ r.length := by
  have := nameF_len r
  rw [h] at this
  exact this

theorem tzC_cons (sn : Bs) (so : Int) (dn : Bs) (dd : Int) (c : UInt8) (l : Bs) : tzC sn so dn dd (c :: l) = if c = 44 ∨ c = 59 then tzR1 sn so dn dd l else none := by simp [tzC]
theorem semi_cases (c : UInt8) : (c = 59 ∧ ((c.toNat : Int) != 59) = false) ∨ (c ≠ 59 ∧ ((c.toNat : Int) != 59) = true) := by
  rcases byte_cases c 59 with ⟨h, e⟩ | ⟨h, e⟩
  · subst h; exact .inl ⟨rfl, rfl⟩
  · refine .inr ⟨h, ?_⟩
    change ((c.toNat : Int) == 59) = false at e
    rw [bne, e]; rfl

def ruC (r : Ru) : Array Value := #[.int .i64 r.kind, .int .i64 r.day, .int .i64 r.week, .int .i64 r.mon, .int .i64 r.time]
theorem Blk.ru {w : World} {g : Nat} {t : TypeId} {r : Ru} (h : Blk w g t (ruC r)) :
    w.cell? ⟨g, 0, none⟩ = some (.int .i64 r.kind) ∧ w.cell? ⟨g, 1, none⟩ = some (.int .i64 r.day) ∧ w.cell? ⟨g, 2, none⟩ = some (.int .i64 r.week) ∧ w.cell? ⟨g, 3, none⟩ = some (.int .i64 r.mon) ∧ w.cell? ⟨g, 4, none⟩ = some (.int .i64 r.time) ∧ ∀ i, w.frozen? ⟨g, i, none⟩ = false := Blk.five h
def ruPut (w : World) (g : Nat) (r : Ru) : World := ((((w.setCell ⟨g, 0, none⟩ (.int .i64 r.kind)).setCell ⟨g, 1, none⟩ (.int .i64 r.day)).setCell ⟨g, 2, none⟩ (.int .i64 r.week)).setCell ⟨g, 3, none⟩ (.int .i64 r.mon)).setCell ⟨g, 4, none⟩ (.int .i64 r.time)
theorem Blk.put {w : World} {g : Nat} {t : TypeId} {r0 : Ru} (h : Blk w g t (ruC r0)) (r : Ru) : Blk (ruPut w g r) g t (ruC r) := by
  exact ((((h.set 0 (.int .i64 r.kind)).set 1 (.int .i64 r.day)).set 2 (.int .i64 r.week)).set 3 (.int .i64 r.mon)).set 4 (.int .i64 r.time)
theorem Blk.putFar {w : World} {g k : Nat} {t : TypeId} {cs : Array Value} (h : Blk w g t cs) (hk : g ≠ k) (r : Ru) : Blk (ruPut w k r) g t cs :=
  ((((h.far (p := ⟨k, 0, none⟩) hk _).far (p := ⟨k, 1, none⟩) hk _).far (p := ⟨k, 2, none⟩) hk _).far (p := ⟨k, 3, none⟩) hk _).far (p := ⟨k, 4, none⟩) hk _
theorem ruPut_below {w W : World} {g : Nat} (h : Below w.heap.size w W) (hg : w.heap.size ≤ g) (r : Ru) : Below w.heap.size w (ruPut W g r) := by
  unfold ruPut; go_grown

set_option maxRecDepth 100000 in
set_option maxHeartbeats 16000000 in
theorem tzset_ret (s : Bs) (hs : s.length ≤ 4294967296) (last sec : Int) : Ret 40 #[.string (S s), .int .i64 last, .int .i64 sec] (tzEval last sec (tzA s)) := by
  intro w
  obtain ⟨sn, s1, ok1, hq1⟩ : ∃ n r ok, nameF s = (n, r, ok) := ⟨_, _, _, rfl⟩
  have HN1 := Lib.hid (name_call s hs sn s1 ok1 hq1)
  have hl1 := name_len' _ _ _ _ hq1
  have HQ1 := Lib.hid hq1
  clear hq1
  go_enter Tryd.func40, Tryd.ntmps40
  go_wp2_with fail
  refine (HN1.out _).mono ?_
  rintro e w1 ⟨rfl, hb1⟩
  clear HN1
  cases ok1 with
  | false =>
    have HF := Lib.hid (show tzEval last sec (tzA s) = tzV [] 0 0 0 false false by rw [tzA, HQ1.out]; rfl)
    clear HQ1
    go_wp2_with fail
    refine bodyPost_ret (results_six rfl _ _ _) rfl ?_
    rw [HF.out]
    exact ⟨rfl, hb1⟩
  | true =>
    obtain ⟨o1, s2, ok2, hq2⟩ : ∃ n r ok, offF s1 = (n, r, ok) := ⟨_, _, _, rfl⟩
    have HO1 := Lib.hid (off_call s1 o1 s2 ok2 hq2)
    obtain ⟨ho10, ho11, hl2⟩ := off_call' _ _ _ _ hq2
    have HQ2 := Lib.hid hq2
    clear hq2
    go_wp2_with fail
    refine (HO1.out _).mono ?_
    rintro e w2 ⟨rfl, hb2'⟩
    have hb2 : Below w.heap.size w w2 := hb1.trans (hb2'.mono hb1.size)
    clear HO1 hb2' hb1
    cases ok2 with
    | false =>
      have HF := Lib.hid (show tzEval last sec (tzA s) = tzV [] 0 0 0 false false by rw [tzA, HQ1.out]; simp only []; rw [HQ2.out]; rfl)
      clear HQ1 HQ2
      go_wp2_with fail
      refine bodyPost_ret (results_six rfl _ _ _) rfl ?_
      rw [HF.out]
      exact ⟨rfl, hb2⟩
    | true =>
      rcases s2 with _ | ⟨c2, r2⟩
      · have HF := Lib.hid (show tzEval last sec (tzA s) = tzV sn (-o1) last 9223372036854775807 false true by rw [tzA, HQ1.out]; simp only []; rw [HQ2.out]; rfl)
        clear HQ1 HQ2
        go_wp2_with fail
        refine bodyPost_ret (results_six rfl _ _ _) rfl ?_
        rw [HF.out]
        exact ⟨rfl, hb2⟩
      · have hz2 : ((r2.length : Int) + 1 == 0) = false := by rw [beq_eq_false_iff_ne]; omega
        rcases comma_cases c2 with ⟨rfl, hc, _⟩ | ⟨hc', hc, _⟩
        · have HF := Lib.hid (show tzEval last sec (tzA s) = tzV sn (-o1) last 9223372036854775807 false true by rw [tzA, HQ1.out]; simp only []; rw [HQ2.out]; rfl)
          clear HQ1 HQ2
          go_wp2_with fail
          refine bodyPost_ret (results_six rfl _ _ _) rfl ?_
          rw [HF.out]
          exact ⟨rfl, hb2⟩
        · have HP := Lib.hid (show tzA s = tzB sn (-o1) (c2 :: r2) by rw [tzA, HQ1.out]; simp only []; rw [HQ2.out]; simp only []; rw [if_neg (by simp [hc'])])
          clear HQ1 HQ2 hc'
          have hl20 : (c2 :: r2).length ≤ 4294967296 := by omega
          obtain ⟨dn, s3, ok3, hq3⟩ : ∃ n r ok, nameF (c2 :: r2) = (n, r, ok) := ⟨_, _, _, rfl⟩
          have HN2 := Lib.hid (name_call _ hl20 dn s3 ok3 hq3)
          have hl3 := name_len' _ _ _ _ hq3
          have HQ3 := Lib.hid hq3
          clear hq3
          go_wp2_with fail
          refine (HN2.out _).mono ?_
          rintro e w3 ⟨rfl, hb3'⟩
          have hb3 : Below w.heap.size w w3 := hb2.trans (hb3'.mono hb2.size)
          clear HN2 hb3' hb2 hz2 hc
          cases ok3 with
          | false =>
            have HF := Lib.hid (show tzEval last sec (tzA s) = tzV [] 0 0 0 false false by rw [HP.out, tzB, HQ3.out]; rfl)
            clear HP HQ3
            go_wp2_with fail
            refine bodyPost_ret (results_six rfl _ _ _) rfl ?_
            rw [HF.out]
            exact ⟨rfl, hb3⟩
          | true =>
            go_upto_if 60 with fail
            go_cut [0, 11, 15] from 61 (fun s0 s11 s15 W => ∃ (l3 : Bs) (dd : Int) (ok4 : Bool), s0 = .string (S l3) ∧ s11 = .bool ok4 ∧ s15 = .int .i64 dd ∧ Below w.heap.size w W ∧ (l3.length ≤ 4294967296 ∧ -1000000 ≤ dd ∧ dd ≤ 1000000) ∧ Hid (tzA s = if ok4 then tzC sn (-o1) dn dd l3 else none))
            case first =>
              rcases s3 with _ | ⟨c3, r3⟩
              · have HF := Lib.hid (show tzA s = tzC sn (-o1) dn (-o1 + 3600) [] by rw [HP.out, tzB, HQ3.out]; rfl)
                clear HP HQ3
                go_wp2_with fail
                go_meet
                case rel => exact ⟨[], -o1 + 3600, true, rfl, rfl, rfl, hb3, ⟨by simp, by omega, by omega⟩, HF⟩
              · have hz3 : ((r3.length : Int) + 1 == 0) = false := by rw [beq_eq_false_iff_ne]; omega
                rcases comma_cases c3 with ⟨rfl, hc, _⟩ | ⟨hc', hc, _⟩
                · have HF := Lib.hid (show tzA s = tzC sn (-o1) dn (-o1 + 3600) (44 :: r3) by rw [HP.out, tzB, HQ3.out]; rfl)
                  clear HP HQ3
                  go_wp2_with fail
                  go_meet
                  case rel => exact ⟨44 :: r3, -o1 + 3600, true, rfl, rfl, rfl, hb3, ⟨by omega, by omega, by omega⟩, HF⟩
                · obtain ⟨o2, s4, ok4, hq4⟩ : ∃ n r ok, offF (c3 :: r3) = (n, r, ok) := ⟨_, _, _, rfl⟩
                  have HO2 := Lib.hid (off_call _ o2 s4 ok4 hq4)
                  obtain ⟨ho20, ho21, hl4⟩ := off_call' _ _ _ _ hq4
                  have HF := Lib.hid (show tzA s = if ok4 = true then tzC sn (-o1) dn (-o2) s4 else none by
                    rw [HP.out, tzB, HQ3.out]; simp only []; rw [if_neg (by simp [hc']), hq4]; cases ok4 <;> rfl)
                  clear HP HQ3 hq4 hc'
                  go_wp2_with fail
                  refine (HO2.out _).mono ?_
                  rintro e w4 ⟨rfl, hb4'⟩
                  have hb4 : Below w.heap.size w w4 := hb3.trans (hb4'.mono hb3.size)
                  clear HO2 hb4' hb3
                  go_wp2_with fail
                  go_meet
                  case rel => exact ⟨s4, -o2, ok4, rfl, rfl, rfl, hb4, ⟨by omega, by omega, by omega⟩, HF⟩
            case rest =>
              clear HP HQ3 hb3
              obtain ⟨l3, dd, ok4, rfl, rfl, rfl, hb3, ⟨hl30, hdd0, hdd1⟩, HP⟩ := hcut
              cases ok4 with
              | false =>
                have HF := Lib.hid (show tzEval last sec (tzA s) = tzV [] 0 0 0 false false by rw [HP.out]; rfl)
                clear HP
                go_wp2_with fail
                refine bodyPost_ret (results_six rfl _ _ _) rfl ?_
                rw [HF.out]
                exact ⟨rfl, hb3⟩
              | true =>
                go_upto_if 83 with fail
                go_cut [0] from 84 (fun s0 W => ∃ (c4 : UInt8) (l4 : Bs), s0 = .string (S (c4 :: l4)) ∧ Below w.heap.size w W ∧ Hid (tzA s = if c4 = 44 ∨ c4 = 59 then tzR1 sn (-o1) dn dd l4 else none))
                case first =>
                  rcases l3 with _ | ⟨c4, l4⟩
                  · have HF := Lib.hid (show tzA s = if (44 : UInt8) = 44 ∨ (44 : UInt8) = 59 then tzR1 sn (-o1) dn dd tzDflt.tail else none by rw [HP.out, if_pos rfl]; rfl)
                    clear HP
                    go_wp2_with fail
                    go_meet
                    case rel => exact ⟨44, tzDflt.tail, rfl, hb3, HF⟩
                  · have HF := Lib.hid (show tzA s = if c4 = 44 ∨ c4 = 59 then tzR1 sn (-o1) dn dd l4 else none by
                      rw [HP.out, if_pos rfl, tzC_cons])
                    have hz4 : ((l4.length : Int) + 1 == 0) = false := by rw [beq_eq_false_iff_ne]; omega
                    clear HP
                    go_wp2_with fail
                    go_meet
                    case rel => exact ⟨c4, l4, rfl, hb3, HF⟩
                case rest =>
                  clear HP hb3
                  obtain ⟨c4, l4, rfl, hb3, HP⟩ := hcut
                  go_upto_region 21 with fail
                  go_cut [91] from 92 (fun s91 W => ∃ b : Bool, s91 = .bool b ∧ Below w.heap.size w W ∧ Hid (tzA s = if b then none else tzR1 sn (-o1) dn dd l4))
                  case first =>
                    rcases comma_cases c4 with ⟨rfl, _, hc⟩ | ⟨hc', _, hc⟩
                    · have HF := Lib.hid (show tzA s = tzR1 sn (-o1) dn dd l4 by rw [HP.out]; rfl)
                      clear HP
                      go_wp2_with fail
                      go_meet
                      case rel => exact ⟨false, rfl, hb3, HF⟩
                    · rcases semi_cases c4 with ⟨rfl, hd⟩ | ⟨hd', hd⟩
                      · have HF := Lib.hid (show tzA s = tzR1 sn (-o1) dn dd l4 by rw [HP.out]; rfl)
                        clear HP hc'
                        go_wp2_with fail
                        go_meet
                        case rel => exact ⟨false, rfl, hb3, HF⟩
                      · have HF := Lib.hid (show tzA s = none by rw [HP.out, if_neg (by simp [hc', hd'])])
                        clear HP hc' hd'
                        go_wp2_with fail
                        go_meet
                        case rel => exact ⟨true, rfl, hb3, HF⟩
                  case rest =>
                    clear HP hb3
                    obtain ⟨b, rfl, hb3, HP⟩ := hcut
                    cases b with
                    | true =>
                      have HF := Lib.hid (show tzEval last sec (tzA s) = tzV [] 0 0 0 false false by rw [HP.out]; rfl)
                      clear HP
                      go_wp2_with fail
                      refine bodyPost_ret (results_six rfl _ _ _) rfl ?_
                      rw [HF.out]
                      exact ⟨rfl, hb3⟩
                    | false =>
                      obtain ⟨r1, s5, ok5, hq5⟩ : ∃ n r ok, ruleF l4 = (n, r, ok) := ⟨_, _, _, rfl⟩
                      have HR1 := Lib.hid (rule_call _ _ _ _ hq5)
                      have HQ5 := Lib.hid hq5
                      clear hq5
                      go_wp2_with fail
                      refine (HR1.out _).mono ?_
                      rintro e w5 ⟨rfl, hb5'⟩
                      have hsz := hb3.size
                      have B5a : Blk w5 wc.heap.size 103 (ruC noRu.1) := ((Blk.new wc _ _ _ rfl).alloc _).below hb5' (by simp; omega)
                      have B5b : Blk w5 (wc.heap.size + 1) 103 (ruC noRu.1) := (Blk.new (wc.alloc _) _ _ _ (by simp)).below hb5' (by simp)
                      have hb5 : Below w.heap.size w w5 := ((hb3.alloc hsz _).alloc (by simp; omega) _).trans (hb5'.mono (by simp; omega))
                      clear hb5' hb3 HR1
                      generalize wc.heap.size = g at *
                      obtain ⟨ca0, ca1, ca2, ca3, ca4, fa⟩ := B5a.ru
                      unfold ruA
                      go_upto_region 26 with fail
                      change Code.wp _ _ _ _ (ruPut w5 g r1)
                      clear ca0 ca1 ca2 ca3 ca4 fa
                      have B6a := B5a.put r1
                      have B6b := B5b.putFar (k := g) (by simp) r1
                      have hb6 := ruPut_below hb5 (by omega : w.heap.size ≤ g) r1
                      clear B5a B5b hb5
                      generalize ruPut w5 g r1 = w6 at B6a B6b hb6 ⊢
                      go_cut [111] from 112 (fun s111 W => ∃ b : Bool, s111 = .bool b ∧ (Blk W g 103 (ruC r1) ∧ Blk W (g + 1) 103 (ruC noRu.1) ∧ Below w.heap.size w W) ∧ Hid (if b then tzA s = none else ∃ l5, s5 = 44 :: l5 ∧ ruFine r1 ∧ tzA s = tzR2 sn (-o1) dn dd r1 l5))
                      case first =>
                        cases ok5 with
                        | false =>
                          have HF := Lib.hid (show tzA s = none by rw [HP.out]; simp only [Bool.false_eq_true, if_false]; rw [tzR1, HQ5.out])
                          clear HP HQ5
                          go_wp2_with fail
                          go_meet
                          case rel => exact ⟨true, rfl, ⟨B6a, B6b, hb6⟩, HF⟩
                        | true =>
                          have hfine := Lib.hid (ruleF_fine _ _ _ HQ5.out)
                          have HP2 := Lib.hid (show tzA s = if s5.head? = some 44 then tzR2 sn (-o1) dn dd r1 s5.tail else none by rw [HP.out]; simp only [Bool.false_eq_true, if_false]; rw [tzR1, HQ5.out])
                          clear HP HQ5
                          rcases s5 with _ | ⟨c5, l5⟩
                          · have HF := Lib.hid (show tzA s = none by rw [HP2.out]; rfl)
                            clear HP2
                            go_wp2_with fail
                            go_meet
                            case rel => exact ⟨true, rfl, ⟨B6a, B6b, hb6⟩, HF⟩
                          · have hz5 : ((l5.length : Int) + 1 == 0) = false := by rw [beq_eq_false_iff_ne]; omega
                            rcases comma_cases c5 with ⟨rfl, _, hc⟩ | ⟨hc', _, hc⟩
                            · have HF := Lib.hid (show tzA s = tzR2 sn (-o1) dn dd r1 l5 by rw [HP2.out]; rfl)
                              clear HP2
                              go_wp2_with fail
                              go_meet
                              case rel => exact ⟨false, rfl, ⟨B6a, B6b, hb6⟩, ⟨l5, rfl, hfine.out, HF.out⟩⟩
                            · have HF := Lib.hid (show tzA s = none by rw [HP2.out, if_neg (by simp [hc'])])
                              clear HP2 hc'
                              go_wp2_with fail
                              go_meet
                              case rel => exact ⟨true, rfl, ⟨B6a, B6b, hb6⟩, HF⟩
                      case rest =>
                        clear HP HQ5 B6a B6b hb6
                        obtain ⟨b, rfl, ⟨B6a, B6b, hb6⟩, HP⟩ := hcut
                        cases b with
                        | true =>
                          have HF := Lib.hid (show tzEval last sec (tzA s) = tzV [] 0 0 0 false false by have := HP.out; simp only [if_true] at this; rw [this]; rfl)
                          clear HP
                          go_wp2_with fail
                          refine bodyPost_ret (results_six rfl _ _ _) rfl ?_
                          rw [HF.out]
                          exact ⟨rfl, hb6⟩
                        | false =>
                          have hP := HP.out
                          simp only [Bool.false_eq_true, if_false] at hP
                          obtain ⟨l5, rfl, hf1, hP2⟩ := hP
                          clear HP
                          have HP := Lib.hid hP2
                          have HF1 := Lib.hid hf1
                          clear hP2 hf1
                          obtain ⟨r2', s6, ok6, hq6⟩ : ∃ n r ok, ruleF l5 = (n, r, ok) := ⟨_, _, _, rfl⟩
                          have HR2 := Lib.hid (rule_call _ _ _ _ hq6)
                          have HQ6 := Lib.hid hq6
                          clear hq6
                          go_wp2_with fail
                          refine (HR2.out _).mono ?_
                          rintro e w7 ⟨rfl, hb7'⟩
                          have hlt := B6b.lt
                          have B7a := B6a.below hb7' (by omega)
                          have B7b := B6b.below hb7' (by omega)
                          have hb7 : Below w.heap.size w w7 := hb6.trans (hb7'.mono hb6.size)
                          clear hb7' hb6 B6a B6b HR2 hlt
                          obtain ⟨ca0, ca1, ca2, ca3, ca4, fa⟩ := B7b.ru
                          unfold ruA
                          go_upto_region 30 with fail
                          change Code.wp _ _ _ _ (ruPut w7 (g + 1) r2')
                          clear ca0 ca1 ca2 ca3 ca4 fa
                          have B8b := B7b.put r2'
                          have B8a := B7a.putFar (k := g + 1) (by simp) r2'
                          have hb8 := ruPut_below hb7 (by omega : w.heap.size ≤ g + 1) r2'
                          clear B7a B7b hb7
                          generalize ruPut w7 (g + 1) r2' = w8 at B8a B8b hb8 ⊢
                          cases ok6 with
                          | false =>
                            have HF := Lib.hid (show tzEval last sec (tzA s) = tzV [] 0 0 0 false false by rw [HP.out, tzR2, HQ6.out]; cases s6 <;> rfl)
                            clear HP HQ6
                            go_wp2_with fail
                            refine bodyPost_ret (results_six rfl _ _ _) rfl ?_
                            rw [HF.out]
                            exact ⟨rfl, hb8⟩
                          | true =>
                            have HF2 := Lib.hid (ruleF_fine _ _ _ HQ6.out)
                            rcases s6 with _ | ⟨c6, l6⟩
                            · have HE := Lib.hid (show tzEval last sec (tzA s) = tzSeason sn (-o1) dn dd (ruTime (tzYear sec) r1 (-o1)) (ruTime (tzYear sec) r2' dd) (tzYsec sec) (tzYst sec) by rw [HP.out, tzR2, HQ6.out]; rfl)
                              clear HP HQ6
                              have hab := absF_bd sec
                              have HDy := Lib.hid (show Ret 46 #[.int .u64 (IntKind.u64.wrap (wrap64 (wrap64 (sec + 62135596800) + 9223371966606163200)))] (.int .u64 (absF sec / 86400)) from days_ret (absF sec) hab.1 hab.2)
                              have hn0 : 0 ≤ absF sec / 86400 := by omega
                              have hn1 : absF sec / 86400 ≤ 300000000000000 := by omega
                              obtain ⟨hy0, hy1⟩ := year_bd _ hn0 hn1
                              obtain ⟨hd0, hd1⟩ := yday_bd (absF sec / 86400)
                              obtain ⟨ht0, ht1⟩ := tmod_bd sec
                              have hYY := yearYday_ret _ hn0 hn1
                              have hR1 := tzruleTime_ret (yearF (absF sec / 86400)) r1 (-o1) hy0 hy1 HF1.out (by omega) (by omega)
                              have hR2 := tzruleTime_ret (yearF (absF sec / 86400)) r2' dd hy0 hy1 HF2.out (by omega) (by omega)
                              have hE := HE.out
                              unfold tzYst tzYsec tzYear at hE
                              clear HE HF1 HF2 hab
                              generalize absF sec / 86400 = n at *
                              generalize yearF n = y at *
                              generalize ydayF n = yd at *
                              generalize hA : ruTime y r1 (-o1) = a at *
                              generalize hB : ruTime y r2' dd = b at *
                              clear hA hB
                              have HYY := Lib.hid hYY
                              have HR1 := Lib.hid hR1
                              have HR2 := Lib.hid hR2
                              have HE := Lib.hid hE
                              clear hYY hR1 hR2 hE
                              go_wp2_with fail
                              refine (HDy.out _).mono ?_
                              rintro e w9 ⟨rfl, hb9'⟩
                              have hlt := B8b.lt
                              have B9a := B8a.below hb9' (by omega)
                              have B9b := B8b.below hb9' (by omega)
                              have hb9 : Below w.heap.size w w9 := hb8.trans (hb9'.mono hb8.size)
                              clear hb9' hb8 B8a B8b HDy hlt
                              go_wp2_with fail
                              refine (HYY.out _).mono ?_
                              rintro e w10 ⟨rfl, hb10'⟩
                              have hlt := B9b.lt
                              have B10a := B9a.below hb10' (by omega)
                              have B10b := B9b.below hb10' (by omega)
                              have hb10 : Below w.heap.size w w10 := hb9.trans (hb10'.mono hb9.size)
                              clear hb10' hb9 B9a B9b HYY hlt
                              obtain ⟨ca0, ca1, ca2, ca3, ca4, _⟩ := B10a.ru
                              go_wp2_with fail
                              refine (HR1.out _).mono ?_
                              rintro e w11 ⟨rfl, hb11'⟩
                              have hlt := B10b.lt
                              have B11b := B10b.below hb11' (by omega)
                              have hb11 : Below w.heap.size w w11 := hb10.trans (hb11'.mono hb10.size)
                              clear hb11' hb10 B10a B10b HR1 hlt ca0 ca1 ca2 ca3 ca4
                              obtain ⟨ca0, ca1, ca2, ca3, ca4, _⟩ := B11b.ru
                              go_wp2_with fail
                              refine (HR2.out _).mono ?_
                              rintro e w12 ⟨rfl, hb12'⟩
                              have hb12 : Below w.heap.size w w12 := hb11.trans (hb12'.mono hb11.size)
                              clear hb12' hb11 B11b HR2 ca0 ca1 ca2 ca3 ca4
                              unfold tzSeason at HE
                              by_cases hba : b < a
                              · have hE := HE.out
                                rw [if_pos hba] at hE
                                unfold seas at hE
                                clear HE
                                by_cases h1 : (yd - 1) * 86400 + sec.tmod 86400 < b
                                · rw [if_pos h1] at hE
                                  have HE := Lib.hid hE
                                  clear hE
                                  go_wp2_with fail
                                  refine bodyPost_ret (results_six rfl _ _ _) rfl ?_
                                  rw [HE.out]
                                  exact ⟨rfl, hb12⟩
                                · rw [if_neg h1] at hE
                                  by_cases h2 : a ≤ (yd - 1) * 86400 + sec.tmod 86400
                                  · rw [if_pos h2] at hE
                                    have HE := Lib.hid hE
                                    clear hE
                                    go_wp2_with fail
                                    refine bodyPost_ret (results_six rfl _ _ _) rfl ?_
                                    rw [HE.out]
                                    exact ⟨rfl, hb12⟩
                                  · rw [if_neg h2] at hE
                                    have HE := Lib.hid hE
                                    clear hE
                                    go_wp2_with fail
                                    refine bodyPost_ret (results_six rfl _ _ _) rfl ?_
                                    rw [HE.out]
                                    exact ⟨rfl, hb12⟩
                              · have hE := HE.out
                                rw [if_neg hba] at hE
                                unfold seas at hE
                                clear HE
                                by_cases h1 : (yd - 1) * 86400 + sec.tmod 86400 < a
                                · rw [if_pos h1] at hE
                                  have HE := Lib.hid hE
                                  clear hE
                                  go_wp2_with fail
                                  refine bodyPost_ret (results_six rfl _ _ _) rfl ?_
                                  rw [HE.out]
                                  exact ⟨rfl, hb12⟩
                                · rw [if_neg h1] at hE
                                  by_cases h2 : b ≤ (yd - 1) * 86400 + sec.tmod 86400
                                  · rw [if_pos h2] at hE
                                    have HE := Lib.hid hE
                                    clear hE
                                    go_wp2_with fail
                                    refine bodyPost_ret (results_six rfl _ _ _) rfl ?_
                                    rw [HE.out]
                                    exact ⟨rfl, hb12⟩
                                  · rw [if_neg h2] at hE
                                    have HE := Lib.hid hE
                                    clear hE
                                    go_wp2_with fail
                                    refine bodyPost_ret (results_six rfl _ _ _) rfl ?_
                                    rw [HE.out]
                                    exact ⟨rfl, hb12⟩

                            · have hz6 : ((l6.length : Int) + 1 == 0) = false := by rw [beq_eq_false_iff_ne]; omega
                              have HF := Lib.hid (show tzEval last sec (tzA s) = tzV [] 0 0 0 false false by rw [HP.out, tzR2, HQ6.out]; rfl)
                              clear HP HQ6
                              go_wp2_with fail
                              refine bodyPost_ret (results_six rfl _ _ _) rfl ?_
                              rw [HF.out]
                              exact ⟨rfl, hb8⟩


end Go.Proofs.YtgmlclhdibajiaaDoor
