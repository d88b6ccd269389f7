/- The reference's At of a season. -/
import Derived.Test.YtcjibjggaleclaaSeason
import Derived.Test.YtcjibjggaleclaaSpecYear
import Derived.Test.YtcjibjggaleclaaSpecRTW
namespace Go.Proofs.Ytcjibjggaleclaa
open Go.RowKit

/-- a season's box, and the place of the answer beside it -/
def InS2 (w : World) (s : Se) (W : World) : Prop := InS w s W ∧ Blk W (w.heap.size + 1) 23 #[.string ⟨#[]⟩, .int .i64 0, .bool false]
theorem InS2.all {w W : World} {s : Se} (h : InS2 w s W) : (W.cell? ⟨w.heap.size, 0, none⟩ = some (.string (S s.n1)) ∧ W.cell? ⟨w.heap.size, 1, none⟩ = some (.int .i64 s.o1) ∧ W.cell? ⟨w.heap.size, 2, none⟩ = some (.bool s.d1) ∧ W.cell? ⟨w.heap.size, 3, none⟩ = some (.string (S s.n2)) ∧ W.cell? ⟨w.heap.size, 4, none⟩ = some (.int .i64 s.o2) ∧ W.cell? ⟨w.heap.size, 5, none⟩ = some (.bool s.d2) ∧ W.cell? ⟨w.heap.size, 6, none⟩ = some (.int .i64 s.r1.kind) ∧ W.cell? ⟨w.heap.size, 7, none⟩ = some (.int .i64 s.r1.day) ∧ W.cell? ⟨w.heap.size, 8, none⟩ = some (.int .i64 s.r1.week) ∧ W.cell? ⟨w.heap.size, 9, none⟩ = some (.int .i64 s.r1.mon) ∧ W.cell? ⟨w.heap.size, 10, none⟩ = some (.int .i64 s.r1.time) ∧ W.cell? ⟨w.heap.size, 11, none⟩ = some (.int .i64 s.r2.kind) ∧ W.cell? ⟨w.heap.size, 12, none⟩ = some (.int .i64 s.r2.day) ∧ W.cell? ⟨w.heap.size, 13, none⟩ = some (.int .i64 s.r2.week) ∧ W.cell? ⟨w.heap.size, 14, none⟩ = some (.int .i64 s.r2.mon) ∧ W.cell? ⟨w.heap.size, 15, none⟩ = some (.int .i64 s.r2.time)) ∧ InS2 w s W := ⟨h.1.all.1, h⟩
theorem InS2.drew {w W : World} {s : Se} (h : InS2 w s W) : InS2 w s W.drew := ⟨h.1.drew, h.2⟩
theorem InS2.below {w W W' : World} {s : Se} (h : InS2 w s W) (hb : Below W.heap.size W W') : InS2 w s W' := ⟨h.1.below hb, h.2.below hb h.2.lt⟩
theorem InS2.new (w : World) (s : Se) : InS2 w s ((w.alloc (.cells #[.string (S s.n1), .int .i64 s.o1, .bool s.d1, .string (S s.n2), .int .i64 s.o2, .bool s.d2, .int .i64 s.r1.kind, .int .i64 s.r1.day, .int .i64 s.r1.week, .int .i64 s.r1.mon, .int .i64 s.r1.time, .int .i64 s.r2.kind, .int .i64 s.r2.day, .int .i64 s.r2.week, .int .i64 s.r2.mon, .int .i64 s.r2.time] 28)).alloc (.cells #[.string ⟨#[]⟩, .int .i64 0, .bool false] 23)) :=
  ⟨⟨(InS.new w s).1.alloc _, (InS.new w s).2.alloc (by simp) _⟩, Blk.new (w.alloc _) _ _ _ (by simp)⟩
theorem Ret.se2At {f : FuncId} {args : Array Value} {v : Value} (h : Ret f args v) (w : World) (s : Se) (W : World) (hB : InS2 w s W) : Calls Try.prog f args W fun e W' => e = .returned v ∧ InS2 w s W' := (h W).mono fun _ _ ⟨he, hb⟩ => ⟨he, hB.below hb⟩

theorem specRT_bd (y : Int) (r : Ru) (off : Int) (h : ruOk r = true) (h0 : -86400 ≤ off) (h1 : off ≤ 86400) : -1000000 ≤ specRT y r off ∧ specRT y r off ≤ 40000000 := by
  obtain ⟨a, b, _, _, _, _, g, i, _⟩ := ruOk_bd r h
  have hd : -1 ≤ specDay y r ∧ specDay y r ≤ 400 := by
    unfold specDay
    by_cases k0 : r.kind = 0
    · rw [if_pos k0]
      unfold ruOk at h
      rw [if_pos k0] at h
      simp [inB_iff] at h
      split <;> omega
    · rw [if_neg k0]
      by_cases k1 : r.kind = 1
      · rw [if_pos k1]
        unfold ruOk at h
        rw [if_neg k0, if_pos k1] at h
        simp [inB_iff] at h
        omega
      · rw [if_neg k1]
        unfold ruOk at h
        rw [if_neg k0, if_neg k1] at h
        split at h
        · simp [inB_iff] at h
          have hf : 0 ≤ firstF y r ∧ firstF y r ≤ 6 := by unfold firstF; omega
          have hc := cum_bd y r.mon (by omega) (by omega)
          have hm := dim_bd y r.mon
          have hl : 0 ≤ lastWk (dim y r.mon) r.week (firstF y r) ∧ lastWk (dim y r.mon) r.week (firstF y r) ≤ 40 := by unfold lastWk; split <;> omega
          omega
        · simp at h
  unfold specRT
  omega
theorem ystF_bd (sec : Int) (h0 : 0 ≤ sec) (h1 : sec ≤ 253402300799) : 0 ≤ ystF (tzYear sec) ∧ ystF (tzYear sec) ≤ 253402300799 := by
  obtain ⟨a, b, c, d, e, f⟩ := year_law sec h0 h1
  have := ystF_mono 1970 (tzYear sec) e
  have e0 : ystF 1970 = 0 := by decide
  omega

/-- whether daylight saving time is in use -/
def dstB (a b sec : Int) : Bool := if b < a then decide (a ≤ sec ∨ sec < b) else decide (a ≤ sec ∧ sec < b)
def frF (s : Se) (sec : Int) : Int := ystF (tzYear sec) + specRT (tzYear sec) s.r1 s.o1
def toF (s : Se) (sec : Int) : Int := ystF (tzYear sec) + specRT (tzYear sec) s.r2 s.o2
def zonV (n : Bs) (o : Int) (d : Bool) : Value := .agg #[.string (S n), .int .i64 o, .bool d]
def atV (s : Se) (sec : Int) : Value := if dstB (frF s sec) (toF s sec) sec then zonV s.n2 s.o2 true else zonV s.n1 s.o1 false
theorem dst_cases (a b sec : Int) : (b < a ∧ a ≤ sec ∧ ¬ sec < b ∧ dstB a b sec = true) ∨ (b < a ∧ ¬ a ≤ sec ∧ sec < b ∧ dstB a b sec = true) ∨ (b < a ∧ ¬ a ≤ sec ∧ ¬ sec < b ∧ dstB a b sec = false) ∨
    (¬ b < a ∧ a ≤ sec ∧ sec < b ∧ dstB a b sec = true) ∨ (¬ b < a ∧ a ≤ sec ∧ ¬ sec < b ∧ dstB a b sec = false) ∨ (¬ b < a ∧ ¬ a ≤ sec ∧ sec < b ∧ dstB a b sec = false) := by
  unfold dstB
  by_cases h1 : b < a
  · simp only [if_pos h1, decide_eq_true_eq, decide_eq_false_iff_not]
    omega
  · simp only [if_neg h1, decide_eq_true_eq, decide_eq_false_iff_not]
    omega

set_option maxRecDepth 100000 in
set_option maxHeartbeats 16000000 in
theorem At_ret (s : Se) (sec : Int) (h : seOk s = true) (h0 : 0 ≤ sec) (h1 : sec ≤ 253402300799) : Ret 12 #[seA s, .int .i64 sec] (atV s sec) := by
  intro w
  obtain ⟨hn1, hn2, ⟨ho1, ho1'⟩, ⟨ho2, ho2'⟩, hr1, hr2⟩ := seOk_all s h
  obtain ⟨_, _, _, _, hY0, hY1⟩ := year_law sec h0 h1
  have HY := Lib.hid (YearOf_ret sec h0 h1)
  have HS := Lib.hid (YearStart_ret (tzYear sec) (by omega) (by omega))
  have HR1 := Lib.hid (specRuleTime_ret (tzYear sec) s.r1 s.o1 (by omega) hY1 hr1 (by omega) (by omega))
  have HR2 := Lib.hid (specRuleTime_ret (tzYear sec) s.r2 s.o2 (by omega) hY1 hr2 (by omega) (by omega))
  obtain ⟨by0, by1⟩ := ystF_bd sec h0 h1
  obtain ⟨ba0, ba1⟩ := specRT_bd (tzYear sec) s.r1 s.o1 hr1 ho1 ho1'
  obtain ⟨bb0, bb1⟩ := specRT_bd (tzYear sec) s.r2 s.o2 hr2 ho2 ho2'
  have HV := Lib.hid (show atV s sec = if dstB (ystF (tzYear sec) + specRT (tzYear sec) s.r1 s.o1) (ystF (tzYear sec) + specRT (tzYear sec) s.r2 s.o2) sec then zonV s.n2 s.o2 true else zonV s.n1 s.o1 false from rfl)
  have hcs := dst_cases (ystF (tzYear sec) + specRT (tzYear sec) s.r1 s.o1) (ystF (tzYear sec) + specRT (tzYear sec) s.r2 s.o2) sec
  generalize atV s sec = V at *
  generalize specRT (tzYear sec) s.r1 s.o1 = a at *
  generalize specRT (tzYear sec) s.r2 s.o2 = b at *
  generalize ystF (tzYear sec) = ys at *
  generalize tzYear sec = Y at *
  have v1 : IntKind.i64.wrap (ys + a) = ys + a := IntWalk.i64_in _ (by omega)
  have v2 : IntKind.i64.wrap (ys + b) = ys + b := IntWalk.i64_in _ (by omega)
  have HW1 := Lib.hid v1
  have HW2 := Lib.hid v2
  clear v1 v2 h hn1 hn2 hr1 hr2
  have HX0 := InS2.new w s
  obtain ⟨⟨c0, c1, c2, c3, c4, c5, c6, c7, c8, c9, c10, c11, c12, c13, c14, c15⟩, _⟩ := HX0.all
  unfold seA ruA at *
  go_enter Try.func12, Try.ntmps12
  go_wp2_with fail
  refine (HY.out.se2At w s _ HX0).mono ?_
  rintro e w1 ⟨rfl, HX1⟩
  clear c0 c1 c2 c3 c4 c5 c6 c7 c8 c9 c10 c11 c12 c13 c14 c15
  obtain ⟨⟨c0, c1, c2, c3, c4, c5, c6, c7, c8, c9, c10, c11, c12, c13, c14, c15⟩, _⟩ := HX1.all
  have hlt1 := HX1.1.1.lt
  go_upto_region 2 with fail
  have v1 := HW1.out
  go_region_held3 (fun w' => (w'.cell? ⟨w.heap.size, 0, none⟩ = some (.string (S s.n1)) ∧ w'.cell? ⟨w.heap.size, 1, none⟩ = some (.int .i64 s.o1) ∧ w'.cell? ⟨w.heap.size, 2, none⟩ = some (.bool s.d1) ∧ w'.cell? ⟨w.heap.size, 3, none⟩ = some (.string (S s.n2)) ∧ w'.cell? ⟨w.heap.size, 4, none⟩ = some (.int .i64 s.o2) ∧ w'.cell? ⟨w.heap.size, 5, none⟩ = some (.bool s.d2) ∧ w'.cell? ⟨w.heap.size, 6, none⟩ = some (.int .i64 s.r1.kind) ∧ w'.cell? ⟨w.heap.size, 7, none⟩ = some (.int .i64 s.r1.day) ∧ w'.cell? ⟨w.heap.size, 8, none⟩ = some (.int .i64 s.r1.week) ∧ w'.cell? ⟨w.heap.size, 9, none⟩ = some (.int .i64 s.r1.mon) ∧ w'.cell? ⟨w.heap.size, 10, none⟩ = some (.int .i64 s.r1.time) ∧ w'.cell? ⟨w.heap.size, 11, none⟩ = some (.int .i64 s.r2.kind) ∧ w'.cell? ⟨w.heap.size, 12, none⟩ = some (.int .i64 s.r2.day) ∧ w'.cell? ⟨w.heap.size, 13, none⟩ = some (.int .i64 s.r2.week) ∧ w'.cell? ⟨w.heap.size, 14, none⟩ = some (.int .i64 s.r2.mon) ∧ w'.cell? ⟨w.heap.size, 15, none⟩ = some (.int .i64 s.r2.time)) ∧ InS2 w s w')
    (first | exact (InS2.drew (by assumption)).all | exact InS2.all (by assumption))
    (first | (go_at_call 22; ((with_reducible refine (HS.out.se2At w s _ ?_).mono ?_); (simp [*]); rintro e w' ⟨rfl, hB'⟩)) | (go_at_call 23; ((with_reducible refine (HR1.out.se2At w s _ ?_).mono ?_); (simp [*]); rintro e w' ⟨rfl, hB'⟩)))
  have HX2 := hB'
  clear c0 c1 c2 c3 c4 c5 c6 c7 c8 c9 c10 c11 c12 c13 c14 c15 hB' v1 hlt1 HX1
  obtain ⟨⟨c0, c1, c2, c3, c4, c5, c6, c7, c8, c9, c10, c11, c12, c13, c14, c15⟩, _⟩ := HX2.all
  go_upto_region 3 with fail
  have v2 := HW2.out
  go_region_held3 (fun w' => (w'.cell? ⟨w.heap.size, 0, none⟩ = some (.string (S s.n1)) ∧ w'.cell? ⟨w.heap.size, 1, none⟩ = some (.int .i64 s.o1) ∧ w'.cell? ⟨w.heap.size, 2, none⟩ = some (.bool s.d1) ∧ w'.cell? ⟨w.heap.size, 3, none⟩ = some (.string (S s.n2)) ∧ w'.cell? ⟨w.heap.size, 4, none⟩ = some (.int .i64 s.o2) ∧ w'.cell? ⟨w.heap.size, 5, none⟩ = some (.bool s.d2) ∧ w'.cell? ⟨w.heap.size, 6, none⟩ = some (.int .i64 s.r1.kind) ∧ w'.cell? ⟨w.heap.size, 7, none⟩ = some (.int .i64 s.r1.day) ∧ w'.cell? ⟨w.heap.size, 8, none⟩ = some (.int .i64 s.r1.week) ∧ w'.cell? ⟨w.heap.size, 9, none⟩ = some (.int .i64 s.r1.mon) ∧ w'.cell? ⟨w.heap.size, 10, none⟩ = some (.int .i64 s.r1.time) ∧ w'.cell? ⟨w.heap.size, 11, none⟩ = some (.int .i64 s.r2.kind) ∧ w'.cell? ⟨w.heap.size, 12, none⟩ = some (.int .i64 s.r2.day) ∧ w'.cell? ⟨w.heap.size, 13, none⟩ = some (.int .i64 s.r2.week) ∧ w'.cell? ⟨w.heap.size, 14, none⟩ = some (.int .i64 s.r2.mon) ∧ w'.cell? ⟨w.heap.size, 15, none⟩ = some (.int .i64 s.r2.time)) ∧ InS2 w s w')
    (first | exact (InS2.drew (by assumption)).all | exact InS2.all (by assumption))
    (first | (go_at_call 22; ((with_reducible refine (HS.out.se2At w s _ ?_).mono ?_); (simp [*]); rintro e w' ⟨rfl, hB'⟩)) | (go_at_call 23; ((with_reducible refine (HR2.out.se2At w s _ ?_).mono ?_); (simp [*]); rintro e w' ⟨rfl, hB'⟩)))
  have HX3 := hB'
  clear c0 c1 c2 c3 c4 c5 c6 c7 c8 c9 c10 c11 c12 c13 c14 c15 hB' v2 HX2
  obtain ⟨⟨c0, c1, c2, c3, c4, c5, c6, c7, c8, c9, c10, c11, c12, c13, c14, c15⟩, _⟩ := HX3.all
  obtain ⟨r0, r1, r2, rf⟩ := HX3.2.three
  have hlt1 := HX3.1.1.lt
  have hlt2 := HX3.2.lt
  rcases hcs with ⟨k1, k2, k3, kd⟩ | ⟨k1, k2, k3, kd⟩ | ⟨k1, k2, k3, kd⟩ | ⟨k1, k2, k3, kd⟩ | ⟨k1, k2, k3, kd⟩ | ⟨k1, k2, k3, kd⟩
  · have HU0 := HV.out
    rw [kd] at HU0
    have HU := Lib.hid HU0
    clear HV kd HU0
    go_wp2_with fail
    refine bodyPost_ret (v := .agg #[.string (S s.n2), .int .i64 s.o2, .bool true]) (by simp only [results, Try.results12]; go_simp) rfl ?_
    rw [HU.out]
    exact ⟨rfl, by have hq := HX3.1.2; go_grown⟩
  · have HU0 := HV.out
    rw [kd] at HU0
    have HU := Lib.hid HU0
    clear HV kd HU0
    go_wp2_with fail
    refine bodyPost_ret (v := .agg #[.string (S s.n2), .int .i64 s.o2, .bool true]) (by simp only [results, Try.results12]; go_simp) rfl ?_
    rw [HU.out]
    exact ⟨rfl, by have hq := HX3.1.2; go_grown⟩
  · have HU0 := HV.out
    rw [kd] at HU0
    have HU := Lib.hid HU0
    clear HV kd HU0
    go_wp2_with fail
    refine bodyPost_ret (v := .agg #[.string (S s.n1), .int .i64 s.o1, .bool false]) (by simp only [results, Try.results12]; go_simp) rfl ?_
    rw [HU.out]
    exact ⟨rfl, by have hq := HX3.1.2; go_grown⟩
  · have HU0 := HV.out
    rw [kd] at HU0
    have HU := Lib.hid HU0
    clear HV kd HU0
    go_wp2_with fail
    refine bodyPost_ret (v := .agg #[.string (S s.n2), .int .i64 s.o2, .bool true]) (by simp only [results, Try.results12]; go_simp) rfl ?_
    rw [HU.out]
    exact ⟨rfl, by have hq := HX3.1.2; go_grown⟩
  · have HU0 := HV.out
    rw [kd] at HU0
    have HU := Lib.hid HU0
    clear HV kd HU0
    go_wp2_with fail
    refine bodyPost_ret (v := .agg #[.string (S s.n1), .int .i64 s.o1, .bool false]) (by simp only [results, Try.results12]; go_simp) rfl ?_
    rw [HU.out]
    exact ⟨rfl, by have hq := HX3.1.2; go_grown⟩
  · have HU0 := HV.out
    rw [kd] at HU0
    have HU := Lib.hid HU0
    clear HV kd HU0
    go_wp2_with fail
    refine bodyPost_ret (v := .agg #[.string (S s.n1), .int .i64 s.o1, .bool false]) (by simp only [results, Try.results12]; go_simp) rfl ?_
    rw [HU.out]
    exact ⟨rfl, by have hq := HX3.1.2; go_grown⟩
end Go.Proofs.Ytcjibjggaleclaa
