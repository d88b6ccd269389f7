/- FnTzsetHour: its walk. -/
import Derived.Test.YtcjibjggaleclaaLawTzW
import Derived.Deep.DeepCutAuto
import Derived.Deep.RegionHeld3
namespace Go.Proofs.Ytcjibjggaleclaa
open Go.RowKit

def boxH (g k : Nat) (s s3 : Se) : List (Nat × TypeId × Array Value) := (k, 28, seC s3) :: boxes4 g s
theorem boxH_s {w W : World} {g k : Nat} {s s3 : Se} (h : Bxs w W (boxH g k s s3)) : (W.cell? ⟨k, 0, none⟩ = some (.string (S s3.n1)) ∧ W.cell? ⟨k, 1, none⟩ = some (.int .i64 s3.o1) ∧ W.cell? ⟨k, 2, none⟩ = some (.bool s3.d1) ∧ W.cell? ⟨k, 3, none⟩ = some (.string (S s3.n2)) ∧ W.cell? ⟨k, 4, none⟩ = some (.int .i64 s3.o2) ∧ W.cell? ⟨k, 5, none⟩ = some (.bool s3.d2) ∧ W.cell? ⟨k, 6, none⟩ = some (.int .i64 s3.r1.kind) ∧ W.cell? ⟨k, 7, none⟩ = some (.int .i64 s3.r1.day) ∧ W.cell? ⟨k, 8, none⟩ = some (.int .i64 s3.r1.week) ∧ W.cell? ⟨k, 9, none⟩ = some (.int .i64 s3.r1.mon) ∧ W.cell? ⟨k, 10, none⟩ = some (.int .i64 s3.r1.time) ∧ W.cell? ⟨k, 11, none⟩ = some (.int .i64 s3.r2.kind) ∧ W.cell? ⟨k, 12, none⟩ = some (.int .i64 s3.r2.day) ∧ W.cell? ⟨k, 13, none⟩ = some (.int .i64 s3.r2.week) ∧ W.cell? ⟨k, 14, none⟩ = some (.int .i64 s3.r2.mon) ∧ W.cell? ⟨k, 15, none⟩ = some (.int .i64 s3.r2.time)) ∧ Bxs w W (boxH g k s s3) :=
  ⟨sc_of h (by simp [boxH]), h⟩
theorem boxH_13 {w W : World} {k : Nat} {s s3 : Se} (h : Bxs w W (boxH w.heap.size k s s3)) : (W.cell? ⟨w.heap.size, 0, none⟩ = some (.string (S s.n1)) ∧ W.cell? ⟨w.heap.size, 1, none⟩ = some (.int .i64 s.o1) ∧ W.cell? ⟨w.heap.size + 1, 0, none⟩ = some (.string (S s.n2)) ∧ W.cell? ⟨w.heap.size + 2, 0, none⟩ = some (.int .i64 s.r1.kind) ∧ W.cell? ⟨w.heap.size + 2, 1, none⟩ = some (.int .i64 s.r1.day) ∧ W.cell? ⟨w.heap.size + 2, 2, none⟩ = some (.int .i64 s.r1.week) ∧ W.cell? ⟨w.heap.size + 2, 3, none⟩ = some (.int .i64 s.r1.mon) ∧ W.cell? ⟨w.heap.size + 2, 4, none⟩ = some (.int .i64 s.r1.time) ∧ W.cell? ⟨w.heap.size + 3, 0, none⟩ = some (.int .i64 s.r2.kind) ∧ W.cell? ⟨w.heap.size + 3, 1, none⟩ = some (.int .i64 s.r2.day) ∧ W.cell? ⟨w.heap.size + 3, 2, none⟩ = some (.int .i64 s.r2.week) ∧ W.cell? ⟨w.heap.size + 3, 3, none⟩ = some (.int .i64 s.r2.mon) ∧ W.cell? ⟨w.heap.size + 3, 4, none⟩ = some (.int .i64 s.r2.time)) ∧ Bxs w W (boxH w.heap.size k s s3) := by
  have h4 : Cells4 w s W := (show Bxs w W ((k, 28, seC s3) :: boxes4 w.heap.size s) from h).tail.cells4
  obtain ⟨⟨x0, x1, _⟩, ⟨x3, _, _⟩, ⟨x6, x7, x8, x9, x10⟩, ⟨x11, x12, x13, x14, x15⟩⟩ := h4
  exact ⟨⟨x0, x1, x3, x6, x7, x8, x9, x10, x11, x12, x13, x14, x15⟩, h⟩
theorem boxHF_all {w W : World} {g k n : Nat} {s s3 : Se} {f : Fo} (h : Bxs w W ((n, 32, #[.string (S f.nm), .int .i64 f.off, .int .i64 f.st, .int .i64 f.en, .bool f.dst]) :: boxH g k s s3)) : ((W.cell? ⟨k, 0, none⟩ = some (.string (S s3.n1)) ∧ W.cell? ⟨k, 1, none⟩ = some (.int .i64 s3.o1) ∧ W.cell? ⟨k, 2, none⟩ = some (.bool s3.d1) ∧ W.cell? ⟨k, 3, none⟩ = some (.string (S s3.n2)) ∧ W.cell? ⟨k, 4, none⟩ = some (.int .i64 s3.o2) ∧ W.cell? ⟨k, 5, none⟩ = some (.bool s3.d2) ∧ W.cell? ⟨k, 6, none⟩ = some (.int .i64 s3.r1.kind) ∧ W.cell? ⟨k, 7, none⟩ = some (.int .i64 s3.r1.day) ∧ W.cell? ⟨k, 8, none⟩ = some (.int .i64 s3.r1.week) ∧ W.cell? ⟨k, 9, none⟩ = some (.int .i64 s3.r1.mon) ∧ W.cell? ⟨k, 10, none⟩ = some (.int .i64 s3.r1.time) ∧ W.cell? ⟨k, 11, none⟩ = some (.int .i64 s3.r2.kind) ∧ W.cell? ⟨k, 12, none⟩ = some (.int .i64 s3.r2.day) ∧ W.cell? ⟨k, 13, none⟩ = some (.int .i64 s3.r2.week) ∧ W.cell? ⟨k, 14, none⟩ = some (.int .i64 s3.r2.mon) ∧ W.cell? ⟨k, 15, none⟩ = some (.int .i64 s3.r2.time)) ∧ (W.cell? ⟨n, 0, none⟩ = some (.string (S f.nm)) ∧ W.cell? ⟨n, 1, none⟩ = some (.int .i64 f.off) ∧ W.cell? ⟨n, 2, none⟩ = some (.int .i64 f.st) ∧ W.cell? ⟨n, 3, none⟩ = some (.int .i64 f.en) ∧ W.cell? ⟨n, 4, none⟩ = some (.bool f.dst))) ∧ Bxs w W ((n, 32, #[.string (S f.nm), .int .i64 f.off, .int .i64 f.st, .int .i64 f.en, .bool f.dst]) :: boxH g k s s3) :=
  ⟨⟨sc_of h (by simp [boxH]), fc_of h (by simp)⟩, h⟩
theorem hourF_len (n1 : Bs) (o1 : Int) (n2 : Bs) (r1 r2 : Ru) (h1 : n1.length ≤ 100) (h2 : n2.length ≤ 100) : (hourF n1 o1 n2 r1 r2).length ≤ 1000 := by
  have a1 := nameT_len n1
  have a2 := nameT_len n2
  have a3 := clkT_len (-o1) false
  have a5 := ruT_len r1 false
  have a6 := ruT_len r2 false
  unfold hourF
  simp only [List.length_append, List.length_cons]
  omega
theorem Tz_hour (s : Se) (last sec : Int) (h : seOk s = true) (e : s.o2 = s.o1 + 3600) : Ret 8 #[.string (S (hourF s.n1 s.o1 s.n2 s.r1 s.r2)), .int .i64 last, .int .i64 sec] (.tuple #[foA (seFo s last sec), .bool true]) := by
  obtain ⟨hn1, hn2, ⟨a0, a1⟩, ⟨b0, b1⟩, hr1, hr2⟩ := seOk_all s h
  have hl := hourF_len s.n1 s.o1 s.n2 s.r1 s.r2 (brackB_len _ hn1).2 (brackB_len _ hn2).2
  have := implTzset_ret (hourF s.n1 s.o1 s.n2 s.r1 s.r2) (by omega) last sec
  rw [tzA_hour s.n1 s.o1 s.n2 s.r1 s.r2 hn1 hn2 a0 a1 hr1 hr2, ← e] at this
  exact this

set_option maxRecDepth 100000 in
set_option maxHeartbeats 32000000 in
theorem fnTzsetHour_walk (s : Se) (sec : Int) : Ret 3 #[zonV s.n1 s.o1 s.d1, zonV s.n2 s.o2 s.d2, ruA s.r1, ruA s.r2, .int .i64 sec] (.bool true) := by
  intro w
  have HX0 := boxes4_new w s
  obtain ⟨⟨d0, d1, d2⟩, ⟨d3, d4, d5⟩, ⟨d6, d7, d8, d9, d10⟩, ⟨d11, d12, d13, d14, d15⟩⟩ := HX0.cells4
  have Z1 := zzFits1_ret s.n1 s.o1 s.d1
  cases k1 : fits s.n1
  · rw [k1] at Z1
    have Z1 := Lib.hid Z1
    clear k1
    unfold zonV ruA at *
    go_enter Try.func3, Try.ntmps3
    go_wp2_with fail
    refine (Z1.out.bx HX0).mono ?_
    rintro e w1 ⟨rfl, HX1⟩
    clear d0 d1 d2 d3 d4 d5 d6 d7 d8 d9 d10 d11 d12 d13 d14 d15
    obtain ⟨⟨d0, d1, d2⟩, ⟨d3, d4, d5⟩, ⟨d6, d7, d8, d9, d10⟩, ⟨d11, d12, d13, d14, d15⟩⟩ := HX1.cells4
    have hlt1 := boxes4_lt HX1
    go_wp2_with fail
    go_ret
    exact ⟨rfl, HX1.1⟩
  rw [k1] at Z1
  have Z1 := Lib.hid Z1
  have Z2 := zzFits1_ret s.n2 s.o2 s.d2
  cases k2 : fits s.n2
  · rw [k2] at Z2
    have Z2 := Lib.hid Z2
    clear k1 k2
    unfold zonV ruA at *
    go_enter Try.func3, Try.ntmps3
    go_wp2_with fail
    refine (Z1.out.bx HX0).mono ?_
    rintro e w1 ⟨rfl, HX1⟩
    clear d0 d1 d2 d3 d4 d5 d6 d7 d8 d9 d10 d11 d12 d13 d14 d15
    obtain ⟨⟨d0, d1, d2⟩, ⟨d3, d4, d5⟩, ⟨d6, d7, d8, d9, d10⟩, ⟨d11, d12, d13, d14, d15⟩⟩ := HX1.cells4
    have hlt1 := boxes4_lt HX1
    go_wp2_with fail
    refine (Z2.out.bx HX1).mono ?_
    rintro e w2 ⟨rfl, HX2⟩
    clear d0 d1 d2 d3 d4 d5 d6 d7 d8 d9 d10 d11 d12 d13 d14 d15
    obtain ⟨⟨d0, d1, d2⟩, ⟨d3, d4, d5⟩, ⟨d6, d7, d8, d9, d10⟩, ⟨d11, d12, d13, d14, d15⟩⟩ := HX2.cells4
    have hlt2 := boxes4_lt HX2
    go_wp2_with fail
    go_ret
    exact ⟨rfl, HX2.1⟩
  rw [k2] at Z2
  have Z2 := Lib.hid Z2
  simp only [fits, decide_eq_true_eq] at k1 k2
  obtain ⟨o3, ho3⟩ : ∃ o3, IntKind.i64.wrap (s.o1 + 3600) = o3 := ⟨_, rfl⟩
  have HO := SeasonOk_ret ⟨s.n1, s.o1, s.d1, s.n2, o3, s.d2, s.r1, s.r2⟩ (by show s.n1.length ≤ _; omega) (by show s.n2.length ≤ _; omega)
  clear k1 k2
  have HW3 := Lib.hid ho3
  unfold zonV ruA at *
  go_enter Try.func3, Try.ntmps3
  go_wp2_with fail
  refine (Z1.out.bx HX0).mono ?_
  rintro e w1 ⟨rfl, HX1⟩
  clear d0 d1 d2 d3 d4 d5 d6 d7 d8 d9 d10 d11 d12 d13 d14 d15
  obtain ⟨⟨d0, d1, d2⟩, ⟨d3, d4, d5⟩, ⟨d6, d7, d8, d9, d10⟩, ⟨d11, d12, d13, d14, d15⟩⟩ := HX1.cells4
  have hlt1 := boxes4_lt HX1
  go_wp2_with fail
  refine (Z2.out.bx HX1).mono ?_
  rintro e w2 ⟨rfl, HX2⟩
  clear d0 d1 d2 d3 d4 d5 d6 d7 d8 d9 d10 d11 d12 d13 d14 d15
  obtain ⟨⟨d0, d1, d2⟩, ⟨d3, d4, d5⟩, ⟨d6, d7, d8, d9, d10⟩, ⟨d11, d12, d13, d14, d15⟩⟩ := HX2.cells4
  have hlt2 := boxes4_lt HX2
  go_upto_region 5 with fail
  have HS0 : Bxs w (w2.alloc (.cells (seC ⟨s.n1, s.o1, s.d1, s.n2, o3, s.d2, s.r1, s.r2⟩) 28)) (boxH w.heap.size w2.heap.size s ⟨s.n1, s.o1, s.d1, s.n2, o3, s.d2, s.r1, s.r2⟩) := HX2.push _ _
  change Code.wp _ _ _ _ (w2.alloc (.cells (seC ⟨s.n1, s.o1, s.d1, s.n2, o3, s.d2, s.r1, s.r2⟩) 28))
  generalize w2.alloc (.cells (seC ⟨s.n1, s.o1, s.d1, s.n2, o3, s.d2, s.r1, s.r2⟩) 28) = W0 at *
  generalize w2.heap.size = k at *
  clear d0 d1 d2 d3 d4 d5 d6 d7 d8 d9 d10 d11 d12 d13 d14 d15 HX0 HX1 HX2 hlt1 hlt2 Z1 Z2 ho3
  obtain ⟨⟨c0, c1, c2, c3, c4, c5, c6, c7, c8, c9, c10, c11, c12, c13, c14, c15⟩, _⟩ := boxH_s HS0
  dsimp only at c0 c1 c2 c3 c4 c5 c6 c7 c8 c9 c10 c11 c12 c13 c14 c15
  have HRD := Lib.hid reads_ret
  unfold seA at HO
  dsimp only at HO
  cases hok : seOk ⟨s.n1, s.o1, s.d1, s.n2, o3, s.d2, s.r1, s.r2⟩
  · rw [hok] at HO
    have HO := Lib.hid HO
    clear hok
    go_wp2_with fail
    refine (HO.out.bx HS0).mono ?_
    rintro e u1 ⟨rfl, HS1⟩
    clear c0 c1 c2 c3 c4 c5 c6 c7 c8 c9 c10 c11 c12 c13 c14 c15
    obtain ⟨⟨c0, c1, c2, c3, c4, c5, c6, c7, c8, c9, c10, c11, c12, c13, c14, c15⟩, _⟩ := boxH_s HS1
    dsimp only at c0 c1 c2 c3 c4 c5 c6 c7 c8 c9 c10 c11 c12 c13 c14 c15
    go_wp2_with fail
    refine (HRD.out.bx HS1).mono ?_
    rintro e u2 ⟨rfl, HS2⟩
    clear c0 c1 c2 c3 c4 c5 c6 c7 c8 c9 c10 c11 c12 c13 c14 c15
    obtain ⟨⟨c0, c1, c2, c3, c4, c5, c6, c7, c8, c9, c10, c11, c12, c13, c14, c15⟩, _⟩ := boxH_s HS2
    dsimp only at c0 c1 c2 c3 c4 c5 c6 c7 c8 c9 c10 c11 c12 c13 c14 c15
    go_wp2_with fail
    go_ret
    exact ⟨rfl, HS2.1⟩
  rw [hok] at HO
  have HO := Lib.hid HO
  by_cases hs0 : sec < 0
  · clear hok
    go_wp2_with fail
    refine (HO.out.bx HS0).mono ?_
    rintro e u1 ⟨rfl, HS1⟩
    clear c0 c1 c2 c3 c4 c5 c6 c7 c8 c9 c10 c11 c12 c13 c14 c15
    obtain ⟨⟨c0, c1, c2, c3, c4, c5, c6, c7, c8, c9, c10, c11, c12, c13, c14, c15⟩, _⟩ := boxH_s HS1
    dsimp only at c0 c1 c2 c3 c4 c5 c6 c7 c8 c9 c10 c11 c12 c13 c14 c15
    go_wp2_with fail
    refine (HRD.out.bx HS1).mono ?_
    rintro e u2 ⟨rfl, HS2⟩
    clear c0 c1 c2 c3 c4 c5 c6 c7 c8 c9 c10 c11 c12 c13 c14 c15
    obtain ⟨⟨c0, c1, c2, c3, c4, c5, c6, c7, c8, c9, c10, c11, c12, c13, c14, c15⟩, _⟩ := boxH_s HS2
    dsimp only at c0 c1 c2 c3 c4 c5 c6 c7 c8 c9 c10 c11 c12 c13 c14 c15
    go_wp2_with fail
    go_ret
    exact ⟨rfl, HS2.1⟩
  by_cases hs1 : 253402300799 < sec
  · clear hok
    go_wp2_with fail
    refine (HO.out.bx HS0).mono ?_
    rintro e u1 ⟨rfl, HS1⟩
    clear c0 c1 c2 c3 c4 c5 c6 c7 c8 c9 c10 c11 c12 c13 c14 c15
    obtain ⟨⟨c0, c1, c2, c3, c4, c5, c6, c7, c8, c9, c10, c11, c12, c13, c14, c15⟩, _⟩ := boxH_s HS1
    dsimp only at c0 c1 c2 c3 c4 c5 c6 c7 c8 c9 c10 c11 c12 c13 c14 c15
    go_wp2_with fail
    refine (HRD.out.bx HS1).mono ?_
    rintro e u2 ⟨rfl, HS2⟩
    clear c0 c1 c2 c3 c4 c5 c6 c7 c8 c9 c10 c11 c12 c13 c14 c15
    obtain ⟨⟨c0, c1, c2, c3, c4, c5, c6, c7, c8, c9, c10, c11, c12, c13, c14, c15⟩, _⟩ := boxH_s HS2
    dsimp only at c0 c1 c2 c3 c4 c5 c6 c7 c8 c9 c10 c11 c12 c13 c14 c15
    go_wp2_with fail
    go_ret
    exact ⟨rfl, HS2.1⟩
  obtain ⟨hn1, hn2, ⟨a0, a1⟩, ⟨b0, b1⟩, hr1, hr2⟩ := seOk_all _ hok
  dsimp only at hn1 hn2 a0 a1 b0 b1 hr1 hr2
  have ho3 : o3 = s.o1 + 3600 := by rw [← HW3.out]; exact IntWalk.i64_in _ (by omega)
  have l1 := nameT_len s.n1
  have l2 := clkT_len (-s.o1) false
  have l3 := nameT_len s.n2
  have l5 := ruT_len s.r1 false
  have l6 := ruT_len s.r2 false
  have m1 := (brackB_len _ hn1).2
  have m2 := (brackB_len _ hn2).2
  have HN1 := Lib.hid (specName_ret s.n1 (by omega))
  have HN2 := Lib.hid (specName_ret s.n2 (by omega))
  have HC1 := Lib.hid (Clock_ret (-s.o1) false (by omega) (by omega))
  have HR1 := Lib.hid (RuleText_ok s.r1 false hr1)
  have HR2 := Lib.hid (RuleText_ok s.r2 false hr2)
  have HZ := Lib.hid (Tz_hour ⟨s.n1, s.o1, s.d1, s.n2, o3, s.d2, s.r1, s.r2⟩ 0 sec hok ho3)
  have HA := Lib.hid (At_fo ⟨s.n1, s.o1, s.d1, s.n2, o3, s.d2, s.r1, s.r2⟩ 0 sec hok (by omega) (by omega))
  clear hok hn1 hn2 HW3 ho3 hr1 hr2
  unfold hourF at HZ
  dsimp only at HZ
  unfold seA zonV at HA
  dsimp only at HA
  unfold ruA at HR1 HR2
  generalize nameT s.n1 = t1 at *
  generalize nameT s.n2 = t3 at *
  generalize clkT (-s.o1) false = t2 at *
  generalize ruT s.r1 false = t4 at *
  generalize ruT s.r2 false = t5 at *
  generalize seFo ⟨s.n1, s.o1, s.d1, s.n2, o3, s.d2, s.r1, s.r2⟩ 0 sec = f at *
  have f1 : ¬ 9223372036854775807 < t1.length + t2.length := by omega
  have f2 : ¬ 9223372036854775807 < t1.length + t2.length + t3.length := by omega
  have f3 : ¬ 9223372036854775807 < t1.length + (t2.length + t3.length) + 1 := by omega
  have f4 : ¬ 9223372036854775807 < t1.length + (t2.length + (t3.length + 1)) + t4.length := by omega
  have f5 : ¬ 9223372036854775807 < t1.length + (t2.length + (t3.length + (t4.length + 1))) + 1 := by omega
  have f6 : ¬ 9223372036854775807 < t1.length + (t2.length + (t3.length + (t4.length + 1 + 1))) + t5.length := by omega
  have v1 : IntKind.i64.wrap (-s.o1) = -s.o1 := IntWalk.i64_in _ (by omega)
  go_wp2_with fail
  refine (HO.out.bx HS0).mono ?_
  rintro e u1 ⟨rfl, HS1⟩
  clear c0 c1 c2 c3 c4 c5 c6 c7 c8 c9 c10 c11 c12 c13 c14 c15
  obtain ⟨⟨c0, c1, c2, c3, c4, c5, c6, c7, c8, c9, c10, c11, c12, c13, c14, c15⟩, _⟩ := boxH_s HS1
  dsimp only at c0 c1 c2 c3 c4 c5 c6 c7 c8 c9 c10 c11 c12 c13 c14 c15
  go_upto_region 7 with fail
  unfold foA at HZ
  go_cut [12, 13] from 70 (fun s12 s13 W => ∃ n : Nat, s12 = .pointer (some ⟨n, 0, none⟩) ∧ s13 = .bool true ∧ Bxs w W ((n, 32, foC f) :: (boxH w.heap.size k s ⟨s.n1, s.o1, s.d1, s.n2, o3, s.d2, s.r1, s.r2⟩)))
  case first =>
    clear c0 c1 c2 c3 c4 c5 c6 c7 c8 c9 c10 c11 c12 c13 c14 c15 HS0
    obtain ⟨⟨z0, z1, z3, z6, z7, z8, z9, z10, z11, z12, z13, z14, z15⟩, _⟩ := boxH_13 HS1
    go_region_held3 (fun w' => (w'.cell? ⟨w.heap.size, 0, none⟩ = some (.string (S s.n1)) ∧ w'.cell? ⟨w.heap.size, 1, none⟩ = some (.int .i64 s.o1) ∧ w'.cell? ⟨w.heap.size + 1, 0, none⟩ = some (.string (S s.n2)) ∧ w'.cell? ⟨w.heap.size + 2, 0, none⟩ = some (.int .i64 s.r1.kind) ∧ w'.cell? ⟨w.heap.size + 2, 1, none⟩ = some (.int .i64 s.r1.day) ∧ w'.cell? ⟨w.heap.size + 2, 2, none⟩ = some (.int .i64 s.r1.week) ∧ w'.cell? ⟨w.heap.size + 2, 3, none⟩ = some (.int .i64 s.r1.mon) ∧ w'.cell? ⟨w.heap.size + 2, 4, none⟩ = some (.int .i64 s.r1.time) ∧ w'.cell? ⟨w.heap.size + 3, 0, none⟩ = some (.int .i64 s.r2.kind) ∧ w'.cell? ⟨w.heap.size + 3, 1, none⟩ = some (.int .i64 s.r2.day) ∧ w'.cell? ⟨w.heap.size + 3, 2, none⟩ = some (.int .i64 s.r2.week) ∧ w'.cell? ⟨w.heap.size + 3, 3, none⟩ = some (.int .i64 s.r2.mon) ∧ w'.cell? ⟨w.heap.size + 3, 4, none⟩ = some (.int .i64 s.r2.time)) ∧ Bxs w w' (boxH w.heap.size k s ⟨s.n1, s.o1, s.d1, s.n2, o3, s.d2, s.r1, s.r2⟩))
      (first | ((with_reducible refine boxH_13 (Bxs.tail (fin_early hN ?_))); (with_reducible assumption)) | ((with_reducible refine boxH_13 (Bxs.drew ?_)); (with_reducible assumption)) | ((with_reducible refine boxH_13 ?_); (with_reducible assumption)) | ((with_reducible refine boxH_13 (Bxs.allo ?_ _)); (with_reducible assumption)) | ((with_reducible refine boxH_13 (Bxs.drew (Bxs.allo ?_ _))); (with_reducible assumption)))
      (first | (go_at_call 9; ((with_reducible refine (HN1.out.bxF w (boxH w.heap.size k s ⟨s.n1, s.o1, s.d1, s.n2, o3, s.d2, s.r1, s.r2⟩) _ ?_).mono ?_); (first | (with_reducible assumption) | ((with_reducible refine Bxs.drew ?_); (with_reducible assumption)) | ((with_reducible refine Bxs.allo ?_ _); (with_reducible assumption)) | ((with_reducible refine Bxs.drew (Bxs.allo ?_ _)); (with_reducible assumption))); rintro e w' ⟨rfl, hB', hb'⟩; (first | (have hN := NB.newE (by with_reducible assumption) hb'; obtain ⟨q0, q1, q2, q3, q4, qf⟩ := Blk.five hN.1) | (have hN := NB.newD (by with_reducible assumption) hb'; obtain ⟨q0, q1, q2, q3, q4, qf⟩ := Blk.five hN.1) | (have hN := NB.new (by with_reducible assumption) hb'; obtain ⟨q0, q1, q2, q3, q4, qf⟩ := Blk.five hN.1) | (have hN := NB.keep hN hb'; obtain ⟨q0, q1, q2, q3, q4, qf⟩ := Blk.five hN.1) | skip))) | (go_at_call 9; ((with_reducible refine (HN2.out.bxF w (boxH w.heap.size k s ⟨s.n1, s.o1, s.d1, s.n2, o3, s.d2, s.r1, s.r2⟩) _ ?_).mono ?_); (first | (with_reducible assumption) | ((with_reducible refine Bxs.drew ?_); (with_reducible assumption)) | ((with_reducible refine Bxs.allo ?_ _); (with_reducible assumption)) | ((with_reducible refine Bxs.drew (Bxs.allo ?_ _)); (with_reducible assumption))); rintro e w' ⟨rfl, hB', hb'⟩; (first | (have hN := NB.newE (by with_reducible assumption) hb'; obtain ⟨q0, q1, q2, q3, q4, qf⟩ := Blk.five hN.1) | (have hN := NB.newD (by with_reducible assumption) hb'; obtain ⟨q0, q1, q2, q3, q4, qf⟩ := Blk.five hN.1) | (have hN := NB.new (by with_reducible assumption) hb'; obtain ⟨q0, q1, q2, q3, q4, qf⟩ := Blk.five hN.1) | (have hN := NB.keep hN hb'; obtain ⟨q0, q1, q2, q3, q4, qf⟩ := Blk.five hN.1) | skip))) | (go_at_call 10; ((with_reducible refine (HC1.out.bxF w (boxH w.heap.size k s ⟨s.n1, s.o1, s.d1, s.n2, o3, s.d2, s.r1, s.r2⟩) _ ?_).mono ?_); (first | (with_reducible assumption) | ((with_reducible refine Bxs.drew ?_); (with_reducible assumption)) | ((with_reducible refine Bxs.allo ?_ _); (with_reducible assumption)) | ((with_reducible refine Bxs.drew (Bxs.allo ?_ _)); (with_reducible assumption))); rintro e w' ⟨rfl, hB', hb'⟩; (first | (have hN := NB.newE (by with_reducible assumption) hb'; obtain ⟨q0, q1, q2, q3, q4, qf⟩ := Blk.five hN.1) | (have hN := NB.newD (by with_reducible assumption) hb'; obtain ⟨q0, q1, q2, q3, q4, qf⟩ := Blk.five hN.1) | (have hN := NB.new (by with_reducible assumption) hb'; obtain ⟨q0, q1, q2, q3, q4, qf⟩ := Blk.five hN.1) | (have hN := NB.keep hN hb'; obtain ⟨q0, q1, q2, q3, q4, qf⟩ := Blk.five hN.1) | skip))) | (go_at_call 11; ((with_reducible refine (HR1.out.bxF w (boxH w.heap.size k s ⟨s.n1, s.o1, s.d1, s.n2, o3, s.d2, s.r1, s.r2⟩) _ ?_).mono ?_); (first | (with_reducible assumption) | ((with_reducible refine Bxs.drew ?_); (with_reducible assumption)) | ((with_reducible refine Bxs.allo ?_ _); (with_reducible assumption)) | ((with_reducible refine Bxs.drew (Bxs.allo ?_ _)); (with_reducible assumption))); rintro e w' ⟨rfl, hB', hb'⟩; (first | (have hN := NB.newE (by with_reducible assumption) hb'; obtain ⟨q0, q1, q2, q3, q4, qf⟩ := Blk.five hN.1) | (have hN := NB.newD (by with_reducible assumption) hb'; obtain ⟨q0, q1, q2, q3, q4, qf⟩ := Blk.five hN.1) | (have hN := NB.new (by with_reducible assumption) hb'; obtain ⟨q0, q1, q2, q3, q4, qf⟩ := Blk.five hN.1) | (have hN := NB.keep hN hb'; obtain ⟨q0, q1, q2, q3, q4, qf⟩ := Blk.five hN.1) | skip))) | (go_at_call 11; ((with_reducible refine (HR2.out.bxF w (boxH w.heap.size k s ⟨s.n1, s.o1, s.d1, s.n2, o3, s.d2, s.r1, s.r2⟩) _ ?_).mono ?_); (first | (with_reducible assumption) | ((with_reducible refine Bxs.drew ?_); (with_reducible assumption)) | ((with_reducible refine Bxs.allo ?_ _); (with_reducible assumption)) | ((with_reducible refine Bxs.drew (Bxs.allo ?_ _)); (with_reducible assumption))); rintro e w' ⟨rfl, hB', hb'⟩; (first | (have hN := NB.newE (by with_reducible assumption) hb'; obtain ⟨q0, q1, q2, q3, q4, qf⟩ := Blk.five hN.1) | (have hN := NB.newD (by with_reducible assumption) hb'; obtain ⟨q0, q1, q2, q3, q4, qf⟩ := Blk.five hN.1) | (have hN := NB.new (by with_reducible assumption) hb'; obtain ⟨q0, q1, q2, q3, q4, qf⟩ := Blk.five hN.1) | (have hN := NB.keep hN hb'; obtain ⟨q0, q1, q2, q3, q4, qf⟩ := Blk.five hN.1) | skip))) | (go_at_call 8; ((with_reducible refine (HZ.out.bxF w (boxH w.heap.size k s ⟨s.n1, s.o1, s.d1, s.n2, o3, s.d2, s.r1, s.r2⟩) _ ?_).mono ?_); (first | (with_reducible assumption) | ((with_reducible refine Bxs.drew ?_); (with_reducible assumption)) | ((with_reducible refine Bxs.allo ?_ _); (with_reducible assumption)) | ((with_reducible refine Bxs.drew (Bxs.allo ?_ _)); (with_reducible assumption))); rintro e w' ⟨rfl, hB', hb'⟩; (first | (have hN := NB.newE (by with_reducible assumption) hb'; obtain ⟨q0, q1, q2, q3, q4, qf⟩ := Blk.five hN.1) | (have hN := NB.newD (by with_reducible assumption) hb'; obtain ⟨q0, q1, q2, q3, q4, qf⟩ := Blk.five hN.1) | (have hN := NB.new (by with_reducible assumption) hb'; obtain ⟨q0, q1, q2, q3, q4, qf⟩ := Blk.five hN.1) | (have hN := NB.keep hN hb'; obtain ⟨q0, q1, q2, q3, q4, qf⟩ := Blk.five hN.1) | skip))))
    all_goals
      go_wp2_with fail
      go_meet
      case rel =>
        refine ⟨_, rfl, rfl, ?_⟩
        first
          | ((with_reducible refine fin_early hN ?_); (with_reducible assumption))
          | ((refine Bxs.push ?_ _ _); (with_reducible assumption))
  case rest =>
    clear c0 c1 c2 c3 c4 c5 c6 c7 c8 c9 c10 c11 c12 c13 c14 c15 HS0 HS1
    obtain ⟨n, rfl, rfl, HF⟩ := hcut
    unfold foC at HF
    obtain ⟨⟨⟨c0, c1, c2, c3, c4, c5, c6, c7, c8, c9, c10, c11, c12, c13, c14, c15⟩, ⟨e0, e1, e2, e3, e4⟩⟩, _⟩ := boxHF_all HF
    dsimp only at c0 c1 c2 c3 c4 c5 c6 c7 c8 c9 c10 c11 c12 c13 c14 c15
    go_wp2_with fail
    go_region_held3 (fun w' => ((w'.cell? ⟨k, 0, none⟩ = some (.string (S s.n1)) ∧ w'.cell? ⟨k, 1, none⟩ = some (.int .i64 s.o1) ∧ w'.cell? ⟨k, 2, none⟩ = some (.bool s.d1) ∧ w'.cell? ⟨k, 3, none⟩ = some (.string (S s.n2)) ∧ w'.cell? ⟨k, 4, none⟩ = some (.int .i64 o3) ∧ w'.cell? ⟨k, 5, none⟩ = some (.bool s.d2) ∧ w'.cell? ⟨k, 6, none⟩ = some (.int .i64 s.r1.kind) ∧ w'.cell? ⟨k, 7, none⟩ = some (.int .i64 s.r1.day) ∧ w'.cell? ⟨k, 8, none⟩ = some (.int .i64 s.r1.week) ∧ w'.cell? ⟨k, 9, none⟩ = some (.int .i64 s.r1.mon) ∧ w'.cell? ⟨k, 10, none⟩ = some (.int .i64 s.r1.time) ∧ w'.cell? ⟨k, 11, none⟩ = some (.int .i64 s.r2.kind) ∧ w'.cell? ⟨k, 12, none⟩ = some (.int .i64 s.r2.day) ∧ w'.cell? ⟨k, 13, none⟩ = some (.int .i64 s.r2.week) ∧ w'.cell? ⟨k, 14, none⟩ = some (.int .i64 s.r2.mon) ∧ w'.cell? ⟨k, 15, none⟩ = some (.int .i64 s.r2.time)) ∧ (w'.cell? ⟨n, 0, none⟩ = some (.string (S f.nm)) ∧ w'.cell? ⟨n, 1, none⟩ = some (.int .i64 f.off) ∧ w'.cell? ⟨n, 2, none⟩ = some (.int .i64 f.st) ∧ w'.cell? ⟨n, 3, none⟩ = some (.int .i64 f.en) ∧ w'.cell? ⟨n, 4, none⟩ = some (.bool f.dst))) ∧ Bxs w w' ((n, 32, #[.string (S f.nm), .int .i64 f.off, .int .i64 f.st, .int .i64 f.en, .bool f.dst]) :: (boxH w.heap.size k s ⟨s.n1, s.o1, s.d1, s.n2, o3, s.d2, s.r1, s.r2⟩)))
      (first | ((refine boxHF_all (s := s) (s3 := ⟨s.n1, s.o1, s.d1, s.n2, o3, s.d2, s.r1, s.r2⟩) (Bxs.drew ?_)); (with_reducible assumption)) | ((refine boxHF_all (s := s) (s3 := ⟨s.n1, s.o1, s.d1, s.n2, o3, s.d2, s.r1, s.r2⟩) ?_); (with_reducible assumption)))
      (first | (go_at_call 12; ((with_reducible refine (HA.out.bxAt w ((n, 32, #[.string (S f.nm), .int .i64 f.off, .int .i64 f.st, .int .i64 f.en, .bool f.dst]) :: (boxH w.heap.size k s ⟨s.n1, s.o1, s.d1, s.n2, o3, s.d2, s.r1, s.r2⟩)) _ ?_).mono ?_); (first | (with_reducible assumption) | ((with_reducible refine Bxs.drew ?_); (with_reducible assumption))); rintro e w' ⟨rfl, hB'⟩)))
    all_goals
      go_wp2_with fail
      go_ret
      exact ⟨rfl, hB'.1⟩

theorem fnTzsetHour_all (n1 : Bs) (o1 : Int) (d1 : Bool) (n2 : Bs) (o2 : Int) (d2 : Bool) (r1 r2 : Ru) (sec : Int) : Ret 3 #[zonV n1 o1 d1, zonV n2 o2 d2, ruA r1, ruA r2, .int .i64 sec] (.bool true) :=
  fnTzsetHour_walk ⟨n1, o1, d1, n2, o2, d2, r1, r2⟩ sec
end Go.Proofs.Ytcjibjggaleclaa
