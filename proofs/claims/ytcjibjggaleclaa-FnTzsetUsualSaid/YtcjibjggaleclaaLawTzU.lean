/- FnTzsetUsual: its walk. -/
import Derived.Test.YtcjibjggaleclaaLawTzW
import Derived.Deep.DeepCutAuto
import Derived.Deep.RegionHeld3
namespace Go.Proofs.Ytcjibjggaleclaa
open Go.RowKit

theorem box2_all {w W : World} {g1 g0 : Nat} {s : Se} (h : Bxs w W [(g1, 23, zC s.n2 s.o2 s.d2), (g0, 23, zC s.n1 s.o1 s.d1)]) : Zc g1 g0 s W := zc_of h (by simp) (by simp)
set_option maxRecDepth 100000 in
set_option maxHeartbeats 16000000 in
theorem fnTzsetUsual_walk (s : Se) (e1 : s.r1 = ruU1) (e2 : s.r2 = ruU2) (sec : Int) : Ret 4 #[zonV s.n1 s.o1 s.d1, zonV s.n2 s.o2 s.d2, .int .i64 sec] (.bool true) := by
  intro w
  have HX0 := ((Bxs.new w).push 23 (zC s.n1 s.o1 s.d1)).push 23 (zC s.n2 s.o2 s.d2)
  have hsz : (w.alloc (.cells (zC s.n1 s.o1 s.d1) 23)).heap.size = w.heap.size + 1 := by simp
  rw [hsz] at HX0
  clear hsz
  obtain ⟨⟨z0, z1, z2⟩, ⟨z3, z4, z5⟩⟩ := box2_all HX0
  have E1 := Lib.hid e1
  have E2 := Lib.hid e2
  clear e1 e2
  have Z1 := zzFits1_ret s.n1 s.o1 s.d1
  cases k1 : fits s.n1
  · rw [k1] at Z1
    have Z1 := Lib.hid Z1
    clear k1
    unfold zonV at *
    go_enter Try.func4, Try.ntmps4
    go_wp2_with fail
    refine (Z1.out.bx HX0).mono ?_
    rintro e w1 ⟨rfl, HX1⟩
    clear z0 z1 z2 z3 z4 z5
    obtain ⟨⟨z0, z1, z2⟩, ⟨z3, z4, z5⟩⟩ := box2_all HX1
    go_wp2_with fail
    go_ret
    exact ⟨rfl, HX1.1⟩
  rw [k1] at Z1
  have Z1 := Lib.hid Z1
  have Z2 := zzFits1_ret s.n2 s.o2 s.d2
  cases k2 : fits s.n2
  · rw [k2] at Z2
    have Z2 := Lib.hid Z2
    clear k1 k2
    unfold zonV at *
    go_enter Try.func4, Try.ntmps4
    go_wp2_with fail
    refine (Z1.out.bx HX0).mono ?_
    rintro e w1 ⟨rfl, HX1⟩
    clear z0 z1 z2 z3 z4 z5
    obtain ⟨⟨z0, z1, z2⟩, ⟨z3, z4, z5⟩⟩ := box2_all HX1
    go_wp2_with fail
    refine (Z2.out.bx HX1).mono ?_
    rintro e w2 ⟨rfl, HX2⟩
    clear z0 z1 z2 z3 z4 z5
    obtain ⟨⟨z0, z1, z2⟩, ⟨z3, z4, z5⟩⟩ := box2_all HX2
    go_wp2_with fail
    go_ret
    exact ⟨rfl, HX2.1⟩
  rw [k2] at Z2
  have Z2 := Lib.hid Z2
  simp only [fits, decide_eq_true_eq] at k1 k2
  have HO := SeasonOk_ret s (by omega) (by omega)
  clear k1 k2
  unfold zonV at *
  go_enter Try.func4, Try.ntmps4
  go_wp2_with fail
  refine (Z1.out.bx HX0).mono ?_
  rintro e w1 ⟨rfl, HX1⟩
  clear z0 z1 z2 z3 z4 z5
  obtain ⟨⟨z0, z1, z2⟩, ⟨z3, z4, z5⟩⟩ := box2_all HX1
  have hlt1 := (HX1.2 _ List.mem_cons_self).lt
  go_wp2_with fail
  refine (Z2.out.bx HX1).mono ?_
  rintro e w2 ⟨rfl, HX2⟩
  clear z0 z1 z2 z3 z4 z5
  obtain ⟨⟨z0, z1, z2⟩, ⟨z3, z4, z5⟩⟩ := box2_all HX2
  have hlt2 := (HX2.2 _ List.mem_cons_self).lt
  go_upto_region 4 with fail
  have HS0 : Bxs w (w2.alloc (.cells (seC s) 28)) (boxU (w.heap.size + 1) w.heap.size w2.heap.size s) := HX2.push _ _
  have eC : seC s = #[.string (S s.n1), .int .i64 s.o1, .bool s.d1, .string (S s.n2), .int .i64 s.o2, .bool s.d2, .int .i64 2, .int .i64 0, .int .i64 2, .int .i64 3, .int .i64 7200, .int .i64 2, .int .i64 0, .int .i64 1, .int .i64 11, .int .i64 7200] := by unfold seC; rw [E1.out, E2.out]; rfl
  rw [← eC]
  clear eC z0 z1 z2 z3 z4 z5 HX0 HX1 HX2 Z1 Z2
  obtain ⟨⟨⟨c0, c1, c2, c3, c4, c5, c6, c7, c8, c9, c10, c11, c12, c13, c14, c15⟩, ⟨z0, z1, z2⟩, ⟨z3, z4, z5⟩⟩, _⟩ := boxU_all HS0
  generalize w2.alloc (.cells (seC s) 28) = W0 at *
  generalize w2.heap.size = k at *
  have HRD := Lib.hid reads_ret

  unfold seA at HO
  cases hok : seOk s
  · rw [hok] at HO
    have HO := Lib.hid HO
    clear hok
    go_wp2_with fail
    refine (HO.out.bx HS0).mono ?_
    rintro e u1 ⟨rfl, HS1⟩
    clear c0 c1 c2 c3 c4 c5 c6 c7 c8 c9 c10 c11 c12 c13 c14 c15 z0 z1 z2 z3 z4 z5
    obtain ⟨⟨⟨c0, c1, c2, c3, c4, c5, c6, c7, c8, c9, c10, c11, c12, c13, c14, c15⟩, ⟨z0, z1, z2⟩, ⟨z3, z4, z5⟩⟩, _⟩ := boxU_all HS1
    go_wp2_with fail
    refine (HRD.out.bx HS1).mono ?_
    rintro e u2 ⟨rfl, HS2⟩
    clear c0 c1 c2 c3 c4 c5 c6 c7 c8 c9 c10 c11 c12 c13 c14 c15 z0 z1 z2 z3 z4 z5
    obtain ⟨⟨⟨c0, c1, c2, c3, c4, c5, c6, c7, c8, c9, c10, c11, c12, c13, c14, c15⟩, ⟨z0, z1, z2⟩, ⟨z3, z4, z5⟩⟩, _⟩ := boxU_all HS2
    go_wp2_with fail
    go_ret
    exact ⟨rfl, HS2.1⟩
  rw [hok] at HO
  have HO := Lib.hid HO
  by_cases hs0 : sec < 0
  · clear hok
    go_wp2_with fail
    refine (HO.out.bx HS0).mono ?_
    rintro e u1 ⟨rfl, HS1⟩
    clear c0 c1 c2 c3 c4 c5 c6 c7 c8 c9 c10 c11 c12 c13 c14 c15 z0 z1 z2 z3 z4 z5
    obtain ⟨⟨⟨c0, c1, c2, c3, c4, c5, c6, c7, c8, c9, c10, c11, c12, c13, c14, c15⟩, ⟨z0, z1, z2⟩, ⟨z3, z4, z5⟩⟩, _⟩ := boxU_all HS1
    go_wp2_with fail
    refine (HRD.out.bx HS1).mono ?_
    rintro e u2 ⟨rfl, HS2⟩
    clear c0 c1 c2 c3 c4 c5 c6 c7 c8 c9 c10 c11 c12 c13 c14 c15 z0 z1 z2 z3 z4 z5
    obtain ⟨⟨⟨c0, c1, c2, c3, c4, c5, c6, c7, c8, c9, c10, c11, c12, c13, c14, c15⟩, ⟨z0, z1, z2⟩, ⟨z3, z4, z5⟩⟩, _⟩ := boxU_all HS2
    go_wp2_with fail
    go_ret
    exact ⟨rfl, HS2.1⟩
  by_cases hs1 : 253402300799 < sec
  · clear hok
    go_wp2_with fail
    refine (HO.out.bx HS0).mono ?_
    rintro e u1 ⟨rfl, HS1⟩
    clear c0 c1 c2 c3 c4 c5 c6 c7 c8 c9 c10 c11 c12 c13 c14 c15 z0 z1 z2 z3 z4 z5
    obtain ⟨⟨⟨c0, c1, c2, c3, c4, c5, c6, c7, c8, c9, c10, c11, c12, c13, c14, c15⟩, ⟨z0, z1, z2⟩, ⟨z3, z4, z5⟩⟩, _⟩ := boxU_all HS1
    go_wp2_with fail
    refine (HRD.out.bx HS1).mono ?_
    rintro e u2 ⟨rfl, HS2⟩
    clear c0 c1 c2 c3 c4 c5 c6 c7 c8 c9 c10 c11 c12 c13 c14 c15 z0 z1 z2 z3 z4 z5
    obtain ⟨⟨⟨c0, c1, c2, c3, c4, c5, c6, c7, c8, c9, c10, c11, c12, c13, c14, c15⟩, ⟨z0, z1, z2⟩, ⟨z3, z4, z5⟩⟩, _⟩ := boxU_all HS2
    go_wp2_with fail
    go_ret
    exact ⟨rfl, HS2.1⟩
  obtain ⟨hn1, hn2, ⟨a0, a1⟩, ⟨b0, b1⟩, _, _⟩ := seOk_all s hok
  have l1 := nameT_len s.n1
  have l2 := clkT_len (-s.o1) false
  have l3 := nameT_len s.n2
  have l4 := clkT_len (-s.o2) false
  have m1 := (brackB_len _ hn1).2
  have m2 := (brackB_len _ hn2).2
  have HN1 := Lib.hid (specName_ret s.n1 (by omega))
  have HN2 := Lib.hid (specName_ret s.n2 (by omega))
  have HC1 := Lib.hid (Clock_ret (-s.o1) false (by omega) (by omega))
  have HC2 := Lib.hid (Clock_ret (-s.o2) false (by omega) (by omega))
  have HZ := Lib.hid (Tz_usual s 0 sec hok E1.out E2.out)
  have HA := Lib.hid (At_fo s 0 sec hok (by omega) (by omega))
  clear hok hn1 hn2 E1 E2
  unfold usuF at HZ
  generalize nameT s.n1 = t1 at *
  generalize nameT s.n2 = t3 at *
  generalize clkT (-s.o1) false = t2 at *
  generalize clkT (-s.o2) false = t4 at *
  generalize seFo s 0 sec = f at *
  have f1 : ¬ 9223372036854775807 < t1.length + t2.length := by omega
  have f2 : ¬ 9223372036854775807 < t1.length + t2.length + t3.length := by omega
  have f3 : ¬ 9223372036854775807 < t1.length + (t2.length + t3.length) + t4.length := by omega
  have v1 : IntKind.i64.wrap (-s.o1) = -s.o1 := IntWalk.i64_in _ (by omega)
  have v2 : IntKind.i64.wrap (-s.o2) = -s.o2 := IntWalk.i64_in _ (by omega)
  go_wp2_with fail
  refine (HO.out.bx HS0).mono ?_
  rintro e u1 ⟨rfl, HS1⟩
  clear c0 c1 c2 c3 c4 c5 c6 c7 c8 c9 c10 c11 c12 c13 c14 c15 z0 z1 z2 z3 z4 z5
  obtain ⟨⟨⟨c0, c1, c2, c3, c4, c5, c6, c7, c8, c9, c10, c11, c12, c13, c14, c15⟩, ⟨z0, z1, z2⟩, ⟨z3, z4, z5⟩⟩, _⟩ := boxU_all HS1
  go_upto_region 6 with fail
  unfold foA at HZ
  go_cut [8, 9] from 57 (fun s8 s9 W => ∃ n : Nat, s8 = .pointer (some ⟨n, 0, none⟩) ∧ s9 = .bool true ∧ Bxs w W ((n, 32, foC f) :: boxU (w.heap.size + 1) w.heap.size k s))
  case first =>
    clear c0 c1 c2 c3 c4 c5 c6 c7 c8 c9 c10 c11 c12 c13 c14 c15 z0 z1 z2 z3 z4 z5 HS0
    obtain ⟨⟨z0, z1, z3, z4⟩, _⟩ := boxU_four HS1
    go_region_held3 (fun w' => (w'.cell? ⟨w.heap.size, 0, none⟩ = some (.string (S s.n1)) ∧ w'.cell? ⟨w.heap.size, 1, none⟩ = some (.int .i64 s.o1) ∧ w'.cell? ⟨w.heap.size + 1, 0, none⟩ = some (.string (S s.n2)) ∧ w'.cell? ⟨w.heap.size + 1, 1, none⟩ = some (.int .i64 s.o2)) ∧ Bxs w w' (boxU (w.heap.size + 1) w.heap.size k s))
      (first | ((with_reducible refine boxU_four (Bxs.tail (fin_early hN ?_))); (with_reducible assumption)) | ((with_reducible refine boxU_four (Bxs.drew ?_)); (with_reducible assumption)) | ((with_reducible refine boxU_four ?_); (with_reducible assumption)) | ((with_reducible refine boxU_four (Bxs.allo ?_ _)); (with_reducible assumption)) | ((with_reducible refine boxU_four (Bxs.drew (Bxs.allo ?_ _))); (with_reducible assumption)))
      (first | (go_at_call 9; ((with_reducible refine (HN1.out.bxF w (boxU (w.heap.size + 1) w.heap.size k s) _ ?_).mono ?_); (first | (with_reducible assumption) | ((with_reducible refine Bxs.drew ?_); (with_reducible assumption)) | ((with_reducible refine Bxs.allo ?_ _); (with_reducible assumption)) | ((with_reducible refine Bxs.drew (Bxs.allo ?_ _)); (with_reducible assumption))); rintro e w' ⟨rfl, hB', hb'⟩; (first | (have hN := NB.newE (by with_reducible assumption) hb'; obtain ⟨q0, q1, q2, q3, q4, qf⟩ := Blk.five hN.1) | (have hN := NB.newD (by with_reducible assumption) hb'; obtain ⟨q0, q1, q2, q3, q4, qf⟩ := Blk.five hN.1) | (have hN := NB.new (by with_reducible assumption) hb'; obtain ⟨q0, q1, q2, q3, q4, qf⟩ := Blk.five hN.1) | (have hN := NB.keep hN hb'; obtain ⟨q0, q1, q2, q3, q4, qf⟩ := Blk.five hN.1) | skip))) | (go_at_call 9; ((with_reducible refine (HN2.out.bxF w (boxU (w.heap.size + 1) w.heap.size k s) _ ?_).mono ?_); (first | (with_reducible assumption) | ((with_reducible refine Bxs.drew ?_); (with_reducible assumption)) | ((with_reducible refine Bxs.allo ?_ _); (with_reducible assumption)) | ((with_reducible refine Bxs.drew (Bxs.allo ?_ _)); (with_reducible assumption))); rintro e w' ⟨rfl, hB', hb'⟩; (first | (have hN := NB.newE (by with_reducible assumption) hb'; obtain ⟨q0, q1, q2, q3, q4, qf⟩ := Blk.five hN.1) | (have hN := NB.newD (by with_reducible assumption) hb'; obtain ⟨q0, q1, q2, q3, q4, qf⟩ := Blk.five hN.1) | (have hN := NB.new (by with_reducible assumption) hb'; obtain ⟨q0, q1, q2, q3, q4, qf⟩ := Blk.five hN.1) | (have hN := NB.keep hN hb'; obtain ⟨q0, q1, q2, q3, q4, qf⟩ := Blk.five hN.1) | skip))) | (go_at_call 10; ((with_reducible refine (HC1.out.bxF w (boxU (w.heap.size + 1) w.heap.size k s) _ ?_).mono ?_); (first | (with_reducible assumption) | ((with_reducible refine Bxs.drew ?_); (with_reducible assumption)) | ((with_reducible refine Bxs.allo ?_ _); (with_reducible assumption)) | ((with_reducible refine Bxs.drew (Bxs.allo ?_ _)); (with_reducible assumption))); rintro e w' ⟨rfl, hB', hb'⟩; (first | (have hN := NB.newE (by with_reducible assumption) hb'; obtain ⟨q0, q1, q2, q3, q4, qf⟩ := Blk.five hN.1) | (have hN := NB.newD (by with_reducible assumption) hb'; obtain ⟨q0, q1, q2, q3, q4, qf⟩ := Blk.five hN.1) | (have hN := NB.new (by with_reducible assumption) hb'; obtain ⟨q0, q1, q2, q3, q4, qf⟩ := Blk.five hN.1) | (have hN := NB.keep hN hb'; obtain ⟨q0, q1, q2, q3, q4, qf⟩ := Blk.five hN.1) | skip))) | (go_at_call 10; ((with_reducible refine (HC2.out.bxF w (boxU (w.heap.size + 1) w.heap.size k s) _ ?_).mono ?_); (first | (with_reducible assumption) | ((with_reducible refine Bxs.drew ?_); (with_reducible assumption)) | ((with_reducible refine Bxs.allo ?_ _); (with_reducible assumption)) | ((with_reducible refine Bxs.drew (Bxs.allo ?_ _)); (with_reducible assumption))); rintro e w' ⟨rfl, hB', hb'⟩; (first | (have hN := NB.newE (by with_reducible assumption) hb'; obtain ⟨q0, q1, q2, q3, q4, qf⟩ := Blk.five hN.1) | (have hN := NB.newD (by with_reducible assumption) hb'; obtain ⟨q0, q1, q2, q3, q4, qf⟩ := Blk.five hN.1) | (have hN := NB.new (by with_reducible assumption) hb'; obtain ⟨q0, q1, q2, q3, q4, qf⟩ := Blk.five hN.1) | (have hN := NB.keep hN hb'; obtain ⟨q0, q1, q2, q3, q4, qf⟩ := Blk.five hN.1) | skip))) | (go_at_call 8; ((with_reducible refine (HZ.out.bxF w (boxU (w.heap.size + 1) w.heap.size k s) _ ?_).mono ?_); (first | (with_reducible assumption) | ((with_reducible refine Bxs.drew ?_); (with_reducible assumption)) | ((with_reducible refine Bxs.allo ?_ _); (with_reducible assumption)) | ((with_reducible refine Bxs.drew (Bxs.allo ?_ _)); (with_reducible assumption))); rintro e w' ⟨rfl, hB', hb'⟩; (first | (have hN := NB.newE (by with_reducible assumption) hb'; obtain ⟨q0, q1, q2, q3, q4, qf⟩ := Blk.five hN.1) | (have hN := NB.newD (by with_reducible assumption) hb'; obtain ⟨q0, q1, q2, q3, q4, qf⟩ := Blk.five hN.1) | (have hN := NB.new (by with_reducible assumption) hb'; obtain ⟨q0, q1, q2, q3, q4, qf⟩ := Blk.five hN.1) | (have hN := NB.keep hN hb'; obtain ⟨q0, q1, q2, q3, q4, qf⟩ := Blk.five hN.1) | skip))))
    all_goals
      go_wp2_with fail
      go_meet
      case rel =>
        refine ⟨_, rfl, rfl, ?_⟩
        first
          | ((with_reducible refine fin_early hN ?_); (with_reducible assumption))
          | ((refine Bxs.push ?_ _ _); (with_reducible assumption))
  case rest =>
    clear c0 c1 c2 c3 c4 c5 c6 c7 c8 c9 c10 c11 c12 c13 c14 c15 z0 z1 z2 z3 z4 z5 HS0 HS1
    obtain ⟨n, rfl, rfl, HF⟩ := hcut
    unfold foC at HF
    obtain ⟨⟨⟨c0, c1, c2, c3, c4, c5, c6, c7, c8, c9, c10, c11, c12, c13, c14, c15⟩, ⟨e0, e1, e2, e3, e4⟩⟩, _⟩ := boxUF_all HF
    unfold seA zonV at HA
    go_wp2_with fail
    go_region_held3 (fun w' => ((w'.cell? ⟨k, 0, none⟩ = some (.string (S s.n1)) ∧ w'.cell? ⟨k, 1, none⟩ = some (.int .i64 s.o1) ∧ w'.cell? ⟨k, 2, none⟩ = some (.bool s.d1) ∧ w'.cell? ⟨k, 3, none⟩ = some (.string (S s.n2)) ∧ w'.cell? ⟨k, 4, none⟩ = some (.int .i64 s.o2) ∧ w'.cell? ⟨k, 5, none⟩ = some (.bool s.d2) ∧ w'.cell? ⟨k, 6, none⟩ = some (.int .i64 s.r1.kind) ∧ w'.cell? ⟨k, 7, none⟩ = some (.int .i64 s.r1.day) ∧ w'.cell? ⟨k, 8, none⟩ = some (.int .i64 s.r1.week) ∧ w'.cell? ⟨k, 9, none⟩ = some (.int .i64 s.r1.mon) ∧ w'.cell? ⟨k, 10, none⟩ = some (.int .i64 s.r1.time) ∧ w'.cell? ⟨k, 11, none⟩ = some (.int .i64 s.r2.kind) ∧ w'.cell? ⟨k, 12, none⟩ = some (.int .i64 s.r2.day) ∧ w'.cell? ⟨k, 13, none⟩ = some (.int .i64 s.r2.week) ∧ w'.cell? ⟨k, 14, none⟩ = some (.int .i64 s.r2.mon) ∧ w'.cell? ⟨k, 15, none⟩ = some (.int .i64 s.r2.time)) ∧ (w'.cell? ⟨n, 0, none⟩ = some (.string (S f.nm)) ∧ w'.cell? ⟨n, 1, none⟩ = some (.int .i64 f.off) ∧ w'.cell? ⟨n, 2, none⟩ = some (.int .i64 f.st) ∧ w'.cell? ⟨n, 3, none⟩ = some (.int .i64 f.en) ∧ w'.cell? ⟨n, 4, none⟩ = some (.bool f.dst))) ∧ Bxs w w' ((n, 32, #[.string (S f.nm), .int .i64 f.off, .int .i64 f.st, .int .i64 f.en, .bool f.dst]) :: boxU (w.heap.size + 1) w.heap.size k s))
      (first | ((refine boxUF_all (Bxs.drew ?_)); (with_reducible assumption)) | ((refine boxUF_all ?_); (with_reducible assumption)))
      (first | (go_at_call 12; ((with_reducible refine (HA.out.bxAt w ((n, 32, #[.string (S f.nm), .int .i64 f.off, .int .i64 f.st, .int .i64 f.en, .bool f.dst]) :: boxU (w.heap.size + 1) w.heap.size k s) _ ?_).mono ?_); (first | (with_reducible assumption) | ((with_reducible refine Bxs.drew ?_); (with_reducible assumption))); rintro e w' ⟨rfl, hB'⟩)))
    all_goals
      go_wp2_with fail
      go_ret
      exact ⟨rfl, hB'.1⟩

theorem fnTzsetUsual_all (n1 : Bs) (o1 : Int) (d1 : Bool) (n2 : Bs) (o2 : Int) (d2 : Bool) (sec : Int) : Ret 4 #[zonV n1 o1 d1, zonV n2 o2 d2, .int .i64 sec] (.bool true) :=
  fnTzsetUsual_walk ⟨n1, o1, d1, n2, o2, d2, ruU1, ruU2⟩ rfl rfl sec
end Go.Proofs.Ytcjibjggaleclaa
