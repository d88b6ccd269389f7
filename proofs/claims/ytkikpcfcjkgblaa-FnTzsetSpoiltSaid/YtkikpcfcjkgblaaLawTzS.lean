/- FnTzsetSpoilt: its walk. -/
import Derived.Test.YtkikpcfcjkgblaaLawTz
import Derived.Deep.DeepCutAuto
namespace Go.Proofs.Ytkikpcfcjkgblaa
open Go.RowKit
theorem Bxs.tail {w W : World} {x : Nat × TypeId × Array Value} {l : List (Nat × TypeId × Array Value)} (h : Bxs w W (x :: l)) : Bxs w W l := ⟨h.1, fun y hy => h.2 y (List.mem_cons_of_mem _ hy)⟩
theorem Bxs.push {w W : World} {l : List (Nat × TypeId × Array Value)} (h : Bxs w W l) (t : TypeId) (cs : Array Value) : Bxs w (W.alloc (.cells cs t)) ((W.heap.size, t, cs) :: l) := by
  refine ⟨h.1.alloc h.1.size _, ?_⟩
  intro x hx
  rcases List.mem_cons.1 hx with rfl | hx
  · exact Blk.new W _ _ _ rfl
  · exact (h.2 x hx).alloc _
theorem Bxs.sea {w W : World} {k : Nat} {s : Se} {l : List (Nat × TypeId × Array Value)} (h : Bxs w W ((k, 51, seC s) :: l)) : W.cell? ⟨k, 0, none⟩ = some (.string (S s.n1)) ∧ W.cell? ⟨k, 1, none⟩ = some (.int .i64 s.o1) ∧ W.cell? ⟨k, 2, none⟩ = some (.bool s.d1) ∧ W.cell? ⟨k, 3, none⟩ = some (.string (S s.n2)) ∧ W.cell? ⟨k, 4, none⟩ = some (.int .i64 s.o2) ∧ W.cell? ⟨k, 5, none⟩ = some (.bool s.d2) ∧ W.cell? ⟨k, 6, none⟩ = some (.int .i64 s.r1.kind) ∧ W.cell? ⟨k, 7, none⟩ = some (.int .i64 s.r1.day) ∧ W.cell? ⟨k, 8, none⟩ = some (.int .i64 s.r1.week) ∧ W.cell? ⟨k, 9, none⟩ = some (.int .i64 s.r1.mon) ∧ W.cell? ⟨k, 10, none⟩ = some (.int .i64 s.r1.time) ∧ W.cell? ⟨k, 11, none⟩ = some (.int .i64 s.r2.kind) ∧ W.cell? ⟨k, 12, none⟩ = some (.int .i64 s.r2.day) ∧ W.cell? ⟨k, 13, none⟩ = some (.int .i64 s.r2.week) ∧ W.cell? ⟨k, 14, none⟩ = some (.int .i64 s.r2.mon) ∧ W.cell? ⟨k, 15, none⟩ = some (.int .i64 s.r2.time) :=
  have b := h.2 _ List.mem_cons_self
  ⟨b.cell 0, b.cell 1, b.cell 2, b.cell 3, b.cell 4, b.cell 5, b.cell 6, b.cell 7, b.cell 8, b.cell 9, b.cell 10, b.cell 11, b.cell 12, b.cell 13, b.cell 14, b.cell 15⟩
theorem four_of {w W : World} {s : Se} (h : Bxs w W (boxes4 w.heap.size s)) : (W.cell? ⟨w.heap.size, 0, none⟩ = some (.string (S s.n1)) ∧ W.cell? ⟨w.heap.size, 1, none⟩ = some (.int .i64 s.o1) ∧ W.cell? ⟨w.heap.size + 1, 0, none⟩ = some (.string (S s.n2)) ∧ W.cell? ⟨w.heap.size + 1, 1, none⟩ = some (.int .i64 s.o2)) ∧ Bxs w W (boxes4 w.heap.size s) :=
  ⟨⟨h.cells4.1.1, h.cells4.1.2.1, h.cells4.2.1.1, h.cells4.2.1.2.1⟩, h⟩
theorem cutF_len (n1 : Bs) (o1 : Int) (n2 : Bs) (o2 : Int) (l : Bs) (h1 : n1.length ≤ 100) (h2 : n2.length ≤ 100) (h3 : l.length ≤ 100) : (cutF n1 o1 n2 o2 l).length ≤ 1000 := by
  have a1 := nameT_len n1
  have a2 := nameT_len n2
  have a3 := clkT_len (-o1) true
  have a4 := clkT_len (-o2) true
  unfold cutF
  simp only [List.length_append, List.length_cons]
  omega
theorem Tz_none (t : Bs) (ht : t.length ≤ 4294967296) (h : tzA t = none) : Ret 38 #[.string (S t), .int .i64 0, .int .i64 0] (.tuple #[foA noFo, .bool false]) := by
  have := implTzset_ret t ht 0 0
  rw [h] at this
  exact this

set_option maxRecDepth 100000 in
set_option maxHeartbeats 16000000 in
theorem fnTzsetSpoilt_walk (s : Se) (n : Int) : Ret 16 #[zonV s.n1 s.o1 s.d1, zonV s.n2 s.o2 s.d2, ruA s.r1, ruA s.r2, .int .i64 n] (.bool true) := by
  intro w
  have HX0 := boxes4_new w s
  obtain ⟨⟨d0, d1, d2⟩, ⟨d3, d4, d5⟩, ⟨d6, d7, d8, d9, d10⟩, ⟨d11, d12, d13, d14, d15⟩⟩ := HX0.cells4
  have Z1 := zzFits1_ret s.n1 s.o1 s.d1
  cases k1 : fits s.n1
  · rw [k1] at Z1
    have Z1 := Lib.hid Z1
    clear k1
    unfold zonV ruA at *
    go_enter Try.func16, Try.ntmps16
    go_wp2_with fail
    refine (Z1.out.bx HX0).mono ?_
    rintro e w1 ⟨rfl, HX1⟩
    clear d0 d1 d2 d3 d4 d5 d6 d7 d8 d9 d10 d11 d12 d13 d14 d15
    obtain ⟨⟨d0, d1, d2⟩, ⟨d3, d4, d5⟩, ⟨d6, d7, d8, d9, d10⟩, ⟨d11, d12, d13, d14, d15⟩⟩ := HX1.cells4
    have hlt1 := boxes4_lt HX1
    go_wp2_with fail
    go_ret
    exact ⟨rfl, HX1.1⟩
  rw [k1] at Z1
  have Z1 := Lib.hid Z1
  have Z2 := zzFits1_ret s.n2 s.o2 s.d2
  cases k2 : fits s.n2
  · rw [k2] at Z2
    have Z2 := Lib.hid Z2
    clear k1 k2
    unfold zonV ruA at *
    go_enter Try.func16, Try.ntmps16
    go_wp2_with fail
    refine (Z1.out.bx HX0).mono ?_
    rintro e w1 ⟨rfl, HX1⟩
    clear d0 d1 d2 d3 d4 d5 d6 d7 d8 d9 d10 d11 d12 d13 d14 d15
    obtain ⟨⟨d0, d1, d2⟩, ⟨d3, d4, d5⟩, ⟨d6, d7, d8, d9, d10⟩, ⟨d11, d12, d13, d14, d15⟩⟩ := HX1.cells4
    have hlt1 := boxes4_lt HX1
    go_wp2_with fail
    refine (Z2.out.bx HX1).mono ?_
    rintro e w2 ⟨rfl, HX2⟩
    clear d0 d1 d2 d3 d4 d5 d6 d7 d8 d9 d10 d11 d12 d13 d14 d15
    obtain ⟨⟨d0, d1, d2⟩, ⟨d3, d4, d5⟩, ⟨d6, d7, d8, d9, d10⟩, ⟨d11, d12, d13, d14, d15⟩⟩ := HX2.cells4
    have hlt2 := boxes4_lt HX2
    go_wp2_with fail
    go_ret
    exact ⟨rfl, HX2.1⟩
  rw [k2] at Z2
  have Z2 := Lib.hid Z2
  simp only [fits, decide_eq_true_eq] at k1 k2
  have HO := Lib.hid (SeasonOk_ret s (by omega) (by omega))
  clear k1 k2
  unfold zonV ruA at *
  go_enter Try.func16, Try.ntmps16
  go_wp2_with fail
  refine (Z1.out.bx HX0).mono ?_
  rintro e w1 ⟨rfl, HX1⟩
  clear d0 d1 d2 d3 d4 d5 d6 d7 d8 d9 d10 d11 d12 d13 d14 d15
  obtain ⟨⟨d0, d1, d2⟩, ⟨d3, d4, d5⟩, ⟨d6, d7, d8, d9, d10⟩, ⟨d11, d12, d13, d14, d15⟩⟩ := HX1.cells4
  have hlt1 := boxes4_lt HX1
  go_wp2_with fail
  refine (Z2.out.bx HX1).mono ?_
  rintro e w2 ⟨rfl, HX2⟩
  clear d0 d1 d2 d3 d4 d5 d6 d7 d8 d9 d10 d11 d12 d13 d14 d15
  obtain ⟨⟨d0, d1, d2⟩, ⟨d3, d4, d5⟩, ⟨d6, d7, d8, d9, d10⟩, ⟨d11, d12, d13, d14, d15⟩⟩ := HX2.cells4
  have hlt2 := boxes4_lt HX2
  go_upto_region 4 with fail
  have HP := HX2.push 51 (seC s)
  clear d0 d1 d2 d3 d4 d5 d6 d7 d8 d9 d10 d11 d12 d13 d14 d15 HX0 HX1 hlt1 hlt2 Z1 Z2 HX2
  obtain ⟨c0, c1, c2, c3, c4, c5, c6, c7, c8, c9, c10, c11, c12, c13, c14, c15⟩ := HP.sea
  change Code.wp _ _ _ _ (w2.alloc (.cells (seC s) 51))
  generalize w2.alloc (.cells (seC s) 51) = W0 at *
  generalize w2.heap.size = k at *
  have HRD := Lib.hid reads_ret
  have HO' := HO.out
  clear HO
  cases hok : seOk s
  · rw [hok] at HO'
    have HO := Lib.hid HO'
    clear hok HO'
    unfold seA at HO
    go_wp2_with fail
    refine (HO.out.bx HP).mono ?_
    rintro e u0 ⟨rfl, HP1⟩
    have HS0 := HP1.tail
    clear c0 c1 c2 c3 c4 c5 c6 c7 c8 c9 c10 c11 c12 c13 c14 c15
    obtain ⟨⟨d0, d1, d2⟩, ⟨d3, d4, d5⟩, ⟨d6, d7, d8, d9, d10⟩, ⟨d11, d12, d13, d14, d15⟩⟩ := HS0.cells4
    go_wp2_with fail
    refine (HRD.out.bx HS0).mono ?_
    rintro e u1 ⟨rfl, HS1⟩
    clear d0 d1 d2 d3 d4 d5 d6 d7 d8 d9 d10 d11 d12 d13 d14 d15
    obtain ⟨⟨d0, d1, d2⟩, ⟨d3, d4, d5⟩, ⟨d6, d7, d8, d9, d10⟩, ⟨d11, d12, d13, d14, d15⟩⟩ := HS1.cells4
    have hls1 := boxes4_lt HS1
    go_wp2_with fail
    go_ret
    exact ⟨rfl, HS1.1⟩
  rw [hok] at HO'
  have HO := Lib.hid HO'
  clear HO'
  obtain ⟨hn1, hn2, ⟨a0, a1⟩, ⟨b0, b1⟩, hr1, _⟩ := seOk_all s hok
  have l1 := nameT_len s.n1
  have l2 := clkT_len (-s.o1) true
  have l3 := nameT_len s.n2
  have l4 := clkT_len (-s.o2) true
  have l5 := ruT_len s.r1 true
  have m1 := (brackB_len _ hn1).2
  have m2 := (brackB_len _ hn2).2
  have HN1 := Lib.hid (specName_ret s.n1 (by omega))
  have HN2 := Lib.hid (specName_ret s.n2 (by omega))
  have HC1 := Lib.hid (Clock_ret (-s.o1) true (by omega) (by omega))
  have HC2 := Lib.hid (Clock_ret (-s.o2) true (by omega) (by omega))
  have HR := Lib.hid (RuleText_ok s.r1 true hr1)
  have T0 := Lib.hid (Tz_none [] (by simp) tzA_nil)
  have T1 := Lib.hid (Tz_none (nameT s.n1) (by omega) (tzA_cut1 s.n1 hn1))
  have T2 := Tz_none (cutF s.n1 s.o1 s.n2 s.o2 []) (by have := cutF_len s.n1 s.o1 s.n2 s.o2 [] m1 m2 (by simp); omega) (tzA_cut2 _ _ _ _ hn1 hn2 a0 a1 b0 b1)
  have T3 := Tz_none (cutF s.n1 s.o1 s.n2 s.o2 (ruT s.r1 true ++ [44])) (by have := cutF_len s.n1 s.o1 s.n2 s.o2 (ruT s.r1 true ++ [44]) m1 m2 (by simp; omega); omega) (tzA_cut3 _ _ _ _ _ hn1 hn2 a0 a1 b0 b1 hr1)
  unfold cutF at T2 T3
  have T2 := Lib.hid T2
  have T3 := Lib.hid T3
  clear hok hn1 hn2 hr1
  generalize nameT s.n1 = t1 at *
  generalize nameT s.n2 = t3 at *
  generalize clkT (-s.o1) true = t2 at *
  generalize clkT (-s.o2) true = t4 at *
  generalize ruT s.r1 true = t5 at *
  have f1 : ¬ 9223372036854775807 < t1.length + t2.length := by omega
  have f2 : ¬ 9223372036854775807 < t1.length + t2.length + t3.length := by omega
  have f3 : ¬ 9223372036854775807 < t1.length + (t2.length + t3.length) + t4.length := by omega
  have f4 : ¬ 9223372036854775807 < t1.length + (t2.length + (t3.length + t4.length)) + 1 := by omega
  have v1 : IntKind.i64.wrap (-s.o1) = -s.o1 := IntWalk.i64_in _ (by omega)
  have v2 : IntKind.i64.wrap (-s.o2) = -s.o2 := IntWalk.i64_in _ (by omega)
  unfold seA at HO
  go_wp2_with fail
  refine (HO.out.bx HP).mono ?_
  rintro e u0 ⟨rfl, HP1⟩
  have HS0 := HP1.tail
  clear c0 c1 c2 c3 c4 c5 c6 c7 c8 c9 c10 c11 c12 c13 c14 c15
  obtain ⟨⟨d0, d1, d2⟩, ⟨d3, d4, d5⟩, ⟨d6, d7, d8, d9, d10⟩, ⟨d11, d12, d13, d14, d15⟩⟩ := HS0.cells4
  go_wp2_with fail
  refine (HN1.out.bx HS0).mono ?_
  rintro e u1 ⟨rfl, HS1⟩
  clear d0 d1 d2 d3 d4 d5 d6 d7 d8 d9 d10 d11 d12 d13 d14 d15
  obtain ⟨⟨d0, d1, d2⟩, ⟨d3, d4, d5⟩, ⟨d6, d7, d8, d9, d10⟩, ⟨d11, d12, d13, d14, d15⟩⟩ := HS1.cells4
  have hls1 := boxes4_lt HS1
  clear d0 d1 d2 d3 d4 d5 d6 d7 d8 d9 d10 d11 d12 d13 d14 d15 HP HP1 HS0
  obtain ⟨⟨d0, d1, d3, d4⟩, _⟩ := four_of HS1
  go_upto_region 7 with fail
  go_region_held3 (fun w' => (w'.cell? ⟨w.heap.size, 0, none⟩ = some (.string (S s.n1)) ∧ w'.cell? ⟨w.heap.size, 1, none⟩ = some (.int .i64 s.o1) ∧ w'.cell? ⟨w.heap.size + 1, 0, none⟩ = some (.string (S s.n2)) ∧ w'.cell? ⟨w.heap.size + 1, 1, none⟩ = some (.int .i64 s.o2)) ∧ Bxs w w' (boxes4 w.heap.size s))
    (first | exact four_of (Bxs.drew (by assumption)) | exact four_of (by assumption))
    (first | (go_at_call 28; ((with_reducible refine (HN2.out.bxAt w (boxes4 w.heap.size s) _ ?_).mono ?_); (simp [*]); rintro e w' ⟨rfl, hB'⟩)) | (go_at_call 22; ((with_reducible refine (HC1.out.bxAt w (boxes4 w.heap.size s) _ ?_).mono ?_); (simp [*]); rintro e w' ⟨rfl, hB'⟩)) | (go_at_call 22; ((with_reducible refine (HC2.out.bxAt w (boxes4 w.heap.size s) _ ?_).mono ?_); (simp [*]); rintro e w' ⟨rfl, hB'⟩)))
  have HS2 := hB'
  clear d0 d1 d3 d4 hB' HS1
  obtain ⟨⟨d0, d1, d2⟩, ⟨d3, d4, d5⟩, ⟨d6, d7, d8, d9, d10⟩, ⟨d11, d12, d13, d14, d15⟩⟩ := HS2.cells4
  have hls2 := boxes4_lt HS2
  by_cases hn0 : n < 0
  · skip
    go_wp2_with fail
    refine (HRD.out.bx HS2).mono ?_
    rintro e u3 ⟨rfl, HS3⟩
    clear d0 d1 d2 d3 d4 d5 d6 d7 d8 d9 d10 d11 d12 d13 d14 d15
    obtain ⟨⟨d0, d1, d2⟩, ⟨d3, d4, d5⟩, ⟨d6, d7, d8, d9, d10⟩, ⟨d11, d12, d13, d14, d15⟩⟩ := HS3.cells4
    have hls3 := boxes4_lt HS3
    go_wp2_with fail
    go_ret
    exact ⟨rfl, HS3.1⟩
  by_cases hn3 : 3 < n
  · skip
    go_wp2_with fail
    refine (HRD.out.bx HS2).mono ?_
    rintro e u3 ⟨rfl, HS3⟩
    clear d0 d1 d2 d3 d4 d5 d6 d7 d8 d9 d10 d11 d12 d13 d14 d15
    obtain ⟨⟨d0, d1, d2⟩, ⟨d3, d4, d5⟩, ⟨d6, d7, d8, d9, d10⟩, ⟨d11, d12, d13, d14, d15⟩⟩ := HS3.cells4
    have hls3 := boxes4_lt HS3
    go_wp2_with fail
    go_ret
    exact ⟨rfl, HS3.1⟩
  unfold ruA foA noFo at *
  obtain rfl | rfl | rfl | rfl : n = 0 ∨ n = 1 ∨ n = 2 ∨ n = 3 := by omega
  · skip
    go_wp2_with fail
    refine (HR.out.bx HS2).mono ?_
    rintro e u3 ⟨rfl, HS3⟩
    clear d0 d1 d2 d3 d4 d5 d6 d7 d8 d9 d10 d11 d12 d13 d14 d15
    obtain ⟨⟨d0, d1, d2⟩, ⟨d3, d4, d5⟩, ⟨d6, d7, d8, d9, d10⟩, ⟨d11, d12, d13, d14, d15⟩⟩ := HS3.cells4
    have hls3 := boxes4_lt HS3
    have hbb : Bxs w (u3.alloc (.cells #[.string ⟨#[]⟩, .string (S t1), .string (S (t1 ++ (t2 ++ (t3 ++ (t4 ++ [44]))))), .string (S (t1 ++ (t2 ++ (t3 ++ (t4 ++ 44 :: (t5 ++ [44]))))))] 9)) (boxes4 w.heap.size s) := ⟨HS3.1.alloc HS3.1.size _, fun x hx => (HS3.2 x hx).alloc _⟩
    go_wp2_with fail
    refine (T0.out.bx hbb).mono ?_
    rintro e u4 ⟨rfl, HS4⟩
    have hls4 := boxes4_lt HS4
    go_wp2_with fail
    refine (HRD.out _).mono ?_
    rintro e u5 ⟨rfl, hb5⟩
    go_wp2_with fail
    go_ret
    exact ⟨rfl, (HS4.1.alloc HS4.1.size _).trans (hb5.mono (by have := HS4.1.size; simp; omega))⟩
  · skip
    go_wp2_with fail
    refine (HR.out.bx HS2).mono ?_
    rintro e u3 ⟨rfl, HS3⟩
    clear d0 d1 d2 d3 d4 d5 d6 d7 d8 d9 d10 d11 d12 d13 d14 d15
    obtain ⟨⟨d0, d1, d2⟩, ⟨d3, d4, d5⟩, ⟨d6, d7, d8, d9, d10⟩, ⟨d11, d12, d13, d14, d15⟩⟩ := HS3.cells4
    have hls3 := boxes4_lt HS3
    have hbb : Bxs w (u3.alloc (.cells #[.string ⟨#[]⟩, .string (S t1), .string (S (t1 ++ (t2 ++ (t3 ++ (t4 ++ [44]))))), .string (S (t1 ++ (t2 ++ (t3 ++ (t4 ++ 44 :: (t5 ++ [44]))))))] 9)) (boxes4 w.heap.size s) := ⟨HS3.1.alloc HS3.1.size _, fun x hx => (HS3.2 x hx).alloc _⟩
    go_wp2_with fail
    refine (T1.out.bx hbb).mono ?_
    rintro e u4 ⟨rfl, HS4⟩
    have hls4 := boxes4_lt HS4
    go_wp2_with fail
    refine (HRD.out _).mono ?_
    rintro e u5 ⟨rfl, hb5⟩
    go_wp2_with fail
    go_ret
    exact ⟨rfl, (HS4.1.alloc HS4.1.size _).trans (hb5.mono (by have := HS4.1.size; simp; omega))⟩
  · skip
    go_wp2_with fail
    refine (HR.out.bx HS2).mono ?_
    rintro e u3 ⟨rfl, HS3⟩
    clear d0 d1 d2 d3 d4 d5 d6 d7 d8 d9 d10 d11 d12 d13 d14 d15
    obtain ⟨⟨d0, d1, d2⟩, ⟨d3, d4, d5⟩, ⟨d6, d7, d8, d9, d10⟩, ⟨d11, d12, d13, d14, d15⟩⟩ := HS3.cells4
    have hls3 := boxes4_lt HS3
    have hbb : Bxs w (u3.alloc (.cells #[.string ⟨#[]⟩, .string (S t1), .string (S (t1 ++ (t2 ++ (t3 ++ (t4 ++ [44]))))), .string (S (t1 ++ (t2 ++ (t3 ++ (t4 ++ 44 :: (t5 ++ [44]))))))] 9)) (boxes4 w.heap.size s) := ⟨HS3.1.alloc HS3.1.size _, fun x hx => (HS3.2 x hx).alloc _⟩
    go_wp2_with fail
    refine (T2.out.bx hbb).mono ?_
    rintro e u4 ⟨rfl, HS4⟩
    have hls4 := boxes4_lt HS4
    go_wp2_with fail
    refine (HRD.out _).mono ?_
    rintro e u5 ⟨rfl, hb5⟩
    go_wp2_with fail
    go_ret
    exact ⟨rfl, (HS4.1.alloc HS4.1.size _).trans (hb5.mono (by have := HS4.1.size; simp; omega))⟩
  · skip
    go_wp2_with fail
    refine (HR.out.bx HS2).mono ?_
    rintro e u3 ⟨rfl, HS3⟩
    clear d0 d1 d2 d3 d4 d5 d6 d7 d8 d9 d10 d11 d12 d13 d14 d15
    obtain ⟨⟨d0, d1, d2⟩, ⟨d3, d4, d5⟩, ⟨d6, d7, d8, d9, d10⟩, ⟨d11, d12, d13, d14, d15⟩⟩ := HS3.cells4
    have hls3 := boxes4_lt HS3
    have hbb : Bxs w (u3.alloc (.cells #[.string ⟨#[]⟩, .string (S t1), .string (S (t1 ++ (t2 ++ (t3 ++ (t4 ++ [44]))))), .string (S (t1 ++ (t2 ++ (t3 ++ (t4 ++ 44 :: (t5 ++ [44]))))))] 9)) (boxes4 w.heap.size s) := ⟨HS3.1.alloc HS3.1.size _, fun x hx => (HS3.2 x hx).alloc _⟩
    go_wp2_with fail
    refine (T3.out.bx hbb).mono ?_
    rintro e u4 ⟨rfl, HS4⟩
    have hls4 := boxes4_lt HS4
    go_wp2_with fail
    refine (HRD.out _).mono ?_
    rintro e u5 ⟨rfl, hb5⟩
    go_wp2_with fail
    go_ret
    exact ⟨rfl, (HS4.1.alloc HS4.1.size _).trans (hb5.mono (by have := HS4.1.size; simp; omega))⟩
theorem fnTzsetSpoilt_all (n1 : Bs) (o1 : Int) (d1 : Bool) (n2 : Bs) (o2 : Int) (d2 : Bool) (r1 r2 : Ru) (n : Int) : Ret 16 #[zonV n1 o1 d1, zonV n2 o2 d2, ruA r1, ruA r2, .int .i64 n] (.bool true) :=
  fnTzsetSpoilt_walk ⟨n1, o1, d1, n2, o2, d2, r1, r2⟩ n
end Go.Proofs.Ytkikpcfcjkgblaa
