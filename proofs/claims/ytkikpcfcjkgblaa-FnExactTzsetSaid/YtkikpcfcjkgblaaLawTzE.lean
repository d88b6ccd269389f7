/- FnExactTzset, FnTzsetBounds: their walks. -/
import Derived.Test.YtkikpcfcjkgblaaLawTz
import Derived.Deep.DeepCutAuto
namespace Go.Proofs.Ytkikpcfcjkgblaa
open Go.RowKit

/-- a season's box and an answer's -/
def InSF (w : World) (s : Se) (g : Nat) (f : Fo) (W : World) : Prop := InS w s W ∧ Blk W g 54 #[.string (S f.nm), .int .i64 f.off, .int .i64 f.st, .int .i64 f.en, .bool f.dst]
theorem InSF.all {w W : World} {s : Se} {g : Nat} {f : Fo} (h : InSF w s g f W) : ((W.cell? ⟨w.heap.size, 0, none⟩ = some (.string (S s.n1)) ∧ W.cell? ⟨w.heap.size, 1, none⟩ = some (.int .i64 s.o1) ∧ W.cell? ⟨w.heap.size, 2, none⟩ = some (.bool s.d1) ∧ W.cell? ⟨w.heap.size, 3, none⟩ = some (.string (S s.n2)) ∧ W.cell? ⟨w.heap.size, 4, none⟩ = some (.int .i64 s.o2) ∧ W.cell? ⟨w.heap.size, 5, none⟩ = some (.bool s.d2) ∧ W.cell? ⟨w.heap.size, 6, none⟩ = some (.int .i64 s.r1.kind) ∧ W.cell? ⟨w.heap.size, 7, none⟩ = some (.int .i64 s.r1.day) ∧ W.cell? ⟨w.heap.size, 8, none⟩ = some (.int .i64 s.r1.week) ∧ W.cell? ⟨w.heap.size, 9, none⟩ = some (.int .i64 s.r1.mon) ∧ W.cell? ⟨w.heap.size, 10, none⟩ = some (.int .i64 s.r1.time) ∧ W.cell? ⟨w.heap.size, 11, none⟩ = some (.int .i64 s.r2.kind) ∧ W.cell? ⟨w.heap.size, 12, none⟩ = some (.int .i64 s.r2.day) ∧ W.cell? ⟨w.heap.size, 13, none⟩ = some (.int .i64 s.r2.week) ∧ W.cell? ⟨w.heap.size, 14, none⟩ = some (.int .i64 s.r2.mon) ∧ W.cell? ⟨w.heap.size, 15, none⟩ = some (.int .i64 s.r2.time)) ∧ (W.cell? ⟨g, 0, none⟩ = some (.string (S f.nm)) ∧ W.cell? ⟨g, 1, none⟩ = some (.int .i64 f.off) ∧ W.cell? ⟨g, 2, none⟩ = some (.int .i64 f.st) ∧ W.cell? ⟨g, 3, none⟩ = some (.int .i64 f.en) ∧ W.cell? ⟨g, 4, none⟩ = some (.bool f.dst))) ∧ InSF w s g f W := ⟨⟨h.1.all.1, h.2.cell 0, h.2.cell 1, h.2.cell 2, h.2.cell 3, h.2.cell 4⟩, h⟩
theorem InSF.drew {w W : World} {s : Se} {g : Nat} {f : Fo} (h : InSF w s g f W) : InSF w s g f W.drew := ⟨h.1.drew, h.2⟩
theorem InSF.below {w W W' : World} {s : Se} {g : Nat} {f : Fo} (h : InSF w s g f W) (hb : Below W.heap.size W W') : InSF w s g f W' := ⟨h.1.below hb, h.2.below hb h.2.lt⟩
theorem InSF.new {w W : World} {s : Se} (f : Fo) (h : InS w s W) : InSF w s W.heap.size f (W.alloc (.cells #[.string (S f.nm), .int .i64 f.off, .int .i64 f.st, .int .i64 f.en, .bool f.dst] 54)) :=
  ⟨⟨h.1.alloc _, h.2.alloc h.2.size _⟩, Blk.new W _ _ _ rfl⟩
theorem Ret.sfAt {F : FuncId} {args : Array Value} {v : Value} (h : Ret F args v) (w : World) (s : Se) (g : Nat) (f : Fo) (W : World) (hB : InSF w s g f W) : Calls Try.prog F args W fun e W' => e = .returned v ∧ InSF w s g f W' := (h W).mono fun _ _ ⟨he, hb⟩ => ⟨he, hB.below hb⟩

set_option maxRecDepth 100000 in
set_option maxHeartbeats 16000000 in
theorem fnExactTzset_walk (s : Se) (whole : Bool) (last sec : Int) : Ret 12 #[zonV s.n1 s.o1 s.d1, zonV s.n2 s.o2 s.d2, ruA s.r1, ruA s.r2, .bool whole, .int .i64 last, .int .i64 sec] (.bool true) := by
  intro w
  have HX0 := boxes4_new w s
  obtain ⟨⟨d0, d1, d2⟩, ⟨d3, d4, d5⟩, ⟨d6, d7, d8, d9, d10⟩, ⟨d11, d12, d13, d14, d15⟩⟩ := HX0.cells4
  have Z1 := zzFits1_ret s.n1 s.o1 s.d1
  cases k1 : fits s.n1
  · rw [k1] at Z1
    have Z1 := Lib.hid Z1
    clear k1
    unfold zonV ruA at *
    go_enter Try.func12, Try.ntmps12
    go_wp2_with fail
    refine (Z1.out.bx HX0).mono ?_
    rintro e w1 ⟨rfl, HX1⟩
    clear d0 d1 d2 d3 d4 d5 d6 d7 d8 d9 d10 d11 d12 d13 d14 d15
    obtain ⟨⟨d0, d1, d2⟩, ⟨d3, d4, d5⟩, ⟨d6, d7, d8, d9, d10⟩, ⟨d11, d12, d13, d14, d15⟩⟩ := HX1.cells4
    have hlt1 := boxes4_lt HX1
    go_wp2_with fail
    go_ret
    exact ⟨rfl, HX1.1⟩
  rw [k1] at Z1
  have Z1 := Lib.hid Z1
  have Z2 := zzFits1_ret s.n2 s.o2 s.d2
  cases k2 : fits s.n2
  · rw [k2] at Z2
    have Z2 := Lib.hid Z2
    clear k1 k2
    unfold zonV ruA at *
    go_enter Try.func12, Try.ntmps12
    go_wp2_with fail
    refine (Z1.out.bx HX0).mono ?_
    rintro e w1 ⟨rfl, HX1⟩
    clear d0 d1 d2 d3 d4 d5 d6 d7 d8 d9 d10 d11 d12 d13 d14 d15
    obtain ⟨⟨d0, d1, d2⟩, ⟨d3, d4, d5⟩, ⟨d6, d7, d8, d9, d10⟩, ⟨d11, d12, d13, d14, d15⟩⟩ := HX1.cells4
    have hlt1 := boxes4_lt HX1
    go_wp2_with fail
    refine (Z2.out.bx HX1).mono ?_
    rintro e w2 ⟨rfl, HX2⟩
    clear d0 d1 d2 d3 d4 d5 d6 d7 d8 d9 d10 d11 d12 d13 d14 d15
    obtain ⟨⟨d0, d1, d2⟩, ⟨d3, d4, d5⟩, ⟨d6, d7, d8, d9, d10⟩, ⟨d11, d12, d13, d14, d15⟩⟩ := HX2.cells4
    have hlt2 := boxes4_lt HX2
    go_wp2_with fail
    go_ret
    exact ⟨rfl, HX2.1⟩
  rw [k2] at Z2
  have Z2 := Lib.hid Z2
  simp only [fits, decide_eq_true_eq] at k1 k2
  have HO := Lib.hid (SeasonOk_ret s (by omega) (by omega))
  clear k1 k2
  unfold zonV ruA at *
  go_enter Try.func12, Try.ntmps12
  go_wp2_with fail
  refine (Z1.out.bx HX0).mono ?_
  rintro e w1 ⟨rfl, HX1⟩
  clear d0 d1 d2 d3 d4 d5 d6 d7 d8 d9 d10 d11 d12 d13 d14 d15
  obtain ⟨⟨d0, d1, d2⟩, ⟨d3, d4, d5⟩, ⟨d6, d7, d8, d9, d10⟩, ⟨d11, d12, d13, d14, d15⟩⟩ := HX1.cells4
  have hlt1 := boxes4_lt HX1
  go_wp2_with fail
  refine (Z2.out.bx HX1).mono ?_
  rintro e w2 ⟨rfl, HX2⟩
  clear d0 d1 d2 d3 d4 d5 d6 d7 d8 d9 d10 d11 d12 d13 d14 d15
  obtain ⟨⟨d0, d1, d2⟩, ⟨d3, d4, d5⟩, ⟨d6, d7, d8, d9, d10⟩, ⟨d11, d12, d13, d14, d15⟩⟩ := HX2.cells4
  have hlt2 := boxes4_lt HX2
  go_upto_region 4 with fail
  have HB2 := HX2.1
  have HS0 := InS.new w2 s
  clear d0 d1 d2 d3 d4 d5 d6 d7 d8 d9 d10 d11 d12 d13 d14 d15 HX0 HX1 HX2 hlt1 hlt2 Z1 Z2
  obtain ⟨⟨c0, c1, c2, c3, c4, c5, c6, c7, c8, c9, c10, c11, c12, c13, c14, c15⟩, _⟩ := HS0.all
  have HRD := Lib.hid reads_ret
  cases hok : seOk s
  · rw [hok] at HO
    clear hok
    go_wp2_with fail
    refine (HO.out.se HS0).mono ?_
    rintro e u1 ⟨rfl, HS1⟩
    clear c0 c1 c2 c3 c4 c5 c6 c7 c8 c9 c10 c11 c12 c13 c14 c15
    obtain ⟨⟨c0, c1, c2, c3, c4, c5, c6, c7, c8, c9, c10, c11, c12, c13, c14, c15⟩, _⟩ := HS1.all
    have hls1 := HS1.1.lt
    go_wp2_with fail
    refine (HRD.out.se HS1).mono ?_
    rintro e u2 ⟨rfl, HS2⟩
    clear c0 c1 c2 c3 c4 c5 c6 c7 c8 c9 c10 c11 c12 c13 c14 c15
    obtain ⟨⟨c0, c1, c2, c3, c4, c5, c6, c7, c8, c9, c10, c11, c12, c13, c14, c15⟩, _⟩ := HS2.all
    have hls2 := HS2.1.lt
    go_wp2_with fail
    go_ret
    exact ⟨rfl, HB2.trans (HS2.2.mono HB2.size)⟩
  rw [hok] at HO
  by_cases hs0 : sec < 0
  · clear hok
    go_wp2_with fail
    refine (HO.out.se HS0).mono ?_
    rintro e u1 ⟨rfl, HS1⟩
    clear c0 c1 c2 c3 c4 c5 c6 c7 c8 c9 c10 c11 c12 c13 c14 c15
    obtain ⟨⟨c0, c1, c2, c3, c4, c5, c6, c7, c8, c9, c10, c11, c12, c13, c14, c15⟩, _⟩ := HS1.all
    have hls1 := HS1.1.lt
    go_wp2_with fail
    refine (HRD.out.se HS1).mono ?_
    rintro e u2 ⟨rfl, HS2⟩
    clear c0 c1 c2 c3 c4 c5 c6 c7 c8 c9 c10 c11 c12 c13 c14 c15
    obtain ⟨⟨c0, c1, c2, c3, c4, c5, c6, c7, c8, c9, c10, c11, c12, c13, c14, c15⟩, _⟩ := HS2.all
    have hls2 := HS2.1.lt
    go_wp2_with fail
    go_ret
    exact ⟨rfl, HB2.trans (HS2.2.mono HB2.size)⟩
  by_cases hs1 : 253402300799 < sec
  · clear hok
    go_wp2_with fail
    refine (HO.out.se HS0).mono ?_
    rintro e u1 ⟨rfl, HS1⟩
    clear c0 c1 c2 c3 c4 c5 c6 c7 c8 c9 c10 c11 c12 c13 c14 c15
    obtain ⟨⟨c0, c1, c2, c3, c4, c5, c6, c7, c8, c9, c10, c11, c12, c13, c14, c15⟩, _⟩ := HS1.all
    have hls1 := HS1.1.lt
    go_wp2_with fail
    refine (HRD.out.se HS1).mono ?_
    rintro e u2 ⟨rfl, HS2⟩
    clear c0 c1 c2 c3 c4 c5 c6 c7 c8 c9 c10 c11 c12 c13 c14 c15
    obtain ⟨⟨c0, c1, c2, c3, c4, c5, c6, c7, c8, c9, c10, c11, c12, c13, c14, c15⟩, _⟩ := HS2.all
    have hls2 := HS2.1.lt
    go_wp2_with fail
    go_ret
    exact ⟨rfl, HB2.trans (HS2.2.mono HB2.size)⟩
  have HT := Lib.hid (Text_ret s whole hok)
  have HZ := Lib.hid (Tz_text s whole last sec hok)
  have HA := Lib.hid (At_fo s last sec hok (by omega) (by omega))
  clear hok
  generalize txtF s.n1 s.o1 s.n2 s.o2 s.r1 s.r2 whole = T at *
  generalize seFo s last sec = f at *
  go_wp2_with fail
  refine (HO.out.se HS0).mono ?_
  rintro e u1 ⟨rfl, HS1⟩
  clear c0 c1 c2 c3 c4 c5 c6 c7 c8 c9 c10 c11 c12 c13 c14 c15
  obtain ⟨⟨c0, c1, c2, c3, c4, c5, c6, c7, c8, c9, c10, c11, c12, c13, c14, c15⟩, _⟩ := HS1.all
  have hls1 := HS1.1.lt
  go_wp2_with fail
  refine (HT.out.se HS1).mono ?_
  rintro e u2 ⟨rfl, HS2⟩
  clear c0 c1 c2 c3 c4 c5 c6 c7 c8 c9 c10 c11 c12 c13 c14 c15
  obtain ⟨⟨c0, c1, c2, c3, c4, c5, c6, c7, c8, c9, c10, c11, c12, c13, c14, c15⟩, _⟩ := HS2.all
  have hls2 := HS2.1.lt
  go_wp2_with fail
  refine (HZ.out.se HS2).mono ?_
  rintro e u3 ⟨rfl, HS3⟩
  clear c0 c1 c2 c3 c4 c5 c6 c7 c8 c9 c10 c11 c12 c13 c14 c15
  obtain ⟨⟨c0, c1, c2, c3, c4, c5, c6, c7, c8, c9, c10, c11, c12, c13, c14, c15⟩, _⟩ := HS3.all
  have hls3 := HS3.1.lt
  unfold foA
  go_upto_region 7 with fail
  have HF0 := InSF.new f HS3
  clear c0 c1 c2 c3 c4 c5 c6 c7 c8 c9 c10 c11 c12 c13 c14 c15 hls1 hls2 hls3 HS1 HS2 HS0
  generalize hg : u3.heap.size = g at *
  clear hg
  obtain ⟨⟨⟨c0, c1, c2, c3, c4, c5, c6, c7, c8, c9, c10, c11, c12, c13, c14, c15⟩, ⟨e0, e1, e2, e3, e4⟩⟩, _⟩ := HF0.all
  unfold seA zonV at HA
  go_region_held3 (fun w' => ((w'.cell? ⟨w2.heap.size, 0, none⟩ = some (.string (S s.n1)) ∧ w'.cell? ⟨w2.heap.size, 1, none⟩ = some (.int .i64 s.o1) ∧ w'.cell? ⟨w2.heap.size, 2, none⟩ = some (.bool s.d1) ∧ w'.cell? ⟨w2.heap.size, 3, none⟩ = some (.string (S s.n2)) ∧ w'.cell? ⟨w2.heap.size, 4, none⟩ = some (.int .i64 s.o2) ∧ w'.cell? ⟨w2.heap.size, 5, none⟩ = some (.bool s.d2) ∧ w'.cell? ⟨w2.heap.size, 6, none⟩ = some (.int .i64 s.r1.kind) ∧ w'.cell? ⟨w2.heap.size, 7, none⟩ = some (.int .i64 s.r1.day) ∧ w'.cell? ⟨w2.heap.size, 8, none⟩ = some (.int .i64 s.r1.week) ∧ w'.cell? ⟨w2.heap.size, 9, none⟩ = some (.int .i64 s.r1.mon) ∧ w'.cell? ⟨w2.heap.size, 10, none⟩ = some (.int .i64 s.r1.time) ∧ w'.cell? ⟨w2.heap.size, 11, none⟩ = some (.int .i64 s.r2.kind) ∧ w'.cell? ⟨w2.heap.size, 12, none⟩ = some (.int .i64 s.r2.day) ∧ w'.cell? ⟨w2.heap.size, 13, none⟩ = some (.int .i64 s.r2.week) ∧ w'.cell? ⟨w2.heap.size, 14, none⟩ = some (.int .i64 s.r2.mon) ∧ w'.cell? ⟨w2.heap.size, 15, none⟩ = some (.int .i64 s.r2.time)) ∧ (w'.cell? ⟨g, 0, none⟩ = some (.string (S f.nm)) ∧ w'.cell? ⟨g, 1, none⟩ = some (.int .i64 f.off) ∧ w'.cell? ⟨g, 2, none⟩ = some (.int .i64 f.st) ∧ w'.cell? ⟨g, 3, none⟩ = some (.int .i64 f.en) ∧ w'.cell? ⟨g, 4, none⟩ = some (.bool f.dst))) ∧ InSF w2 s g f w')
    (first | exact (InSF.drew (by assumption)).all | exact InSF.all (by assumption))
    (first | (go_at_call 40; ((with_reducible refine (HA.out.sfAt w2 s g f _ ?_).mono ?_); (simp [*]); rintro e w' ⟨rfl, hB'⟩)))
  all_goals
    go_wp2_with fail
    go_ret
    exact ⟨rfl, HB2.trans (hB'.1.2.mono HB2.size)⟩

theorem fnExactTzset_all (n1 : Bs) (o1 : Int) (d1 : Bool) (n2 : Bs) (o2 : Int) (d2 : Bool) (r1 r2 : Ru) (whole : Bool) (last sec : Int) : Ret 12 #[zonV n1 o1 d1, zonV n2 o2 d2, ruA r1, ruA r2, .bool whole, .int .i64 last, .int .i64 sec] (.bool true) :=
  fnExactTzset_walk ⟨n1, o1, d1, n2, o2, d2, r1, r2⟩ whole last sec
end Go.Proofs.Ytkikpcfcjkgblaa
