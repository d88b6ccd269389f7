/- FnTzsetBounds: its walk. -/
import Derived.Test.YtkikpcfcjkgblaaLawTz
import Derived.Deep.DeepCutAuto
namespace Go.Proofs.Ytkikpcfcjkgblaa
open Go.RowKit

set_option maxRecDepth 100000 in
set_option maxHeartbeats 16000000 in
theorem fnTzsetBounds_walk (s : Se) (sec : Int) : Ret 13 #[zonV s.n1 s.o1 s.d1, zonV s.n2 s.o2 s.d2, ruA s.r1, ruA s.r2, .int .i64 sec] (.bool true) := by
  intro w
  have HX0 := boxes4_new w s
  obtain ⟨⟨d0, d1, d2⟩, ⟨d3, d4, d5⟩, ⟨d6, d7, d8, d9, d10⟩, ⟨d11, d12, d13, d14, d15⟩⟩ := HX0.cells4
  have Z1 := zzFits1_ret s.n1 s.o1 s.d1
  cases k1 : fits s.n1
  · rw [k1] at Z1
    have Z1 := Lib.hid Z1
    clear k1
    unfold zonV ruA at *
    go_enter Try.func13, Try.ntmps13
    go_wp2_with fail
    refine (Z1.out.bx HX0).mono ?_
    rintro e w1 ⟨rfl, HX1⟩
    clear d0 d1 d2 d3 d4 d5 d6 d7 d8 d9 d10 d11 d12 d13 d14 d15
    obtain ⟨⟨d0, d1, d2⟩, ⟨d3, d4, d5⟩, ⟨d6, d7, d8, d9, d10⟩, ⟨d11, d12, d13, d14, d15⟩⟩ := HX1.cells4
    have hlt1 := boxes4_lt HX1
    go_wp2_with fail
    go_ret
    exact ⟨rfl, HX1.1⟩
  rw [k1] at Z1
  have Z1 := Lib.hid Z1
  have Z2 := zzFits1_ret s.n2 s.o2 s.d2
  cases k2 : fits s.n2
  · rw [k2] at Z2
    have Z2 := Lib.hid Z2
    clear k1 k2
    unfold zonV ruA at *
    go_enter Try.func13, Try.ntmps13
    go_wp2_with fail
    refine (Z1.out.bx HX0).mono ?_
    rintro e w1 ⟨rfl, HX1⟩
    clear d0 d1 d2 d3 d4 d5 d6 d7 d8 d9 d10 d11 d12 d13 d14 d15
    obtain ⟨⟨d0, d1, d2⟩, ⟨d3, d4, d5⟩, ⟨d6, d7, d8, d9, d10⟩, ⟨d11, d12, d13, d14, d15⟩⟩ := HX1.cells4
    have hlt1 := boxes4_lt HX1
    go_wp2_with fail
    refine (Z2.out.bx HX1).mono ?_
    rintro e w2 ⟨rfl, HX2⟩
    clear d0 d1 d2 d3 d4 d5 d6 d7 d8 d9 d10 d11 d12 d13 d14 d15
    obtain ⟨⟨d0, d1, d2⟩, ⟨d3, d4, d5⟩, ⟨d6, d7, d8, d9, d10⟩, ⟨d11, d12, d13, d14, d15⟩⟩ := HX2.cells4
    have hlt2 := boxes4_lt HX2
    go_wp2_with fail
    go_ret
    exact ⟨rfl, HX2.1⟩
  rw [k2] at Z2
  have Z2 := Lib.hid Z2
  simp only [fits, decide_eq_true_eq] at k1 k2
  have HO := Lib.hid (SeasonOk_ret s (by omega) (by omega))
  clear k1 k2
  unfold zonV ruA at *
  go_enter Try.func13, Try.ntmps13
  go_wp2_with fail
  refine (Z1.out.bx HX0).mono ?_
  rintro e w1 ⟨rfl, HX1⟩
  clear d0 d1 d2 d3 d4 d5 d6 d7 d8 d9 d10 d11 d12 d13 d14 d15
  obtain ⟨⟨d0, d1, d2⟩, ⟨d3, d4, d5⟩, ⟨d6, d7, d8, d9, d10⟩, ⟨d11, d12, d13, d14, d15⟩⟩ := HX1.cells4
  have hlt1 := boxes4_lt HX1
  go_wp2_with fail
  refine (Z2.out.bx HX1).mono ?_
  rintro e w2 ⟨rfl, HX2⟩
  clear d0 d1 d2 d3 d4 d5 d6 d7 d8 d9 d10 d11 d12 d13 d14 d15
  obtain ⟨⟨d0, d1, d2⟩, ⟨d3, d4, d5⟩, ⟨d6, d7, d8, d9, d10⟩, ⟨d11, d12, d13, d14, d15⟩⟩ := HX2.cells4
  have hlt2 := boxes4_lt HX2
  go_upto_region 4 with fail
  have HB2 := HX2.1
  have HS0 := InS.new w2 s
  clear d0 d1 d2 d3 d4 d5 d6 d7 d8 d9 d10 d11 d12 d13 d14 d15 HX0 HX1 HX2 hlt1 hlt2 Z1 Z2
  obtain ⟨⟨c0, c1, c2, c3, c4, c5, c6, c7, c8, c9, c10, c11, c12, c13, c14, c15⟩, _⟩ := HS0.all
  have HRD := Lib.hid reads_ret
  cases hok : seOk s
  · rw [hok] at HO
    clear hok
    go_wp2_with fail
    refine (HO.out.se HS0).mono ?_
    rintro e u1 ⟨rfl, HS1⟩
    clear c0 c1 c2 c3 c4 c5 c6 c7 c8 c9 c10 c11 c12 c13 c14 c15
    obtain ⟨⟨c0, c1, c2, c3, c4, c5, c6, c7, c8, c9, c10, c11, c12, c13, c14, c15⟩, _⟩ := HS1.all
    have hls1 := HS1.1.lt
    go_wp2_with fail
    refine (HRD.out.se HS1).mono ?_
    rintro e u2 ⟨rfl, HS2⟩
    clear c0 c1 c2 c3 c4 c5 c6 c7 c8 c9 c10 c11 c12 c13 c14 c15
    obtain ⟨⟨c0, c1, c2, c3, c4, c5, c6, c7, c8, c9, c10, c11, c12, c13, c14, c15⟩, _⟩ := HS2.all
    have hls2 := HS2.1.lt
    go_wp2_with fail
    go_ret
    exact ⟨rfl, HB2.trans (HS2.2.mono HB2.size)⟩
  rw [hok] at HO
  by_cases hs0 : sec < 0
  · clear hok
    go_wp2_with fail
    refine (HO.out.se HS0).mono ?_
    rintro e u1 ⟨rfl, HS1⟩
    clear c0 c1 c2 c3 c4 c5 c6 c7 c8 c9 c10 c11 c12 c13 c14 c15
    obtain ⟨⟨c0, c1, c2, c3, c4, c5, c6, c7, c8, c9, c10, c11, c12, c13, c14, c15⟩, _⟩ := HS1.all
    have hls1 := HS1.1.lt
    go_wp2_with fail
    refine (HRD.out.se HS1).mono ?_
    rintro e u2 ⟨rfl, HS2⟩
    clear c0 c1 c2 c3 c4 c5 c6 c7 c8 c9 c10 c11 c12 c13 c14 c15
    obtain ⟨⟨c0, c1, c2, c3, c4, c5, c6, c7, c8, c9, c10, c11, c12, c13, c14, c15⟩, _⟩ := HS2.all
    have hls2 := HS2.1.lt
    go_wp2_with fail
    go_ret
    exact ⟨rfl, HB2.trans (HS2.2.mono HB2.size)⟩
  by_cases hs1 : 253402300799 < sec
  · clear hok
    go_wp2_with fail
    refine (HO.out.se HS0).mono ?_
    rintro e u1 ⟨rfl, HS1⟩
    clear c0 c1 c2 c3 c4 c5 c6 c7 c8 c9 c10 c11 c12 c13 c14 c15
    obtain ⟨⟨c0, c1, c2, c3, c4, c5, c6, c7, c8, c9, c10, c11, c12, c13, c14, c15⟩, _⟩ := HS1.all
    have hls1 := HS1.1.lt
    go_wp2_with fail
    refine (HRD.out.se HS1).mono ?_
    rintro e u2 ⟨rfl, HS2⟩
    clear c0 c1 c2 c3 c4 c5 c6 c7 c8 c9 c10 c11 c12 c13 c14 c15
    obtain ⟨⟨c0, c1, c2, c3, c4, c5, c6, c7, c8, c9, c10, c11, c12, c13, c14, c15⟩, _⟩ := HS2.all
    have hls2 := HS2.1.lt
    go_wp2_with fail
    go_ret
    exact ⟨rfl, HB2.trans (HS2.2.mono HB2.size)⟩
  have HY := Lib.hid (YearOf_ret sec (by omega) (by omega))
  obtain ⟨_, _, _, _, hY0, hY1⟩ := year_law sec (by omega) (by omega)
  have HQ := Lib.hid (YearStart_ret (tzYear sec) (by omega) (by omega))
  obtain ⟨by0, by1⟩ := ystF_bd sec (by omega) (by omega)
  have HL := Lib.hid (bounds_law s 0 sec hok (by omega) (by omega))
  have HT := Lib.hid (Text_ret s false hok)
  have HZ := Lib.hid (Tz_text s false 0 sec hok)
  clear hok
  generalize txtF s.n1 s.o1 s.n2 s.o2 s.r1 s.r2 false = T at *
  generalize seFo s 0 sec = f at *
  generalize ystF (tzYear sec) = ys at *
  generalize tzYear sec = Y at *
  by_cases h365 : 31536000 ≤ sec - ys
  · clear HL HT HZ
    go_wp2_with fail
    refine (HO.out.se HS0).mono ?_
    rintro e u1 ⟨rfl, HS1⟩
    clear c0 c1 c2 c3 c4 c5 c6 c7 c8 c9 c10 c11 c12 c13 c14 c15
    obtain ⟨⟨c0, c1, c2, c3, c4, c5, c6, c7, c8, c9, c10, c11, c12, c13, c14, c15⟩, _⟩ := HS1.all
    have hls1 := HS1.1.lt
    go_wp2_with fail
    refine (HY.out.se HS1).mono ?_
    rintro e u2 ⟨rfl, HS2⟩
    clear c0 c1 c2 c3 c4 c5 c6 c7 c8 c9 c10 c11 c12 c13 c14 c15
    obtain ⟨⟨c0, c1, c2, c3, c4, c5, c6, c7, c8, c9, c10, c11, c12, c13, c14, c15⟩, _⟩ := HS2.all
    have hls2 := HS2.1.lt
    go_wp2_with fail
    refine (HQ.out.se HS2).mono ?_
    rintro e u3 ⟨rfl, HS3⟩
    clear c0 c1 c2 c3 c4 c5 c6 c7 c8 c9 c10 c11 c12 c13 c14 c15
    obtain ⟨⟨c0, c1, c2, c3, c4, c5, c6, c7, c8, c9, c10, c11, c12, c13, c14, c15⟩, _⟩ := HS3.all
    have hls3 := HS3.1.lt
    go_wp2_with fail
    refine (HRD.out.se HS3).mono ?_
    rintro e u4 ⟨rfl, HS4⟩
    clear c0 c1 c2 c3 c4 c5 c6 c7 c8 c9 c10 c11 c12 c13 c14 c15
    obtain ⟨⟨c0, c1, c2, c3, c4, c5, c6, c7, c8, c9, c10, c11, c12, c13, c14, c15⟩, _⟩ := HS4.all
    have hls4 := HS4.1.lt
    go_wp2_with fail
    go_ret
    exact ⟨rfl, HB2.trans (HS4.2.mono HB2.size)⟩
  obtain ⟨hl0, hl1⟩ := HL.out (by omega)
  clear HL
  go_wp2_with fail
  refine (HO.out.se HS0).mono ?_
  rintro e u1 ⟨rfl, HS1⟩
  clear c0 c1 c2 c3 c4 c5 c6 c7 c8 c9 c10 c11 c12 c13 c14 c15
  obtain ⟨⟨c0, c1, c2, c3, c4, c5, c6, c7, c8, c9, c10, c11, c12, c13, c14, c15⟩, _⟩ := HS1.all
  have hls1 := HS1.1.lt
  go_wp2_with fail
  refine (HY.out.se HS1).mono ?_
  rintro e u2 ⟨rfl, HS2⟩
  clear c0 c1 c2 c3 c4 c5 c6 c7 c8 c9 c10 c11 c12 c13 c14 c15
  obtain ⟨⟨c0, c1, c2, c3, c4, c5, c6, c7, c8, c9, c10, c11, c12, c13, c14, c15⟩, _⟩ := HS2.all
  have hls2 := HS2.1.lt
  go_wp2_with fail
  refine (HQ.out.se HS2).mono ?_
  rintro e u3 ⟨rfl, HS3⟩
  clear c0 c1 c2 c3 c4 c5 c6 c7 c8 c9 c10 c11 c12 c13 c14 c15
  obtain ⟨⟨c0, c1, c2, c3, c4, c5, c6, c7, c8, c9, c10, c11, c12, c13, c14, c15⟩, _⟩ := HS3.all
  have hls3 := HS3.1.lt
  go_wp2_with fail
  refine (HT.out.se HS3).mono ?_
  rintro e u4 ⟨rfl, HS4⟩
  clear c0 c1 c2 c3 c4 c5 c6 c7 c8 c9 c10 c11 c12 c13 c14 c15
  obtain ⟨⟨c0, c1, c2, c3, c4, c5, c6, c7, c8, c9, c10, c11, c12, c13, c14, c15⟩, _⟩ := HS4.all
  have hls4 := HS4.1.lt
  go_wp2_with fail
  refine (HZ.out.se HS4).mono ?_
  rintro e u5 ⟨rfl, HS5⟩
  clear c0 c1 c2 c3 c4 c5 c6 c7 c8 c9 c10 c11 c12 c13 c14 c15
  obtain ⟨⟨c0, c1, c2, c3, c4, c5, c6, c7, c8, c9, c10, c11, c12, c13, c14, c15⟩, _⟩ := HS5.all
  have hls5 := HS5.1.lt
  unfold foA
  have hq5 := HB2.trans (HS5.2.mono HB2.size)
  have hz5 := hq5.size
  go_wp2_with fail
  go_ret
  exact ⟨rfl, by go_grown⟩
theorem fnTzsetBounds_all (n1 : Bs) (o1 : Int) (d1 : Bool) (n2 : Bs) (o2 : Int) (d2 : Bool) (r1 r2 : Ru) (sec : Int) : Ret 13 #[zonV n1 o1 d1, zonV n2 o2 d2, ruA r1, ruA r2, .int .i64 sec] (.bool true) :=
  fnTzsetBounds_walk ⟨n1, o1, d1, n2, o2, d2, r1, r2⟩ sec
end Go.Proofs.Ytkikpcfcjkgblaa
