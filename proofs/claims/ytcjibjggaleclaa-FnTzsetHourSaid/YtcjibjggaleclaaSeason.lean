/- A season (two zones and their rules) in memory; the reference's SeasonOk and Text. -/
import Derived.Test.YtcjibjggaleclaaTzLaw
import Derived.Test.YtcjibjggaleclaaNamed
import Derived.Deep.RegionHeld3
namespace Go.Proofs.Ytcjibjggaleclaa
open Go.RowKit

structure Se where
  n1 : Bs
  o1 : Int
  d1 : Bool
  n2 : Bs
  o2 : Int
  d2 : Bool
  r1 : Ru
  r2 : Ru
def seC (s : Se) : Array Value := #[.string (S s.n1), .int .i64 s.o1, .bool s.d1, .string (S s.n2), .int .i64 s.o2, .bool s.d2, .int .i64 s.r1.kind, .int .i64 s.r1.day, .int .i64 s.r1.week, .int .i64 s.r1.mon, .int .i64 s.r1.time, .int .i64 s.r2.kind, .int .i64 s.r2.day, .int .i64 s.r2.week, .int .i64 s.r2.mon, .int .i64 s.r2.time]
def seA (s : Se) : Value := .agg #[.string (S s.n1), .int .i64 s.o1, .bool s.d1, .string (S s.n2), .int .i64 s.o2, .bool s.d2, .int .i64 s.r1.kind, .int .i64 s.r1.day, .int .i64 s.r1.week, .int .i64 s.r1.mon, .int .i64 s.r1.time, .int .i64 s.r2.kind, .int .i64 s.r2.day, .int .i64 s.r2.week, .int .i64 s.r2.mon, .int .i64 s.r2.time]
/-- the box of a season, and all that was there before the call -/
def InS (w : World) (s : Se) (W : World) : Prop := Blk W w.heap.size 28 (seC s) ∧ Below w.heap.size w W
theorem InS.all {w W : World} {s : Se} (h : InS w s W) : (W.cell? ⟨w.heap.size, 0, none⟩ = some (.string (S s.n1)) ∧ W.cell? ⟨w.heap.size, 1, none⟩ = some (.int .i64 s.o1) ∧ W.cell? ⟨w.heap.size, 2, none⟩ = some (.bool s.d1) ∧ W.cell? ⟨w.heap.size, 3, none⟩ = some (.string (S s.n2)) ∧ W.cell? ⟨w.heap.size, 4, none⟩ = some (.int .i64 s.o2) ∧ W.cell? ⟨w.heap.size, 5, none⟩ = some (.bool s.d2) ∧ W.cell? ⟨w.heap.size, 6, none⟩ = some (.int .i64 s.r1.kind) ∧ W.cell? ⟨w.heap.size, 7, none⟩ = some (.int .i64 s.r1.day) ∧ W.cell? ⟨w.heap.size, 8, none⟩ = some (.int .i64 s.r1.week) ∧ W.cell? ⟨w.heap.size, 9, none⟩ = some (.int .i64 s.r1.mon) ∧ W.cell? ⟨w.heap.size, 10, none⟩ = some (.int .i64 s.r1.time) ∧ W.cell? ⟨w.heap.size, 11, none⟩ = some (.int .i64 s.r2.kind) ∧ W.cell? ⟨w.heap.size, 12, none⟩ = some (.int .i64 s.r2.day) ∧ W.cell? ⟨w.heap.size, 13, none⟩ = some (.int .i64 s.r2.week) ∧ W.cell? ⟨w.heap.size, 14, none⟩ = some (.int .i64 s.r2.mon) ∧ W.cell? ⟨w.heap.size, 15, none⟩ = some (.int .i64 s.r2.time)) ∧ InS w s W :=
  ⟨⟨h.1.cell 0, h.1.cell 1, h.1.cell 2, h.1.cell 3, h.1.cell 4, h.1.cell 5, h.1.cell 6, h.1.cell 7, h.1.cell 8, h.1.cell 9, h.1.cell 10, h.1.cell 11, h.1.cell 12, h.1.cell 13, h.1.cell 14, h.1.cell 15⟩, h⟩
theorem InS.drew {w W : World} {s : Se} (h : InS w s W) : InS w s W.drew := ⟨h.1, h.2.drew⟩
theorem InS.drewN {w W : World} {s : Se} (h : InS w s W) (n : Nat) : InS w s (W.drewN n) := ⟨h.1, below_drewN h.2 n⟩
theorem InS.below {w W W' : World} {s : Se} (h : InS w s W) (hb : Below W.heap.size W W') : InS w s W' := ⟨h.1.below hb h.1.lt, h.2.trans (hb.mono h.2.size)⟩
theorem InS.new (w : World) (s : Se) : InS w s (w.alloc (.cells #[.string (S s.n1), .int .i64 s.o1, .bool s.d1, .string (S s.n2), .int .i64 s.o2, .bool s.d2, .int .i64 s.r1.kind, .int .i64 s.r1.day, .int .i64 s.r1.week, .int .i64 s.r1.mon, .int .i64 s.r1.time, .int .i64 s.r2.kind, .int .i64 s.r2.day, .int .i64 s.r2.week, .int .i64 s.r2.mon, .int .i64 s.r2.time] 28)) := ⟨Blk.new w _ _ _ rfl, (Below.refl _ _).alloc (Nat.le_refl _) _⟩
theorem Ret.se {f : FuncId} {args : Array Value} {v : Value} (h : Ret f args v) {w : World} {s : Se} {W : World} (hB : InS w s W) : Calls Try.prog f args W fun e W' => e = .returned v ∧ InS w s W' := (h W).mono fun _ _ ⟨he, hb⟩ => ⟨he, hB.below hb⟩
theorem Ret.seAt {f : FuncId} {args : Array Value} {v : Value} (h : Ret f args v) (w : World) (s : Se) (W : World) (hB : InS w s W) : Calls Try.prog f args W fun e W' => e = .returned v ∧ InS w s W' := h.se hB

def seOk (s : Se) : Bool := brackB s.n1 && brackB s.n2 && inB s.o1 (-86400) 86400 && inB s.o2 (-86400) 86400 && ruOk s.r1 && ruOk s.r2
set_option maxRecDepth 100000 in
set_option maxHeartbeats 16000000 in
theorem SeasonOk_ret (s : Se) (h1 : s.n1.length ≤ 4294967296) (h2 : s.n2.length ≤ 4294967296) : Ret 6 #[seA s] (.bool (seOk s)) := by
  intro w
  have HX0 := InS.new w s
  obtain ⟨⟨c0, c1, c2, c3, c4, c5, c6, c7, c8, c9, c10, c11, c12, c13, c14, c15⟩, _⟩ := HX0.all
  have H1 := Bracketed_ret s.n1 h1
  cases k1 : brackB s.n1
  · rw [k1] at H1
    have H1 := Lib.hid H1
    have HF := Lib.hid (show seOk s = false by simp [seOk, k1])
    clear k1
    unfold seA at *
    go_enter Try.func6, Try.ntmps6
    go_wp2_with fail
    refine (H1.out.se HX0).mono ?_
    rintro e w1 ⟨rfl, HX1⟩
    clear c0 c1 c2 c3 c4 c5 c6 c7 c8 c9 c10 c11 c12 c13 c14 c15
    obtain ⟨⟨c0, c1, c2, c3, c4, c5, c6, c7, c8, c9, c10, c11, c12, c13, c14, c15⟩, _⟩ := HX1.all
    have hlt1 := HX1.1.lt
    go_wp2_with fail
    go_ret
    rw [HF.out]
    exact ⟨rfl, HX1.2⟩
  rw [k1] at H1
  have H1 := Lib.hid H1
  have H2 := Bracketed_ret s.n2 h2
  cases k2 : brackB s.n2
  · rw [k2] at H2
    have H2 := Lib.hid H2
    have HF := Lib.hid (show seOk s = false by simp [seOk, k2])
    clear k1 k2
    unfold seA at *
    go_enter Try.func6, Try.ntmps6
    go_wp2_with fail
    refine (H1.out.se HX0).mono ?_
    rintro e w1 ⟨rfl, HX1⟩
    clear c0 c1 c2 c3 c4 c5 c6 c7 c8 c9 c10 c11 c12 c13 c14 c15
    obtain ⟨⟨c0, c1, c2, c3, c4, c5, c6, c7, c8, c9, c10, c11, c12, c13, c14, c15⟩, _⟩ := HX1.all
    have hlt1 := HX1.1.lt
    go_wp2_with fail
    refine (H2.out.se HX1).mono ?_
    rintro e w2 ⟨rfl, HX2⟩
    clear c0 c1 c2 c3 c4 c5 c6 c7 c8 c9 c10 c11 c12 c13 c14 c15
    obtain ⟨⟨c0, c1, c2, c3, c4, c5, c6, c7, c8, c9, c10, c11, c12, c13, c14, c15⟩, _⟩ := HX2.all
    have hlt2 := HX2.1.lt
    go_wp2_with fail
    go_ret
    rw [HF.out]
    exact ⟨rfl, HX2.2⟩
  rw [k2] at H2
  have H2 := Lib.hid H2
  have H3 := Within_ret s.o1 (-86400) 86400
  cases k3 : inB s.o1 (-86400) 86400
  · rw [k3] at H3
    have H3 := Lib.hid H3
    have HF := Lib.hid (show seOk s = false by simp [seOk, k3])
    clear k1 k2 k3
    unfold seA at *
    go_enter Try.func6, Try.ntmps6
    go_wp2_with fail
    refine (H1.out.se HX0).mono ?_
    rintro e w1 ⟨rfl, HX1⟩
    clear c0 c1 c2 c3 c4 c5 c6 c7 c8 c9 c10 c11 c12 c13 c14 c15
    obtain ⟨⟨c0, c1, c2, c3, c4, c5, c6, c7, c8, c9, c10, c11, c12, c13, c14, c15⟩, _⟩ := HX1.all
    have hlt1 := HX1.1.lt
    go_wp2_with fail
    refine (H2.out.se HX1).mono ?_
    rintro e w2 ⟨rfl, HX2⟩
    clear c0 c1 c2 c3 c4 c5 c6 c7 c8 c9 c10 c11 c12 c13 c14 c15
    obtain ⟨⟨c0, c1, c2, c3, c4, c5, c6, c7, c8, c9, c10, c11, c12, c13, c14, c15⟩, _⟩ := HX2.all
    have hlt2 := HX2.1.lt
    go_wp2_with fail
    refine (H3.out.se HX2).mono ?_
    rintro e w3 ⟨rfl, HX3⟩
    clear c0 c1 c2 c3 c4 c5 c6 c7 c8 c9 c10 c11 c12 c13 c14 c15
    obtain ⟨⟨c0, c1, c2, c3, c4, c5, c6, c7, c8, c9, c10, c11, c12, c13, c14, c15⟩, _⟩ := HX3.all
    have hlt3 := HX3.1.lt
    go_wp2_with fail
    go_ret
    rw [HF.out]
    exact ⟨rfl, HX3.2⟩
  rw [k3] at H3
  have H3 := Lib.hid H3
  have H4 := Within_ret s.o2 (-86400) 86400
  cases k4 : inB s.o2 (-86400) 86400
  · rw [k4] at H4
    have H4 := Lib.hid H4
    have HF := Lib.hid (show seOk s = false by simp [seOk, k4])
    clear k1 k2 k3 k4
    unfold seA at *
    go_enter Try.func6, Try.ntmps6
    go_wp2_with fail
    refine (H1.out.se HX0).mono ?_
    rintro e w1 ⟨rfl, HX1⟩
    clear c0 c1 c2 c3 c4 c5 c6 c7 c8 c9 c10 c11 c12 c13 c14 c15
    obtain ⟨⟨c0, c1, c2, c3, c4, c5, c6, c7, c8, c9, c10, c11, c12, c13, c14, c15⟩, _⟩ := HX1.all
    have hlt1 := HX1.1.lt
    go_wp2_with fail
    refine (H2.out.se HX1).mono ?_
    rintro e w2 ⟨rfl, HX2⟩
    clear c0 c1 c2 c3 c4 c5 c6 c7 c8 c9 c10 c11 c12 c13 c14 c15
    obtain ⟨⟨c0, c1, c2, c3, c4, c5, c6, c7, c8, c9, c10, c11, c12, c13, c14, c15⟩, _⟩ := HX2.all
    have hlt2 := HX2.1.lt
    go_wp2_with fail
    refine (H3.out.se HX2).mono ?_
    rintro e w3 ⟨rfl, HX3⟩
    clear c0 c1 c2 c3 c4 c5 c6 c7 c8 c9 c10 c11 c12 c13 c14 c15
    obtain ⟨⟨c0, c1, c2, c3, c4, c5, c6, c7, c8, c9, c10, c11, c12, c13, c14, c15⟩, _⟩ := HX3.all
    have hlt3 := HX3.1.lt
    go_wp2_with fail
    refine (H4.out.se HX3).mono ?_
    rintro e w4 ⟨rfl, HX4⟩
    clear c0 c1 c2 c3 c4 c5 c6 c7 c8 c9 c10 c11 c12 c13 c14 c15
    obtain ⟨⟨c0, c1, c2, c3, c4, c5, c6, c7, c8, c9, c10, c11, c12, c13, c14, c15⟩, _⟩ := HX4.all
    have hlt4 := HX4.1.lt
    go_wp2_with fail
    go_ret
    rw [HF.out]
    exact ⟨rfl, HX4.2⟩
  rw [k4] at H4
  have H4 := Lib.hid H4
  have H5 := RuleOk_ret s.r1
  cases k5 : ruOk s.r1
  · rw [k5] at H5
    have H5 := Lib.hid H5
    have HF := Lib.hid (show seOk s = false by simp [seOk, k5])
    clear k1 k2 k3 k4 k5
    unfold seA ruA at *
    go_enter Try.func6, Try.ntmps6
    go_wp2_with fail
    refine (H1.out.se HX0).mono ?_
    rintro e w1 ⟨rfl, HX1⟩
    clear c0 c1 c2 c3 c4 c5 c6 c7 c8 c9 c10 c11 c12 c13 c14 c15
    obtain ⟨⟨c0, c1, c2, c3, c4, c5, c6, c7, c8, c9, c10, c11, c12, c13, c14, c15⟩, _⟩ := HX1.all
    have hlt1 := HX1.1.lt
    go_wp2_with fail
    refine (H2.out.se HX1).mono ?_
    rintro e w2 ⟨rfl, HX2⟩
    clear c0 c1 c2 c3 c4 c5 c6 c7 c8 c9 c10 c11 c12 c13 c14 c15
    obtain ⟨⟨c0, c1, c2, c3, c4, c5, c6, c7, c8, c9, c10, c11, c12, c13, c14, c15⟩, _⟩ := HX2.all
    have hlt2 := HX2.1.lt
    go_wp2_with fail
    refine (H3.out.se HX2).mono ?_
    rintro e w3 ⟨rfl, HX3⟩
    clear c0 c1 c2 c3 c4 c5 c6 c7 c8 c9 c10 c11 c12 c13 c14 c15
    obtain ⟨⟨c0, c1, c2, c3, c4, c5, c6, c7, c8, c9, c10, c11, c12, c13, c14, c15⟩, _⟩ := HX3.all
    have hlt3 := HX3.1.lt
    go_wp2_with fail
    refine (H4.out.se HX3).mono ?_
    rintro e w4 ⟨rfl, HX4⟩
    clear c0 c1 c2 c3 c4 c5 c6 c7 c8 c9 c10 c11 c12 c13 c14 c15
    obtain ⟨⟨c0, c1, c2, c3, c4, c5, c6, c7, c8, c9, c10, c11, c12, c13, c14, c15⟩, _⟩ := HX4.all
    have hlt4 := HX4.1.lt
    go_wp2_with fail
    refine (H5.out.se HX4).mono ?_
    rintro e w5 ⟨rfl, HX5⟩
    clear c0 c1 c2 c3 c4 c5 c6 c7 c8 c9 c10 c11 c12 c13 c14 c15
    obtain ⟨⟨c0, c1, c2, c3, c4, c5, c6, c7, c8, c9, c10, c11, c12, c13, c14, c15⟩, _⟩ := HX5.all
    have hlt5 := HX5.1.lt
    go_wp2_with fail
    go_ret
    rw [HF.out]
    exact ⟨rfl, HX5.2⟩
  rw [k5] at H5
  have H5 := Lib.hid H5
  have H6 := RuleOk_ret s.r2
  cases k6 : ruOk s.r2
  · rw [k6] at H6
    have H6 := Lib.hid H6
    have HF := Lib.hid (show seOk s = false by simp [seOk, k6])
    clear k1 k2 k3 k4 k5 k6
    unfold seA ruA at *
    go_enter Try.func6, Try.ntmps6
    go_wp2_with fail
    refine (H1.out.se HX0).mono ?_
    rintro e w1 ⟨rfl, HX1⟩
    clear c0 c1 c2 c3 c4 c5 c6 c7 c8 c9 c10 c11 c12 c13 c14 c15
    obtain ⟨⟨c0, c1, c2, c3, c4, c5, c6, c7, c8, c9, c10, c11, c12, c13, c14, c15⟩, _⟩ := HX1.all
    have hlt1 := HX1.1.lt
    go_wp2_with fail
    refine (H2.out.se HX1).mono ?_
    rintro e w2 ⟨rfl, HX2⟩
    clear c0 c1 c2 c3 c4 c5 c6 c7 c8 c9 c10 c11 c12 c13 c14 c15
    obtain ⟨⟨c0, c1, c2, c3, c4, c5, c6, c7, c8, c9, c10, c11, c12, c13, c14, c15⟩, _⟩ := HX2.all
    have hlt2 := HX2.1.lt
    go_wp2_with fail
    refine (H3.out.se HX2).mono ?_
    rintro e w3 ⟨rfl, HX3⟩
    clear c0 c1 c2 c3 c4 c5 c6 c7 c8 c9 c10 c11 c12 c13 c14 c15
    obtain ⟨⟨c0, c1, c2, c3, c4, c5, c6, c7, c8, c9, c10, c11, c12, c13, c14, c15⟩, _⟩ := HX3.all
    have hlt3 := HX3.1.lt
    go_wp2_with fail
    refine (H4.out.se HX3).mono ?_
    rintro e w4 ⟨rfl, HX4⟩
    clear c0 c1 c2 c3 c4 c5 c6 c7 c8 c9 c10 c11 c12 c13 c14 c15
    obtain ⟨⟨c0, c1, c2, c3, c4, c5, c6, c7, c8, c9, c10, c11, c12, c13, c14, c15⟩, _⟩ := HX4.all
    have hlt4 := HX4.1.lt
    go_wp2_with fail
    refine (H5.out.se HX4).mono ?_
    rintro e w5 ⟨rfl, HX5⟩
    clear c0 c1 c2 c3 c4 c5 c6 c7 c8 c9 c10 c11 c12 c13 c14 c15
    obtain ⟨⟨c0, c1, c2, c3, c4, c5, c6, c7, c8, c9, c10, c11, c12, c13, c14, c15⟩, _⟩ := HX5.all
    have hlt5 := HX5.1.lt
    go_wp2_with fail
    refine (H6.out.se HX5).mono ?_
    rintro e w6 ⟨rfl, HX6⟩
    clear c0 c1 c2 c3 c4 c5 c6 c7 c8 c9 c10 c11 c12 c13 c14 c15
    obtain ⟨⟨c0, c1, c2, c3, c4, c5, c6, c7, c8, c9, c10, c11, c12, c13, c14, c15⟩, _⟩ := HX6.all
    have hlt6 := HX6.1.lt
    go_wp2_with fail
    go_ret
    rw [HF.out]
    exact ⟨rfl, HX6.2⟩
  rw [k6] at H6
  have H6 := Lib.hid H6
  have HF := Lib.hid (show seOk s = true by simp [seOk, k1, k2, k3, k4, k5, k6])
  clear k1 k2 k3 k4 k5 k6
  unfold seA ruA at *
  go_enter Try.func6, Try.ntmps6
  go_wp2_with fail
  refine (H1.out.se HX0).mono ?_
  rintro e w1 ⟨rfl, HX1⟩
  clear c0 c1 c2 c3 c4 c5 c6 c7 c8 c9 c10 c11 c12 c13 c14 c15
  obtain ⟨⟨c0, c1, c2, c3, c4, c5, c6, c7, c8, c9, c10, c11, c12, c13, c14, c15⟩, _⟩ := HX1.all
  have hlt1 := HX1.1.lt
  go_wp2_with fail
  refine (H2.out.se HX1).mono ?_
  rintro e w2 ⟨rfl, HX2⟩
  clear c0 c1 c2 c3 c4 c5 c6 c7 c8 c9 c10 c11 c12 c13 c14 c15
  obtain ⟨⟨c0, c1, c2, c3, c4, c5, c6, c7, c8, c9, c10, c11, c12, c13, c14, c15⟩, _⟩ := HX2.all
  have hlt2 := HX2.1.lt
  go_wp2_with fail
  refine (H3.out.se HX2).mono ?_
  rintro e w3 ⟨rfl, HX3⟩
  clear c0 c1 c2 c3 c4 c5 c6 c7 c8 c9 c10 c11 c12 c13 c14 c15
  obtain ⟨⟨c0, c1, c2, c3, c4, c5, c6, c7, c8, c9, c10, c11, c12, c13, c14, c15⟩, _⟩ := HX3.all
  have hlt3 := HX3.1.lt
  go_wp2_with fail
  refine (H4.out.se HX3).mono ?_
  rintro e w4 ⟨rfl, HX4⟩
  clear c0 c1 c2 c3 c4 c5 c6 c7 c8 c9 c10 c11 c12 c13 c14 c15
  obtain ⟨⟨c0, c1, c2, c3, c4, c5, c6, c7, c8, c9, c10, c11, c12, c13, c14, c15⟩, _⟩ := HX4.all
  have hlt4 := HX4.1.lt
  go_wp2_with fail
  refine (H5.out.se HX4).mono ?_
  rintro e w5 ⟨rfl, HX5⟩
  clear c0 c1 c2 c3 c4 c5 c6 c7 c8 c9 c10 c11 c12 c13 c14 c15
  obtain ⟨⟨c0, c1, c2, c3, c4, c5, c6, c7, c8, c9, c10, c11, c12, c13, c14, c15⟩, _⟩ := HX5.all
  have hlt5 := HX5.1.lt
  go_wp2_with fail
  refine (H6.out.se HX5).mono ?_
  rintro e w6 ⟨rfl, HX6⟩
  clear c0 c1 c2 c3 c4 c5 c6 c7 c8 c9 c10 c11 c12 c13 c14 c15
  obtain ⟨⟨c0, c1, c2, c3, c4, c5, c6, c7, c8, c9, c10, c11, c12, c13, c14, c15⟩, _⟩ := HX6.all
  have hlt6 := HX6.1.lt
  go_wp2_with fail
  go_ret
  rw [HF.out]
  exact ⟨rfl, HX6.2⟩

theorem seOk_all (s : Se) (h : seOk s = true) : brackB s.n1 = true ∧ brackB s.n2 = true ∧ (-86400 ≤ s.o1 ∧ s.o1 ≤ 86400) ∧ (-86400 ≤ s.o2 ∧ s.o2 ≤ 86400) ∧ ruOk s.r1 = true ∧ ruOk s.r2 = true := by
  simp only [seOk, Bool.and_eq_true, inB_iff] at h
  obtain ⟨⟨⟨⟨⟨a, b⟩, c⟩, d⟩, e⟩, f⟩ := h
  exact ⟨a, b, c, d, e, f⟩
end Go.Proofs.Ytcjibjggaleclaa
