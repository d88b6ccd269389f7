/- The reference's YearStart and YearOf. -/
import Derived.Test.YtcjibjggaleclaaTzLaw
import Derived.Test.YtcjibjggaleclaaSpecCal
namespace Go.Proofs.Ytcjibjggaleclaa
open Go.RowKit

theorem ahead_70 : ahead 1970 = 719162 := by decide
theorem YearStart_ret (y : Int) (h0 : 1 ≤ y) (h1 : y ≤ 20000) : Ret 22 #[.int .i64 y] (.int .i64 (ystF y)) := by
  intro w
  have ha := ahead_bd y h0 h1
  have HA := Lib.hid (Ahead_ret y h0 h1)
  have HB0 := Ahead_ret 1970 (by omega) (by omega)
  rw [ahead_70] at HB0
  have HB := Lib.hid HB0
  clear HB0
  have HF := Lib.hid (show ystF y = (ahead y - 719162) * 86400 from rfl)
  generalize ahead y = ah at *
  generalize ystF y = ys at *
  obtain ⟨ha0, ha1⟩ := ha
  go_enter Try.func22, Try.ntmps22
  go_wp2_with fail
  refine (HA.out _).mono ?_
  rintro e w1 ⟨rfl, hb1⟩
  go_wp2_with fail
  refine (HB.out _).mono ?_
  rintro e w2 ⟨rfl, hb2'⟩
  have hb2 : Below w.heap.size w w2 := hb1.trans (hb2'.mono hb1.size)
  go_wp2_with fail
  go_ret
  rw [HF.out]
  exact ⟨rfl, hb2⟩

set_option maxHeartbeats 1000000 in
theorem YearOf_ret (sec : Int) (h0 : 0 ≤ sec) (h1 : sec ≤ 253402300799) : Ret 21 #[.int .i64 sec] (.int .i64 (tzYear sec)) := by
  intro w
  obtain ⟨_, _, _, _, hY0, hY1⟩ := year_law sec h0 h1
  have hfr := year_from sec h0 h1
  have HO := Lib.hid (fun y => year_only sec y h0 h1)
  have HN := Lib.hid (fun y => year_next sec y h0 h1)
  generalize tzYear sec = Y at *
  have hq0 : 0 ≤ sec / 86400 / 366 := by omega
  go_enter Try.func21, Try.ntmps21
  go_wp2_with fail
  go_loopw [3] (fun y W => ∃ k : Int, 1970 ≤ k ∧ k ≤ Y ∧ y = .int .i64 k ∧ Below w.heap.size w W) (fun y _ => (20000 - intOf y).toNat)
  case atStart => exact ⟨1970 + sec / 86400 / 366, by omega, hfr, rfl, Below.refl _ _⟩
  case round =>
    obtain ⟨k, hk0, hk1, rfl, hb⟩ := hrel
    have HS := Lib.hid (YearStart_ret (k + 1) (by omega) (by omega))
    by_cases hle : ystF (k + 1) ≤ sec
    · have hnx := HN.out k hle
      generalize ystF (k + 1) = ys at *
      go_wp2_with fail
      refine (HS.out _).mono ?_
      rintro e w1 ⟨rfl, hb1'⟩
      have hb1 : Below w.heap.size w w1 := hb.trans (hb1'.mono hb.size)
      go_wp2_with fail
      go_roundw
      case rel => exact ⟨k + 1, by omega, by omega, rfl, hb1⟩
      case measure => simp [intOf]; omega
    · have hk := HO.out k hk1 (by omega)
      have HK := Lib.hid hk
      clear hk
      have hlt : sec < ystF (k + 1) := by omega
      generalize ystF (k + 1) = ys at *
      go_wp2_with fail
      refine (HS.out _).mono ?_
      rintro e w1 ⟨rfl, hb1'⟩
      have hb1 : Below w.heap.size w w1 := hb.trans (hb1'.mono hb.size)
      go_wp2_with fail
      go_ret
      rw [HK.out]
      exact ⟨rfl, hb1⟩

end Go.Proofs.Ytcjibjggaleclaa
