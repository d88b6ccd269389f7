/- FnTzsetFixed: its walk. -/
import Derived.Test.YtkikpcfcjkgblaaImplTz
import Derived.Test.YtkikpcfcjkgblaaTzLaw
import Derived.Test.YtkikpcfcjkgblaaNamed
namespace Go.Proofs.Ytkikpcfcjkgblaa
open Go.RowKit

theorem implTz_of (s : Bs) (hs : s.length ≤ 4294967296) (last sec : Int) (p : TzP) (x : Fo × Bool) (h : tzA s = p) (hx : tzFo last sec p = x) : Ret 38 #[.string (S s), .int .i64 last, .int .i64 sec] (.tuple #[foA x.1, .bool x.2]) := by
  have := implTzset_ret s hs last sec
  rw [h, hx] at this
  exact this
theorem fixed_call (n : Bs) (o last sec : Int) (hn : brackB n = true) (h0 : -86400 ≤ o) (h1 : o ≤ 86400) :
    Ret 38 #[.string (S (nameT n ++ clkT (-o) false)), .int .i64 last, .int .i64 sec] (.tuple #[foA ⟨n, o, last, 9223372036854775807, false⟩, .bool true]) := by
  have h1' := nameT_len n
  have h2 := clkT_len (-o) false
  have h3 := brackB_len n hn
  exact implTz_of _ (by rw [List.length_append]; omega) last sec _ _ (tzA_fixed n o hn h0 h1) rfl

set_option maxHeartbeats 4000000 in
theorem fnTzsetFixed_walk (n : Bs) (o last sec : Int) : Ret 14 #[.string (S n), .int .i64 o, .int .i64 last, .int .i64 sec] (.bool true) := by
  intro w
  by_cases hl : (2147483647 : Int) < (n.length : Int)
  · go_enter Try.func14, Try.ntmps14
    go_wp2_with fail
    go_ret
    exact ⟨rfl, Below.refl _ _⟩
  have HB := Bracketed_ret n (by omega)
  have HT := Lib.hid (specName_ret n (by omega))
  cases hb : brackB n
  · rw [hb] at HB
    have HB := Lib.hid HB
    clear hb
    go_enter Try.func14, Try.ntmps14
    go_wp2_with fail
    refine (HB.out _).mono ?_
    rintro e w1 ⟨rfl, hb1⟩
    go_wp2_with fail
    refine (reads_ret _).mono ?_
    rintro e w2 ⟨rfl, hb2'⟩
    have hb2 : Below w.heap.size w w2 := hb1.trans (hb2'.mono hb1.size)
    go_wp2_with fail
    go_ret
    exact ⟨rfl, hb2⟩
  rw [hb] at HB
  have HB := Lib.hid HB
  have HW := Within_ret o (-86400) 86400
  cases hw : inB o (-86400) 86400
  · rw [hw] at HW
    have HW := Lib.hid HW
    clear hb hw
    go_enter Try.func14, Try.ntmps14
    go_wp2_with fail
    refine (HB.out _).mono ?_
    rintro e w1 ⟨rfl, hb1⟩
    go_wp2_with fail
    refine (HW.out _).mono ?_
    rintro e w2 ⟨rfl, hb2'⟩
    have hb2 : Below w.heap.size w w2 := hb1.trans (hb2'.mono hb1.size)
    go_wp2_with fail
    refine (reads_ret _).mono ?_
    rintro e w3 ⟨rfl, hb3'⟩
    have hb3 : Below w.heap.size w w3 := hb2.trans (hb3'.mono hb2.size)
    go_wp2_with fail
    go_ret
    exact ⟨rfl, hb3⟩
  rw [hw] at HW
  have HW := Lib.hid HW
  rw [inB_iff] at hw
  obtain ⟨h0, h1⟩ := hw
  have HC := Lib.hid (Clock_ret (-o) false (by omega) (by omega))
  have HF := Lib.hid (fixed_call n o last sec hb h0 h1)
  have hlT := nameT_len n
  have hlc := clkT_len (-o) false
  have hln := (brackB_len n hb).2
  clear hb
  go_enter Try.func14, Try.ntmps14
  go_wp2_with fail
  refine (HB.out _).mono ?_
  rintro e w1 ⟨rfl, hb1⟩
  go_wp2_with fail
  refine (HW.out _).mono ?_
  rintro e w2 ⟨rfl, hb2'⟩
  have hb2 : Below w.heap.size w w2 := hb1.trans (hb2'.mono hb1.size)
  go_wp2_with fail
  refine (HT.out _).mono ?_
  rintro e w3 ⟨rfl, hb3'⟩
  have hb3 : Below w.heap.size w w3 := hb2.trans (hb3'.mono hb2.size)
  go_wp2_with fail
  refine (HC.out _).mono ?_
  rintro e w4 ⟨rfl, hb4'⟩
  have hb4 : Below w.heap.size w w4 := hb3.trans (hb4'.mono hb3.size)
  go_wp2_with fail
  refine (HF.out _).mono ?_
  rintro e w5 ⟨rfl, hb5'⟩
  have hb5 : Below w.heap.size w w5 := hb4.trans (hb5'.mono hb4.size)
  have hsz := hb5.size
  unfold foA
  go_wp2_with fail
  go_ret
  exact ⟨rfl, by go_grown⟩

end Go.Proofs.Ytkikpcfcjkgblaa
