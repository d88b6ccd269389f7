/- Tzset of the package and of the thin package. -/
import Derived.Test.YtcjibjggaleclaaTzFo
import Derived.Test.YtcjibjggaleclaaTzset
namespace Go.Proofs.Ytcjibjggaleclaa
open Go.RowKit

theorem pubTzset_ret (s : Bs) (hs : s.length ≤ 4294967296) (last sec : Int) : Ret 17 #[.string (S s), .int .i64 last, .int .i64 sec] (foV (tzFo last sec (tzA s))) := by
  intro w
  have HC0 := tzset_ret s hs last sec
  rw [tzEval_fo] at HC0
  have HC := Lib.hid HC0
  clear HC0
  generalize tzFo last sec (tzA s) = x at *
  obtain ⟨⟨n, o, st, en, d⟩, ok⟩ := x
  go_enter Try.func17, Try.ntmps17
  go_wp2_with fail
  refine (HC.out _).mono ?_
  rintro e w1 ⟨rfl, hb⟩
  unfold foV tzV
  go_wp2
  refine bodyPost_ret (results_six rfl _ _ _) rfl ?_
  exact ⟨rfl, hb⟩

theorem implTzset_ret (s : Bs) (hs : s.length ≤ 4294967296) (last sec : Int) : Ret 8 #[.string (S s), .int .i64 last, .int .i64 sec] (.tuple #[foA (tzFo last sec (tzA s)).1, .bool (tzFo last sec (tzA s)).2]) := by
  intro w
  have HC := Lib.hid (pubTzset_ret s hs last sec)
  have hno : Hid ((tzFo last sec (tzA s)).2 = false → (tzFo last sec (tzA s)).1 = noFo) := by
    show _ → _
    generalize tzA s = y
    intro h
    match y, h with
    | none, _ => rfl
    | some (_, _, none), h => simp [tzFo] at h
    | some (sn, so, some (dn, dd, r1, r2)), h => simp [tzFo] at h
  generalize tzFo last sec (tzA s) = x at *
  obtain ⟨⟨n, o, st, en, d⟩, ok⟩ := x
  cases ok
  · have h := hno.out rfl
    simp only [noFo] at h
    injection h with h1 h2 h3 h4 h5
    subst h1 h2 h3 h4 h5
    go_enter Try.func8, Try.ntmps8
    go_wp2_with fail
    refine (HC.out _).mono ?_
    rintro e w1 ⟨rfl, hb⟩
    have B1a : Blk w1 w.heap.size 32 #[.string (S []), .int .i64 0, .int .i64 0, .int .i64 0, .bool false] := (Blk.new w _ _ _ rfl).below hb (by simp)
    have hb1 : Below w.heap.size w w1 := ((Below.refl _ _).alloc (Nat.le_refl _) _).trans (hb.mono (by simp))
    have hlt := B1a.lt
    obtain ⟨ca0, ca1, ca2, ca3, ca4, fa⟩ := B1a.five
    clear hb HC
    unfold foV tzV
    go_wp2_with fail
    refine bodyPost_ret (v := .tuple #[.agg #[.string ⟨#[]⟩, .int .i64 0, .int .i64 0, .int .i64 0, .bool false], .bool false]) (by simp only [results, Try.results8]; go_simp) rfl ?_
    exact ⟨rfl, by go_grown⟩
  · go_enter Try.func8, Try.ntmps8
    go_wp2_with fail
    refine (HC.out _).mono ?_
    rintro e w1 ⟨rfl, hb⟩
    have B1a : Blk w1 w.heap.size 32 #[.string (S []), .int .i64 0, .int .i64 0, .int .i64 0, .bool false] := (Blk.new w _ _ _ rfl).below hb (by simp)
    have hb1 : Below w.heap.size w w1 := ((Below.refl _ _).alloc (Nat.le_refl _) _).trans (hb.mono (by simp))
    have hlt := B1a.lt
    obtain ⟨ca0, ca1, ca2, ca3, ca4, fa⟩ := B1a.five
    clear hb HC
    unfold foV tzV
    go_wp2_with fail
    refine bodyPost_ret (v := .tuple #[.agg #[.string (S n), .int .i64 o, .int .i64 st, .int .i64 en, .bool d], .bool true]) (by simp only [results, Try.results8]; go_simp) rfl ?_
    exact ⟨rfl, by go_grown⟩

end Go.Proofs.Ytcjibjggaleclaa
