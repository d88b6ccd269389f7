/- TzsetRule and RuleOf: the rule, handed on. -/
import Derived.Test.YtkikpcfcjkgblaaRule
namespace Go.Proofs.Ytkikpcfcjkgblaa
open Go.RowKit

set_option maxHeartbeats 1000000 in
theorem TzsetRule_ret (l : Bs) : Ret 49 #[.string (S l)] (ruV (ruleF l)) := by
  intro w
  have HC := Lib.hid (tzsetRule_ret l)
  generalize ruleF l = x at *
  obtain ⟨⟨k, d, wk, m, t⟩, r, ok⟩ := x
  go_enter Try.func49, Try.ntmps49
  go_wp2_with fail
  refine (HC.out _).mono ?_
  rintro e w1 ⟨rfl, hb⟩
  have B1a : Blk w1 w.heap.size 71 #[.int .i64 0, .int .i64 0, .int .i64 0, .int .i64 0, .int .i64 0] := (Blk.new w _ _ _ rfl).below hb (by simp)
  have hb1 : Below w.heap.size w w1 := ((Below.refl _ _).alloc (Nat.le_refl _) _).trans (hb.mono (by simp))
  have hlt := B1a.lt
  obtain ⟨ca0, ca1, ca2, ca3, ca4, fa⟩ := B1a.five
  clear hb HC
  unfold ruV ruA
  simp only []
  go_wp2_with fail
  refine bodyPost_ret (v := .tuple #[.agg #[.int .i64 k, .int .i64 d, .int .i64 wk, .int .i64 m, .int .i64 t], .string (S r), .bool ok]) (by simp only [results, Try.results49]; go_simp) rfl ?_
  exact ⟨rfl, by go_grown⟩

set_option maxHeartbeats 1000000 in
theorem RuleOf_ret (l : Bs) : Ret 30 #[.string (S l)] (ruV (ruleF l)) := by
  intro w
  have HC := Lib.hid (TzsetRule_ret l)
  generalize ruleF l = x at *
  obtain ⟨⟨k, d, wk, m, t⟩, r, ok⟩ := x
  go_enter Try.func30, Try.ntmps30
  go_wp2_with fail
  refine (HC.out _).mono ?_
  rintro e w1 ⟨rfl, hb⟩
  have B1a : Blk w1 w.heap.size 36 #[.int .i64 0, .int .i64 0, .int .i64 0, .int .i64 0, .int .i64 0] := (Blk.new w _ _ _ rfl).below hb (by simp)
  have hb1 : Below w.heap.size w w1 := ((Below.refl _ _).alloc (Nat.le_refl _) _).trans (hb.mono (by simp))
  have hlt := B1a.lt
  obtain ⟨ca0, ca1, ca2, ca3, ca4, fa⟩ := B1a.five
  clear hb HC
  unfold ruV ruA
  simp only []
  go_wp2_with fail
  refine bodyPost_ret (v := .tuple #[.agg #[.int .i64 k, .int .i64 d, .int .i64 wk, .int .i64 m, .int .i64 t], .string (S r), .bool ok]) (by simp only [results, Try.results30]; go_simp) rfl ?_
  exact ⟨rfl, by go_grown⟩

end Go.Proofs.Ytkikpcfcjkgblaa
