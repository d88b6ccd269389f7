/- The reference's Text of a season. -/
import Derived.Test.YtkikpcfcjkgblaaSeason
import Derived.Test.YtkikpcfcjkgblaaLawRule
namespace Go.Proofs.Ytkikpcfcjkgblaa
open Go.RowKit

set_option maxRecDepth 100000 in
set_option maxHeartbeats 16000000 in
theorem Text_ret (s : Se) (whole : Bool) (h : seOk s = true) : Ret 39 #[seA s, .bool whole] (.string (S (txtF s.n1 s.o1 s.n2 s.o2 s.r1 s.r2 whole))) := by
  intro w
  obtain ⟨hn1, hn2, ⟨ho1, ho1'⟩, ⟨ho2, ho2'⟩, hr1, hr2⟩ := seOk_all s h
  have b1 := brackB_len _ hn1
  have b2 := brackB_len _ hn2
  have HN1 := Lib.hid (specName_ret s.n1 (by omega))
  have HN2 := Lib.hid (specName_ret s.n2 (by omega))
  have HC1 := Lib.hid (Clock_ret (-s.o1) whole (by omega) (by omega))
  have HC2 := Lib.hid (Clock_ret (-s.o2) whole (by omega) (by omega))
  have HR1 := Lib.hid (RuleText_ok s.r1 whole hr1)
  have HR2 := Lib.hid (RuleText_ok s.r2 whole hr2)
  have l1 := nameT_len s.n1
  have l2 := clkT_len (-s.o1) whole
  have l3 := nameT_len s.n2
  have l4 := clkT_len (-s.o2) whole
  have l5 := ruT_len s.r1 whole
  have l6 := ruT_len s.r2 whole
  have HF := Lib.hid (show txtF s.n1 s.o1 s.n2 s.o2 s.r1 s.r2 whole = nameT s.n1 ++ (clkT (-s.o1) whole ++ (nameT s.n2 ++ (clkT (-s.o2) whole ++ (44 :: (ruT s.r1 whole ++ 44 :: ruT s.r2 whole))))) from rfl)
  generalize txtF s.n1 s.o1 s.n2 s.o2 s.r1 s.r2 whole = T at *
  generalize nameT s.n1 = t1 at *
  generalize clkT (-s.o1) whole = t2 at *
  generalize nameT s.n2 = t3 at *
  generalize clkT (-s.o2) whole = t4 at *
  generalize ruT s.r1 whole = t5 at *
  generalize ruT s.r2 whole = t6 at *
  have v1 : IntKind.i64.wrap (-s.o1) = -s.o1 := IntWalk.i64_in _ (by omega)
  have v2 : IntKind.i64.wrap (-s.o2) = -s.o2 := IntWalk.i64_in _ (by omega)
  have f1 : ¬ 9223372036854775807 < t1.length + t2.length := by omega
  have f2 : ¬ 9223372036854775807 < t1.length + t2.length + t3.length := by omega
  have f3 : ¬ 9223372036854775807 < t1.length + (t2.length + t3.length) + t4.length := by omega
  have f4 : ¬ 9223372036854775807 < t1.length + (t2.length + (t3.length + t4.length)) + 1 := by omega
  have f5 : ¬ 9223372036854775807 < t1.length + (t2.length + (t3.length + (t4.length + 1))) + t5.length := by omega
  have f6 : ¬ 9223372036854775807 < t1.length + (t2.length + (t3.length + (t4.length + (t5.length + 1)))) + 1 := by omega
  have f7 : ¬ 9223372036854775807 < t1.length + (t2.length + (t3.length + (t4.length + (t5.length + 1 + 1)))) + t6.length := by omega
  clear h hn1 hn2 hr1 hr2 b1 b2
  have HX0 := InS.new w s
  obtain ⟨⟨c0, c1, c2, c3, c4, c5, c6, c7, c8, c9, c10, c11, c12, c13, c14, c15⟩, _⟩ := HX0.all
  unfold seA ruA at *
  go_enter Try.func39, Try.ntmps39
  go_wp2_with fail
  go_region_held3 (fun w' => (w'.cell? ⟨w.heap.size, 0, none⟩ = some (.string (S s.n1)) ∧ w'.cell? ⟨w.heap.size, 1, none⟩ = some (.int .i64 s.o1) ∧ w'.cell? ⟨w.heap.size, 2, none⟩ = some (.bool s.d1) ∧ w'.cell? ⟨w.heap.size, 3, none⟩ = some (.string (S s.n2)) ∧ w'.cell? ⟨w.heap.size, 4, none⟩ = some (.int .i64 s.o2) ∧ w'.cell? ⟨w.heap.size, 5, none⟩ = some (.bool s.d2) ∧ w'.cell? ⟨w.heap.size, 6, none⟩ = some (.int .i64 s.r1.kind) ∧ w'.cell? ⟨w.heap.size, 7, none⟩ = some (.int .i64 s.r1.day) ∧ w'.cell? ⟨w.heap.size, 8, none⟩ = some (.int .i64 s.r1.week) ∧ w'.cell? ⟨w.heap.size, 9, none⟩ = some (.int .i64 s.r1.mon) ∧ w'.cell? ⟨w.heap.size, 10, none⟩ = some (.int .i64 s.r1.time) ∧ w'.cell? ⟨w.heap.size, 11, none⟩ = some (.int .i64 s.r2.kind) ∧ w'.cell? ⟨w.heap.size, 12, none⟩ = some (.int .i64 s.r2.day) ∧ w'.cell? ⟨w.heap.size, 13, none⟩ = some (.int .i64 s.r2.week) ∧ w'.cell? ⟨w.heap.size, 14, none⟩ = some (.int .i64 s.r2.mon) ∧ w'.cell? ⟨w.heap.size, 15, none⟩ = some (.int .i64 s.r2.time)) ∧ InS w s w')
    (first | exact (InS.drew (by assumption)).all | exact InS.all (by assumption))
    (first | (go_at_call 28; ((with_reducible refine (HN1.out.seAt w s _ ?_).mono ?_); (simp [*]); rintro e w' ⟨rfl, hB'⟩)) | (go_at_call 28; ((with_reducible refine (HN2.out.seAt w s _ ?_).mono ?_); (simp [*]); rintro e w' ⟨rfl, hB'⟩)) | (go_at_call 22; ((with_reducible refine (HC1.out.seAt w s _ ?_).mono ?_); (simp [*]); rintro e w' ⟨rfl, hB'⟩)) | (go_at_call 22; ((with_reducible refine (HC2.out.seAt w s _ ?_).mono ?_); (simp [*]); rintro e w' ⟨rfl, hB'⟩)) | (go_at_call 31; ((with_reducible refine (HR1.out.seAt w s _ ?_).mono ?_); (simp [*]); rintro e w' ⟨rfl, hB'⟩)) | (go_at_call 31; ((with_reducible refine (HR2.out.seAt w s _ ?_).mono ?_); (simp [*]); rintro e w' ⟨rfl, hB'⟩)))
  all_goals
    go_wp2_with fail
    go_ret
    rw [HF.out]
    exact ⟨ret_str (by simp), hB'.2⟩
end Go.Proofs.Ytkikpcfcjkgblaa
