/- FnTzsetHour: daylight saving time without an offset is an hour ahead, at every pair of zones and of rules and every time; no condition. -/
import Derived.Test.YtcjibjggaleclaaLawTzH
import Derived.Test.YtcjibjggaleclaaFacts
import Derived.Test.YtcjibjggaleclaaOpen
import Derived.OpenShut
import Derived.ShutString
import Derived.ChangeOld
namespace Go.Proofs.Ytcjibjggaleclaa
open Go.ChangeShapes Go.WideShapes Go.ChangeAt Go.RowKit
open Go.ChangeMaps (open_string shut_string)

set_option maxRecDepth 100000 in
theorem fnTzsetHour_lifted (os : Os) (started : os.Started) (H : Type) (enc : TypeId × Value → H) :
    ReturnsInHanded {} Try.checked os 3 .any (Rows.fnTzsetHourSpec.pre6 enc Try.prog Try.f3 Rows.fnTzsetHourRow.domain false) (Rows.fnTzsetHourSpec.post enc Try.prog Try.f3 false true false false) := by
  refine returnsInHanded_of_change (C := Try.checked) (by kernel_rfl) started (by kernel_rfl) Try.func3
    (ChangeSpec.witness6 (enc := enc) (C := Try.checked) false ⟨#[], #[.agg #[.string ByteArray.empty, .int .i64 0, .bool false], .agg #[.string ByteArray.empty, .int .i64 0, .bool false], .agg #[.int .i64 0, .int .i64 0, .int .i64 0, .int .i64 0, .int .i64 0], .agg #[.int .i64 0, .int .i64 0, .int .i64 0, .int .i64 0, .int .i64 0], .int .i64 0], []⟩ 8 (by kernel_rfl) (by kernel_rfl) (by kernel_rfl) (by kernel_rfl)) ?_
  intro W base args ds gs before hval0 hW hcnd _
  have hval : ∀ (j : Nat) t v, Try.f3.params[j]? = some t → args[j]? = some v → Value.okWide Try.prog W .any base t v := hval0
  have hW' := hW
  obtain ⟨p, q, hA0, hV, rfl, hfz, hnd⟩ := hW
  have hA : DataW.TrodAll enc Try.prog W 0 (fun _ => true) true Try.f3.params.toList args.toList ds p := hA0
  rw [Try.params3] at hA hval
  obtain ⟨v0, vs0, d0, ds0, p0, q0, hargs, rfl, rfl, h0, r0⟩ := trodAll_cons hA
  obtain ⟨v1, vs1, d1, ds1, p1, q1, rfl, rfl, rfl, h1, r1⟩ := trodAll_cons r0
  obtain ⟨v2, vs2, d2, ds2, p2, q2, rfl, rfl, rfl, h2, r2⟩ := trodAll_cons r1
  obtain ⟨v3, vs3, d3, ds3, p3, q3, rfl, rfl, rfl, h3, r3⟩ := trodAll_cons r2
  obtain ⟨v4, vs4, d4, ds4, p4, q4, rfl, rfl, rfl, h4, r4⟩ := trodAll_cons r3
  obtain ⟨rfl, rfl, rfl⟩ := trodAll_nil r4
  obtain rfl : args = #[v0, v1, v2, v3, v4] := by cases args; simp_all
  obtain ⟨rfl, rfl⟩ := trodVars_none hV
  have lt0 : ∀ x ∈ p0, x.block < W.heap.size := by obtain ⟨m, hm⟩ := h0; exact DataW.trod_lt m _ _ _ hm
  obtain ⟨a0, o0, t0, rfl⟩ := open_zone (hval 0 23 v0 rfl rfl) h0
  have lt1 : ∀ x ∈ p1, x.block < W.heap.size := by obtain ⟨m, hm⟩ := h1; exact DataW.trod_lt m _ _ _ hm
  obtain ⟨a1, o1, t1, rfl⟩ := open_zone (hval 1 23 v1 rfl rfl) h1
  have lt2 : ∀ x ∈ p2, x.block < W.heap.size := by obtain ⟨m, hm⟩ := h2; exact DataW.trod_lt m _ _ _ hm
  obtain ⟨a2, rfl⟩ := open_rule (hval 2 25 v2 rfl rfl) h2
  have lt3 : ∀ x ∈ p3, x.block < W.heap.size := by obtain ⟨m, hm⟩ := h3; exact DataW.trod_lt m _ _ _ hm
  obtain ⟨a3, rfl⟩ := open_rule (hval 3 25 v3 rfl rfl) h3
  obtain ⟨a4, rfl, rfl, rfl, w4⟩ := open_int Try.underlying2 (hval 4 2 v4 rfl rfl) h4
  clear hA0 hval0 hcnd hfz hnd hval hA
  have hw := fnTzsetHour_all a0 o0 t0 a1 o1 t1 a2 a3 a4
  refine (hw W).mono fun e W' ⟨he, bel⟩ => ?_
  subst he
  exact ⟨_, rfl, _, _, _, [], _, [], hW', trodAll_mk1 (shut_bool Try.underlying4 _), (trodAll_cons_mk (Below.trod fact_laid (by kernel_rfl) (of_decide_eq_true (by kernel_rfl)) h0 bel lt0) (trodAll_cons_mk (Below.trod fact_laid (by kernel_rfl) (of_decide_eq_true (by kernel_rfl)) h1 bel lt1) (trodAll_cons_mk (Below.trod fact_laid (by kernel_rfl) (of_decide_eq_true (by kernel_rfl)) h2 bel lt2) (trodAll_cons_mk (Below.trod fact_laid (by kernel_rfl) (of_decide_eq_true (by kernel_rfl)) h3 bel lt3) (trodAll_cons_mk (shut_int Try.underlying2 w4) trodAll_mk0))))), rfl, bel.frame _, fun h => by cases h⟩

set_option maxHeartbeats 40000000 in
theorem fnTzsetHour_closed : joinedFacts Try.prog 3 Try.f3 Rows.fnTzsetHourSpec Rows.fnTzsetHourRow = true := by
  unfold joinedFacts
  repeat' (with_reducible refine (Bool.and_eq_true_iff).mpr ⟨?_, ?_⟩)
  all_goals first
    | (with_reducible exact fact_mayEnter)
    | (rw [fact_make]; rfl)
    | (rw [fact_lifts]; rfl)
    | (as_aux_lemma => kernel_rfl)
theorem fnTzsetHour_named : Try.pinned.checked.prog.funcNamed Rows.fnTzsetHourRow.func = some 3 := by kernel_rfl
theorem fnTzsetHour_inst : Try.f3.isInstance Try.pinned.checked.prog Rows.fnTzsetHourRow.origin Rows.fnTzsetHourRow.targs := of_decide_eq_true (by kernel_rfl)
theorem fnTzsetHour_wrap : Try.f3.isWrapper Try.pinned.checked.prog Rows.fnTzsetHourRow.wrapper Rows.fnTzsetHourRow.mainSum := by
  unfold Func.isWrapper; first | (rw [if_pos (by decide +kernel)]; kernel_rfl) | (rw [if_neg (by decide +kernel)]; exact ⟨rfl, rfl⟩)
theorem fnTzsetHour_proved : Rows.FnTzsetHourSaid :=
  OpenClaim.holds_of_wide 3 Try.f3 rfl rfl rfl rfl rfl rfl rfl ⟨rfl, rfl, rfl, rfl, rfl⟩ rfl rfl rfl rfl rfl fnTzsetHour_named Try.func3 fnTzsetHour_closed
    fnTzsetHour_inst fnTzsetHour_wrap
    (fun os started H enc _ => fnTzsetHour_lifted os started H enc)
#print axioms fnTzsetHour_proved
end Go.Proofs.Ytcjibjggaleclaa
