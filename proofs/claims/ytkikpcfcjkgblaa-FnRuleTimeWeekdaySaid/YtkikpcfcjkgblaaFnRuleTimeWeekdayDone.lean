/- FnRuleTimeWeekday: a month's rule is met on its day of the week, in its month; no condition. -/
import Derived.Test.YtkikpcfcjkgblaaLawRT
import Derived.Test.YtkikpcfcjkgblaaFacts
import Derived.Test.YtkikpcfcjkgblaaOpen
import Derived.OpenShut
import Derived.ShutString
import Derived.ChangeOld
namespace Go.Proofs.Ytkikpcfcjkgblaa
open Go.ChangeShapes Go.WideShapes Go.ChangeAt Go.RowKit
open Go.ChangeMaps (open_string shut_string)

set_option maxRecDepth 100000 in
theorem fnRuleTimeWeekday_lifted (os : Os) (started : os.Started) (H : Type) (enc : TypeId × Value → H) :
    ReturnsInHanded {} Try.checked os 11 .any (Rows.fnRuleTimeWeekdaySpec.pre6 enc Try.prog Try.f11 Rows.fnRuleTimeWeekdayRow.domain false) (Rows.fnRuleTimeWeekdaySpec.post enc Try.prog Try.f11 false true false false) := by
  refine returnsInHanded_of_change (C := Try.checked) (by kernel_rfl) started (by kernel_rfl) Try.func11
    (ChangeSpec.witness6 (enc := enc) (C := Try.checked) false ⟨#[], #[.int .i64 0, .agg #[.int .i64 0, .int .i64 0, .int .i64 0, .int .i64 0, .int .i64 0]], []⟩ 8 (by kernel_rfl) (by kernel_rfl) (by kernel_rfl) (by kernel_rfl)) ?_
  intro W base args ds gs before hval0 hW hcnd _
  have hval : ∀ (j : Nat) t v, Try.f11.params[j]? = some t → args[j]? = some v → Value.okWide Try.prog W .any base t v := hval0
  have hW' := hW
  obtain ⟨p, q, hA0, hV, rfl, hfz, hnd⟩ := hW
  have hA : DataW.TrodAll enc Try.prog W 0 (fun _ => true) true Try.f11.params.toList args.toList ds p := hA0
  rw [Try.params11] at hA hval
  obtain ⟨v0, vs0, d0, ds0, p0, q0, hargs, rfl, rfl, h0, r0⟩ := trodAll_cons hA
  obtain ⟨v1, vs1, d1, ds1, p1, q1, rfl, rfl, rfl, h1, r1⟩ := trodAll_cons r0
  obtain ⟨rfl, rfl, rfl⟩ := trodAll_nil r1
  obtain rfl : args = #[v0, v1] := by cases args; simp_all
  obtain ⟨rfl, rfl⟩ := trodVars_none hV
  obtain ⟨a0, rfl, rfl, rfl, w0⟩ := open_int Try.underlying3 (hval 0 3 v0 rfl rfl) h0
  have lt1 : ∀ x ∈ p1, x.block < W.heap.size := by obtain ⟨m, hm⟩ := h1; exact DataW.trod_lt m _ _ _ hm
  obtain ⟨a1, rfl⟩ := open_rule (hval 1 36 v1 rfl rfl) h1
  clear hA0 hval0 hcnd hfz hnd hval hA
  have hw := fnRuleTimeWeekday_walk a0 a1
  refine (hw W).mono fun e W' ⟨he, bel⟩ => ?_
  subst he
  exact ⟨_, rfl, _, _, _, [], _, [], hW', trodAll_mk1 (shut_bool Try.underlying4 _), (trodAll_cons_mk (shut_int Try.underlying3 w0) (trodAll_cons_mk (Below.trod fact_laid (by kernel_rfl) (of_decide_eq_true (by kernel_rfl)) h1 bel lt1) trodAll_mk0)), rfl, bel.frame _, fun h => by cases h⟩

set_option maxHeartbeats 40000000 in
theorem fnRuleTimeWeekday_closed : joinedFacts Try.prog 11 Try.f11 Rows.fnRuleTimeWeekdaySpec Rows.fnRuleTimeWeekdayRow = true := by
  unfold joinedFacts
  repeat' (with_reducible refine (Bool.and_eq_true_iff).mpr ⟨?_, ?_⟩)
  all_goals first
    | (with_reducible exact fact_mayEnter)
    | (rw [fact_make]; rfl)
    | (rw [fact_lifts]; rfl)
    | (as_aux_lemma => kernel_rfl)
theorem fnRuleTimeWeekday_named : Try.pinned.checked.prog.funcNamed Rows.fnRuleTimeWeekdayRow.func = some 11 := by kernel_rfl
theorem fnRuleTimeWeekday_inst : Try.f11.isInstance Try.pinned.checked.prog Rows.fnRuleTimeWeekdayRow.origin Rows.fnRuleTimeWeekdayRow.targs := of_decide_eq_true (by kernel_rfl)
theorem fnRuleTimeWeekday_wrap : Try.f11.isWrapper Try.pinned.checked.prog Rows.fnRuleTimeWeekdayRow.wrapper Rows.fnRuleTimeWeekdayRow.mainSum := by
  unfold Func.isWrapper; first | (rw [if_pos (by decide +kernel)]; kernel_rfl) | (rw [if_neg (by decide +kernel)]; exact ⟨rfl, rfl⟩)
theorem fnRuleTimeWeekday_proved : Rows.FnRuleTimeWeekdaySaid :=
  OpenClaim.holds_of_wide 11 Try.f11 rfl rfl rfl rfl rfl rfl rfl ⟨rfl, rfl, rfl, rfl, rfl⟩ rfl rfl rfl rfl rfl fnRuleTimeWeekday_named Try.func11 fnRuleTimeWeekday_closed
    fnRuleTimeWeekday_inst fnRuleTimeWeekday_wrap
    (fun os started H enc _ => fnRuleTimeWeekday_lifted os started H enc)
#print axioms fnRuleTimeWeekday_proved
end Go.Proofs.Ytkikpcfcjkgblaa
