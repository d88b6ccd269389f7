/- FnRuleSpoilt: days, weeks and months that there are not are no rule, for all numbers; no condition. -/
import Derived.Test.YtkikpcfcjkgblaaLawRule
import Derived.Test.YtkikpcfcjkgblaaFacts
import Derived.OpenShut
import Derived.ShutString
import Derived.ChangeOld
namespace Go.Proofs.Ytkikpcfcjkgblaa
open Go.ChangeShapes Go.WideShapes Go.ChangeAt Go.RowKit
open Go.ChangeMaps (open_string shut_string)

set_option maxRecDepth 100000 in
theorem fnRuleSpoilt_lifted (os : Os) (started : os.Started) (H : Type) (enc : TypeId × Value → H) :
    ReturnsInHanded {} Try.checked os 9 .any (Rows.fnRuleSpoiltSpec.pre6 enc Try.prog Try.f9 Rows.fnRuleSpoiltRow.domain false) (Rows.fnRuleSpoiltSpec.post enc Try.prog Try.f9 false true false false) := by
  refine returnsInHanded_of_change (C := Try.checked) (by kernel_rfl) started (by kernel_rfl) Try.func9
    (ChangeSpec.witness6 (enc := enc) (C := Try.checked) false ⟨#[], #[.int .i64 0, .int .i64 0, .int .i64 0, .int .i64 0], []⟩ 8 (by kernel_rfl) (by kernel_rfl) (by kernel_rfl) (by kernel_rfl)) ?_
  intro W base args ds gs before hval0 hW hcnd _
  have hval : ∀ (j : Nat) t v, Try.f9.params[j]? = some t → args[j]? = some v → Value.okWide Try.prog W .any base t v := hval0
  have hW' := hW
  obtain ⟨p, q, hA0, hV, rfl, hfz, hnd⟩ := hW
  have hA : DataW.TrodAll enc Try.prog W 0 (fun _ => true) true Try.f9.params.toList args.toList ds p := hA0
  rw [Try.params9] at hA hval
  obtain ⟨v0, vs0, d0, ds0, p0, q0, hargs, rfl, rfl, h0, r0⟩ := trodAll_cons hA
  obtain ⟨v1, vs1, d1, ds1, p1, q1, rfl, rfl, rfl, h1, r1⟩ := trodAll_cons r0
  obtain ⟨v2, vs2, d2, ds2, p2, q2, rfl, rfl, rfl, h2, r2⟩ := trodAll_cons r1
  obtain ⟨v3, vs3, d3, ds3, p3, q3, rfl, rfl, rfl, h3, r3⟩ := trodAll_cons r2
  obtain ⟨rfl, rfl, rfl⟩ := trodAll_nil r3
  obtain rfl : args = #[v0, v1, v2, v3] := by cases args; simp_all
  obtain ⟨rfl, rfl⟩ := trodVars_none hV
  obtain ⟨a0, rfl, rfl, rfl, w0⟩ := open_int Try.underlying3 (hval 0 3 v0 rfl rfl) h0
  obtain ⟨a1, rfl, rfl, rfl, w1⟩ := open_int Try.underlying3 (hval 1 3 v1 rfl rfl) h1
  obtain ⟨a2, rfl, rfl, rfl, w2⟩ := open_int Try.underlying3 (hval 2 3 v2 rfl rfl) h2
  obtain ⟨a3, rfl, rfl, rfl, w3⟩ := open_int Try.underlying3 (hval 3 3 v3 rfl rfl) h3
  clear hA0 hval0 hcnd hfz hnd hval hA
  have hw := fnRuleSpoilt_walk a0 a1 a2 a3
  refine (hw W).mono fun e W' ⟨he, bel⟩ => ?_
  subst he
  exact ⟨_, rfl, _, _, _, [], _, [], hW', trodAll_mk1 (shut_bool Try.underlying4 _), (trodAll_cons_mk (shut_int Try.underlying3 w0) (trodAll_cons_mk (shut_int Try.underlying3 w1) (trodAll_cons_mk (shut_int Try.underlying3 w2) (trodAll_cons_mk (shut_int Try.underlying3 w3) trodAll_mk0)))), rfl, bel.frame _, fun h => by cases h⟩

set_option maxHeartbeats 40000000 in
theorem fnRuleSpoilt_closed : joinedFacts Try.prog 9 Try.f9 Rows.fnRuleSpoiltSpec Rows.fnRuleSpoiltRow = true := by
  unfold joinedFacts
  repeat' (with_reducible refine (Bool.and_eq_true_iff).mpr ⟨?_, ?_⟩)
  all_goals first
    | (with_reducible exact fact_mayEnter)
    | (rw [fact_make]; rfl)
    | (rw [fact_lifts]; rfl)
    | (as_aux_lemma => kernel_rfl)
theorem fnRuleSpoilt_named : Try.pinned.checked.prog.funcNamed Rows.fnRuleSpoiltRow.func = some 9 := by kernel_rfl
theorem fnRuleSpoilt_inst : Try.f9.isInstance Try.pinned.checked.prog Rows.fnRuleSpoiltRow.origin Rows.fnRuleSpoiltRow.targs := of_decide_eq_true (by kernel_rfl)
theorem fnRuleSpoilt_wrap : Try.f9.isWrapper Try.pinned.checked.prog Rows.fnRuleSpoiltRow.wrapper Rows.fnRuleSpoiltRow.mainSum := by
  unfold Func.isWrapper; first | (rw [if_pos (by decide +kernel)]; kernel_rfl) | (rw [if_neg (by decide +kernel)]; exact ⟨rfl, rfl⟩)
theorem fnRuleSpoilt_proved : Rows.FnRuleSpoiltSaid :=
  OpenClaim.holds_of_wide 9 Try.f9 rfl rfl rfl rfl rfl rfl rfl ⟨rfl, rfl, rfl, rfl, rfl⟩ rfl rfl rfl rfl rfl fnRuleSpoilt_named Try.func9 fnRuleSpoilt_closed
    fnRuleSpoilt_inst fnRuleSpoilt_wrap
    (fun os started H enc _ => fnRuleSpoilt_lifted os started H enc)
#print axioms fnRuleSpoilt_proved
end Go.Proofs.Ytkikpcfcjkgblaa
