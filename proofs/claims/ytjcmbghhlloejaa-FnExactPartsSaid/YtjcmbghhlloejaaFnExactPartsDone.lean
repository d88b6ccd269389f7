/- FnExactParts: a place has the zones, the transitions and the rule that it was made of, at every place; no condition. -/
import Derived.Test.YtjcmbghhlloejaaLawPC
import Derived.Test.YtjcmbghhlloejaaFacts
import Derived.Test.YtjcmbghhlloejaaOpenP
import Derived.OpenShut
import Derived.ShutString
import Derived.ChangeOld
namespace Go.Proofs.Ytjcmbghhlloejaa
open Go.ChangeShapes Go.WideShapes Go.ChangeAt Go.RowKit
open Go.ChangeMaps (open_string shut_string)

set_option maxRecDepth 100000 in
theorem fnExactParts_lifted (os : Os) (started : os.Started) (H : Type) (enc : TypeId × Value → H) :
    ReturnsInHanded {} Try.checked os 5 .any (Rows.fnExactPartsSpec.pre6 enc Try.prog Try.f5 Rows.fnExactPartsRow.domain false) (Rows.fnExactPartsSpec.post enc Try.prog Try.f5 false true false false) := by
  refine returnsInHanded_of_change (C := Try.checked) (by kernel_rfl) started (by kernel_rfl) Try.func5
    (ChangeSpec.witness6 (enc := enc) (C := Try.checked) false ⟨#[], #[.agg #[.string ByteArray.empty, .slice none 0 0, .slice none 0 0, .string ByteArray.empty]], []⟩ 8 (by kernel_rfl) (by kernel_rfl) (by kernel_rfl) (by kernel_rfl)) ?_
  intro W base args ds gs before hval0 hW hcnd _
  have hval : ∀ (j : Nat) t v, Try.f5.params[j]? = some t → args[j]? = some v → Value.okWide Try.prog W .any base t v := hval0
  have hW' := hW
  obtain ⟨p, q, hA0, hV, rfl, hfz, hnd⟩ := hW
  have hA : DataW.TrodAll enc Try.prog W 0 (fun _ => true) true Try.f5.params.toList args.toList ds p := hA0
  rw [Try.params5] at hA hval
  obtain ⟨v0, vs0, d0, ds0, p0, q0, hargs, rfl, rfl, h0, r0⟩ := trodAll_cons hA
  obtain ⟨rfl, rfl, rfl⟩ := trodAll_nil r0
  obtain rfl : args = #[v0] := by cases args; simp_all
  obtain ⟨rfl, rfl⟩ := trodVars_none hV
  have lt0 : ∀ x ∈ p0, x.block < W.heap.size := by obtain ⟨m, hm⟩ := h0; exact DataW.trod_lt m _ _ _ hm
  obtain ⟨a0, o0, rfl, t0⟩ := open_place (hval 0 25 v0 rfl rfl) h0
  clear hA0 hval0 hcnd hfz hnd hval hA
  have hw := fnExactParts_walk a0 o0
  refine (hw W t0).mono fun e W' ⟨he, bel⟩ => ?_
  subst he
  exact ⟨_, rfl, _, _, _, [], _, [], hW', trodAll_mk1 (shut_bool Try.underlying4 _), (trodAll_cons_mk (Below.trod fact_laid (by kernel_rfl) (of_decide_eq_true (by kernel_rfl)) h0 bel lt0) trodAll_mk0), rfl, bel.frame _, fun h => by cases h⟩

set_option maxHeartbeats 40000000 in
theorem fnExactParts_closed : joinedFacts Try.prog 5 Try.f5 Rows.fnExactPartsSpec Rows.fnExactPartsRow = true := by
  unfold joinedFacts
  repeat' (with_reducible refine (Bool.and_eq_true_iff).mpr ⟨?_, ?_⟩)
  all_goals first
    | (with_reducible exact fact_mayEnter)
    | (rw [fact_make]; rfl)
    | (rw [fact_lifts]; rfl)
    | (as_aux_lemma => kernel_rfl)
theorem fnExactParts_named : Try.pinned.checked.prog.funcNamed Rows.fnExactPartsRow.func = some 5 := by kernel_rfl
theorem fnExactParts_inst : Try.f5.isInstance Try.pinned.checked.prog Rows.fnExactPartsRow.origin Rows.fnExactPartsRow.targs := of_decide_eq_true (by kernel_rfl)
theorem fnExactParts_wrap : Try.f5.isWrapper Try.pinned.checked.prog Rows.fnExactPartsRow.wrapper Rows.fnExactPartsRow.mainSum := by
  unfold Func.isWrapper; first | (rw [if_pos (by decide +kernel)]; kernel_rfl) | (rw [if_neg (by decide +kernel)]; exact ⟨rfl, rfl⟩)
theorem fnExactParts_proved : Rows.FnExactPartsSaid :=
  OpenClaim.holds_of_wide 5 Try.f5 rfl rfl rfl rfl rfl rfl rfl ⟨rfl, rfl, rfl, rfl, rfl⟩ rfl rfl rfl rfl rfl fnExactParts_named Try.func5 fnExactParts_closed
    fnExactParts_inst fnExactParts_wrap
    (fun os started H enc _ => fnExactParts_lifted os started H enc)
#print axioms fnExactParts_proved
end Go.Proofs.Ytjcmbghhlloejaa
