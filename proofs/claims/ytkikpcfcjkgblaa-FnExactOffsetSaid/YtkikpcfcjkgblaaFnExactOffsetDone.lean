/- FnExactOffset: an offset is a sign, hours, and minutes and seconds behind colons, at every text; no condition. -/
import Derived.Test.YtkikpcfcjkgblaaLawNum
import Derived.Test.YtkikpcfcjkgblaaFacts
import Derived.OpenShut
import Derived.ShutString
import Derived.ChangeOld
namespace Go.Proofs.Ytkikpcfcjkgblaa
open Go.ChangeShapes Go.WideShapes Go.ChangeAt Go.RowKit
open Go.ChangeMaps (open_string shut_string)

set_option maxRecDepth 100000 in
theorem fnExactOffset_lifted (os : Os) (started : os.Started) (H : Type) (enc : TypeId × Value → H) :
    ReturnsInHanded {} Try.checked os 3 .any (Rows.fnExactOffsetSpec.pre6 enc Try.prog Try.f3 Rows.fnExactOffsetRow.domain false) (Rows.fnExactOffsetSpec.post enc Try.prog Try.f3 false true false false) := by
  refine returnsInHanded_of_change (C := Try.checked) (by kernel_rfl) started (by kernel_rfl) Try.func3
    (ChangeSpec.witness6 (enc := enc) (C := Try.checked) false ⟨#[], #[.string ByteArray.empty], []⟩ 8 (by kernel_rfl) (by kernel_rfl) (by kernel_rfl) (by kernel_rfl)) ?_
  intro W base args ds gs before hval0 hW hcnd _
  have hval : ∀ (j : Nat) t v, Try.f3.params[j]? = some t → args[j]? = some v → Value.okWide Try.prog W .any base t v := hval0
  have hW' := hW
  obtain ⟨p, q, hA0, hV, rfl, hfz, hnd⟩ := hW
  have hA : DataW.TrodAll enc Try.prog W 0 (fun _ => true) true Try.f3.params.toList args.toList ds p := hA0
  rw [Try.params3] at hA hval
  obtain ⟨v0, vs0, d0, ds0, p0, q0, hargs, rfl, rfl, h0, r0⟩ := trodAll_cons hA
  obtain ⟨rfl, rfl, rfl⟩ := trodAll_nil r0
  obtain rfl : args = #[v0] := by cases args; simp_all
  obtain ⟨rfl, rfl⟩ := trodVars_none hV
  obtain ⟨a0, rfl, rfl, rfl, w0⟩ := open_string Try.underlying9 (hval 0 9 v0 rfl rfl) h0
  clear hA0 hval0 hcnd hfz hnd hval hA
  have hw := fnExactOffset_walk a0.data.toList
  simp only [S_of] at hw
  refine (hw W).mono fun e W' ⟨he, bel⟩ => ?_
  subst he
  exact ⟨_, rfl, _, _, _, [], _, [], hW', trodAll_mk1 (shut_bool Try.underlying4 _), (trodAll_cons_mk (shut_string Try.underlying9 w0) trodAll_mk0), rfl, bel.frame _, fun h => by cases h⟩

set_option maxHeartbeats 40000000 in
theorem fnExactOffset_closed : joinedFacts Try.prog 3 Try.f3 Rows.fnExactOffsetSpec Rows.fnExactOffsetRow = true := by
  unfold joinedFacts
  repeat' (with_reducible refine (Bool.and_eq_true_iff).mpr ⟨?_, ?_⟩)
  all_goals first
    | (with_reducible exact fact_mayEnter)
    | (rw [fact_make]; rfl)
    | (rw [fact_lifts]; rfl)
    | (as_aux_lemma => kernel_rfl)
theorem fnExactOffset_named : Try.pinned.checked.prog.funcNamed Rows.fnExactOffsetRow.func = some 3 := by kernel_rfl
theorem fnExactOffset_inst : Try.f3.isInstance Try.pinned.checked.prog Rows.fnExactOffsetRow.origin Rows.fnExactOffsetRow.targs := of_decide_eq_true (by kernel_rfl)
theorem fnExactOffset_wrap : Try.f3.isWrapper Try.pinned.checked.prog Rows.fnExactOffsetRow.wrapper Rows.fnExactOffsetRow.mainSum := by
  unfold Func.isWrapper; first | (rw [if_pos (by decide +kernel)]; kernel_rfl) | (rw [if_neg (by decide +kernel)]; exact ⟨rfl, rfl⟩)
theorem fnExactOffset_proved : Rows.FnExactOffsetSaid :=
  OpenClaim.holds_of_wide 3 Try.f3 rfl rfl rfl rfl rfl rfl rfl ⟨rfl, rfl, rfl, rfl, rfl⟩ rfl rfl rfl rfl rfl fnExactOffset_named Try.func3 fnExactOffset_closed
    fnExactOffset_inst fnExactOffset_wrap
    (fun os started H enc _ => fnExactOffset_lifted os started H enc)
#print axioms fnExactOffset_proved
end Go.Proofs.Ytkikpcfcjkgblaa
