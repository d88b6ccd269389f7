/- FnFirstUnused: ahead of the first transition the first zone is in use, if no transition leads to it, at every place; no condition. -/
import Derived.Test.YtjcmbghhlloejaaLawPA
import Derived.Test.YtjcmbghhlloejaaFacts
import Derived.Test.YtjcmbghhlloejaaOpenP
import Derived.OpenShut
import Derived.ShutString
import Derived.ChangeOld
namespace Go.Proofs.Ytjcmbghhlloejaa
open Go.ChangeShapes Go.WideShapes Go.ChangeAt Go.RowKit
open Go.ChangeMaps (open_string shut_string)

set_option maxRecDepth 100000 in
theorem fnFirstUnused_lifted (os : Os) (started : os.Started) (H : Type) (enc : TypeId × Value → H) :
    ReturnsInHanded {} Try.checked os 11 .any (Rows.fnFirstUnusedSpec.pre6 enc Try.prog Try.f11 Rows.fnFirstUnusedRow.domain false) (Rows.fnFirstUnusedSpec.post enc Try.prog Try.f11 false true false false) := by
  refine returnsInHanded_of_change (C := Try.checked) (by kernel_rfl) started (by kernel_rfl) Try.func11
    (ChangeSpec.witness6 (enc := enc) (C := Try.checked) false ⟨#[], #[.agg #[.string ByteArray.empty, .slice none 0 0, .slice none 0 0, .string ByteArray.empty]], []⟩ 8 (by kernel_rfl) (by kernel_rfl) (by kernel_rfl) (by kernel_rfl)) ?_
  intro W base args ds gs before hval0 hW hcnd _
  have hval : ∀ (j : Nat) t v, Try.f11.params[j]? = some t → args[j]? = some v → Value.okWide Try.prog W .any base t v := hval0
  have hW' := hW
  obtain ⟨p, q, hA0, hV, rfl, hfz, hnd⟩ := hW
  have hA : DataW.TrodAll enc Try.prog W 0 (fun _ => true) true Try.f11.params.toList args.toList ds p := hA0
  rw [Try.params11] at hA hval
  obtain ⟨v0, vs0, d0, ds0, p0, q0, hargs, rfl, rfl, h0, r0⟩ := trodAll_cons hA
  obtain ⟨rfl, rfl, rfl⟩ := trodAll_nil r0
  obtain rfl : args = #[v0] := by cases args; simp_all
  obtain ⟨rfl, rfl⟩ := trodVars_none hV
  have lt0 : ∀ x ∈ p0, x.block < W.heap.size := by obtain ⟨m, hm⟩ := h0; exact DataW.trod_lt m _ _ _ hm
  obtain ⟨a0, o0, rfl, t0⟩ := open_place (hval 0 25 v0 rfl rfl) h0
  clear hA0 hval0 hcnd hfz hnd hval hA
  have hw := fnFirstUnused_walk a0 o0
  refine (hw W t0).mono fun e W' ⟨he, bel⟩ => ?_
  subst he
  exact ⟨_, rfl, _, _, _, [], _, [], hW', trodAll_mk1 (shut_bool Try.underlying4 _), (trodAll_cons_mk (Below.trod fact_laid (by kernel_rfl) (of_decide_eq_true (by kernel_rfl)) h0 bel lt0) trodAll_mk0), rfl, bel.frame _, fun h => by cases h⟩

set_option maxHeartbeats 40000000 in
theorem fnFirstUnused_closed : joinedFacts Try.prog 11 Try.f11 Rows.fnFirstUnusedSpec Rows.fnFirstUnusedRow = true := by
  unfold joinedFacts
  repeat' (with_reducible refine (Bool.and_eq_true_iff).mpr ⟨?_, ?_⟩)
  all_goals first
    | (with_reducible exact fact_mayEnter)
    | (rw [fact_make]; rfl)
    | (rw [fact_lifts]; rfl)
    | (as_aux_lemma => kernel_rfl)
theorem fnFirstUnused_named : Try.pinned.checked.prog.funcNamed Rows.fnFirstUnusedRow.func = some 11 := by kernel_rfl
theorem fnFirstUnused_inst : Try.f11.isInstance Try.pinned.checked.prog Rows.fnFirstUnusedRow.origin Rows.fnFirstUnusedRow.targs := of_decide_eq_true (by kernel_rfl)
theorem fnFirstUnused_wrap : Try.f11.isWrapper Try.pinned.checked.prog Rows.fnFirstUnusedRow.wrapper Rows.fnFirstUnusedRow.mainSum := by
  unfold Func.isWrapper; first | (rw [if_pos (by decide +kernel)]; kernel_rfl) | (rw [if_neg (by decide +kernel)]; exact ⟨rfl, rfl⟩)
theorem fnFirstUnused_proved : Rows.FnFirstUnusedSaid :=
  OpenClaim.holds_of_wide 11 Try.f11 rfl rfl rfl rfl rfl rfl rfl ⟨rfl, rfl, rfl, rfl, rfl⟩ rfl rfl rfl rfl rfl fnFirstUnused_named Try.func11 fnFirstUnused_closed
    fnFirstUnused_inst fnFirstUnused_wrap
    (fun os started H enc _ => fnFirstUnused_lifted os started H enc)
#print axioms fnFirstUnused_proved
end Go.Proofs.Ytjcmbghhlloejaa
