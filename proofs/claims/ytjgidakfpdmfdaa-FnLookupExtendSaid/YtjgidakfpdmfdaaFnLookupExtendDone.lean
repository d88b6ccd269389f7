/- FnLookupExtend: behind the last transition the rule is asked, if there is one that can be read; for every place and number of seconds (the walk), no further condition. -/
import Derived.Test.YtjgidakfpdmfdaaLawPF
import Derived.Test.YtjgidakfpdmfdaaFacts
import Derived.Test.YtjgidakfpdmfdaaOpenP
import Derived.OpenShut
import Derived.ShutString
import Derived.ChangeOld
namespace Go.Proofs.Ytjgidakfpdmfdaa
open Go.ChangeShapes Go.WideShapes Go.ChangeAt Go.RowKit
open Go.ChangeMaps (open_string shut_string)

set_option maxRecDepth 100000 in
theorem fnLookupExtend_lifted (os : Os) (started : os.Started) (H : Type) (enc : TypeId × Value → H) :
    ReturnsInHanded {} Try.checked os 7 .any (Rows.fnLookupExtendSpec.pre6 enc Try.prog Try.f7 Rows.fnLookupExtendRow.domain false) (Rows.fnLookupExtendSpec.post enc Try.prog Try.f7 false true false false) := by
  refine returnsInHanded_of_change (C := Try.checked) (by kernel_rfl) started (by kernel_rfl) Try.func7
    (ChangeSpec.witness6 (enc := enc) (C := Try.checked) false ⟨#[], #[.agg #[.string ByteArray.empty, .slice none 0 0, .slice none 0 0, .string ByteArray.empty], .int .i64 0], []⟩ 8 (by kernel_rfl) (by kernel_rfl) (by kernel_rfl) (by kernel_rfl)) ?_
  intro W base args ds gs before hval0 hW hcnd _
  have hval : ∀ (j : Nat) t v, Try.f7.params[j]? = some t → args[j]? = some v → Value.okWide Try.prog W .any base t v := hval0
  have hW' := hW
  obtain ⟨p, q, hA0, hV, rfl, hfz, hnd⟩ := hW
  have hA : DataW.TrodAll enc Try.prog W 0 (fun _ => true) true Try.f7.params.toList args.toList ds p := hA0
  rw [Try.params7] at hA hval
  obtain ⟨v0, vs0, d0, ds0, p0, q0, hargs, rfl, rfl, h0, r0⟩ := trodAll_cons hA
  obtain ⟨v1, vs1, d1, ds1, p1, q1, rfl, rfl, rfl, h1, r1⟩ := trodAll_cons r0
  obtain ⟨rfl, rfl, rfl⟩ := trodAll_nil r1
  obtain rfl : args = #[v0, v1] := by cases args; simp_all
  obtain ⟨rfl, rfl⟩ := trodVars_none hV
  have lt0 : ∀ x ∈ p0, x.block < W.heap.size := by obtain ⟨m, hm⟩ := h0; exact DataW.trod_lt m _ _ _ hm
  obtain ⟨a0, o0, rfl, t0, g0⟩ := open_place2 (hval 0 25 v0 rfl rfl) h0
  obtain ⟨a1, rfl, rfl, rfl, w1⟩ := open_int Try.underlying2 (hval 1 2 v1 rfl rfl) h1
  clear hA0 hval0 hcnd hfz hnd hval hA
  have hw := fnLookupExtend_walk a0 o0 g0 a1
  refine (hw W t0).mono fun e W' ⟨he, bel⟩ => ?_
  subst he
  exact ⟨_, rfl, _, _, _, [], _, [], hW', trodAll_mk1 (shut_bool Try.underlying4 _), (trodAll_cons_mk (Below.trod fact_laid (by kernel_rfl) (of_decide_eq_true (by kernel_rfl)) h0 bel lt0) (trodAll_cons_mk (shut_int Try.underlying2 w1) trodAll_mk0)), rfl, bel.frame _, fun h => by cases h⟩

set_option maxHeartbeats 40000000 in
theorem fnLookupExtend_closed : joinedFacts Try.prog 7 Try.f7 Rows.fnLookupExtendSpec Rows.fnLookupExtendRow = true := by
  unfold joinedFacts
  repeat' (with_reducible refine (Bool.and_eq_true_iff).mpr ⟨?_, ?_⟩)
  all_goals first
    | (with_reducible exact fact_mayEnter)
    | (rw [fact_make]; rfl)
    | (rw [fact_lifts]; rfl)
    | (as_aux_lemma => kernel_rfl)
theorem fnLookupExtend_named : Try.pinned.checked.prog.funcNamed Rows.fnLookupExtendRow.func = some 7 := by kernel_rfl
theorem fnLookupExtend_inst : Try.f7.isInstance Try.pinned.checked.prog Rows.fnLookupExtendRow.origin Rows.fnLookupExtendRow.targs := of_decide_eq_true (by kernel_rfl)
theorem fnLookupExtend_wrap : Try.f7.isWrapper Try.pinned.checked.prog Rows.fnLookupExtendRow.wrapper Rows.fnLookupExtendRow.mainSum := by
  unfold Func.isWrapper; first | (rw [if_pos (by decide +kernel)]; kernel_rfl) | (rw [if_neg (by decide +kernel)]; exact ⟨rfl, rfl⟩)
theorem fnLookupExtend_proved : Rows.FnLookupExtendSaid :=
  OpenClaim.holds_of_wide 7 Try.f7 rfl rfl rfl rfl rfl rfl rfl ⟨rfl, rfl, rfl, rfl, rfl⟩ rfl rfl rfl rfl rfl fnLookupExtend_named Try.func7 fnLookupExtend_closed
    fnLookupExtend_inst fnLookupExtend_wrap
    (fun os started H enc _ => fnLookupExtend_lifted os started H enc)
#print axioms fnLookupExtend_proved
end Go.Proofs.Ytjgidakfpdmfdaa
