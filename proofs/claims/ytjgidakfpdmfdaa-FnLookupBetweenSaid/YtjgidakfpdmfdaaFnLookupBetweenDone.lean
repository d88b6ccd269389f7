/- FnLookupBetween: a time lies in the bounds of the zone that is told for it, and every time in these bounds has that zone; for every place and two times (the walk), no further condition. -/
import Derived.Test.YtjgidakfpdmfdaaLawPD
import Derived.Test.YtjgidakfpdmfdaaFacts
import Derived.Test.YtjgidakfpdmfdaaOpenP
import Derived.OpenShut
import Derived.ShutString
import Derived.ChangeOld
namespace Go.Proofs.Ytjgidakfpdmfdaa
open Go.ChangeShapes Go.WideShapes Go.ChangeAt Go.RowKit
open Go.ChangeMaps (open_string shut_string)

set_option maxRecDepth 100000 in
theorem fnLookupBetween_lifted (os : Os) (started : os.Started) (H : Type) (enc : TypeId × Value → H) :
    ReturnsInHanded {} Try.checked os 5 .any (Rows.fnLookupBetweenSpec.pre6 enc Try.prog Try.f5 Rows.fnLookupBetweenRow.domain false) (Rows.fnLookupBetweenSpec.post enc Try.prog Try.f5 false true false false) := by
  refine returnsInHanded_of_change (C := Try.checked) (by kernel_rfl) started (by kernel_rfl) Try.func5
    (ChangeSpec.witness6 (enc := enc) (C := Try.checked) false ⟨#[], #[.agg #[.string ByteArray.empty, .slice none 0 0, .slice none 0 0, .string ByteArray.empty], .int .i64 0, .int .i64 0], []⟩ 8 (by kernel_rfl) (by kernel_rfl) (by kernel_rfl) (by kernel_rfl)) ?_
  intro W base args ds gs before hval0 hW hcnd _
  have hval : ∀ (j : Nat) t v, Try.f5.params[j]? = some t → args[j]? = some v → Value.okWide Try.prog W .any base t v := hval0
  have hW' := hW
  obtain ⟨p, q, hA0, hV, rfl, hfz, hnd⟩ := hW
  have hA : DataW.TrodAll enc Try.prog W 0 (fun _ => true) true Try.f5.params.toList args.toList ds p := hA0
  rw [Try.params5] at hA hval
  obtain ⟨v0, vs0, d0, ds0, p0, q0, hargs, rfl, rfl, h0, r0⟩ := trodAll_cons hA
  obtain ⟨v1, vs1, d1, ds1, p1, q1, rfl, rfl, rfl, h1, r1⟩ := trodAll_cons r0
  obtain ⟨v2, vs2, d2, ds2, p2, q2, rfl, rfl, rfl, h2, r2⟩ := trodAll_cons r1
  obtain ⟨rfl, rfl, rfl⟩ := trodAll_nil r2
  obtain rfl : args = #[v0, v1, v2] := by cases args; simp_all
  obtain ⟨rfl, rfl⟩ := trodVars_none hV
  have lt0 : ∀ x ∈ p0, x.block < W.heap.size := by obtain ⟨m, hm⟩ := h0; exact DataW.trod_lt m _ _ _ hm
  obtain ⟨a0, o0, rfl, t0⟩ := open_place (hval 0 25 v0 rfl rfl) h0
  obtain ⟨a1, rfl, rfl, rfl, w1⟩ := open_int Try.underlying2 (hval 1 2 v1 rfl rfl) h1
  obtain ⟨a2, rfl, rfl, rfl, w2⟩ := open_int Try.underlying2 (hval 2 2 v2 rfl rfl) h2
  clear hA0 hval0 hcnd hfz hnd hval hA
  have hw := fnLookupBetween_walk a0 o0 a1 (lit_i64 w1) a2
  refine (hw W t0).mono fun e W' ⟨he, bel⟩ => ?_
  subst he
  exact ⟨_, rfl, _, _, _, [], _, [], hW', trodAll_mk1 (shut_bool Try.underlying4 _), (trodAll_cons_mk (Below.trod fact_laid (by kernel_rfl) (of_decide_eq_true (by kernel_rfl)) h0 bel lt0) (trodAll_cons_mk (shut_int Try.underlying2 w1) (trodAll_cons_mk (shut_int Try.underlying2 w2) trodAll_mk0))), rfl, bel.frame _, fun h => by cases h⟩

set_option maxHeartbeats 40000000 in
theorem fnLookupBetween_closed : joinedFacts Try.prog 5 Try.f5 Rows.fnLookupBetweenSpec Rows.fnLookupBetweenRow = true := by
  unfold joinedFacts
  repeat' (with_reducible refine (Bool.and_eq_true_iff).mpr ⟨?_, ?_⟩)
  all_goals first
    | (with_reducible exact fact_mayEnter)
    | (rw [fact_make]; rfl)
    | (rw [fact_lifts]; rfl)
    | (as_aux_lemma => kernel_rfl)
theorem fnLookupBetween_named : Try.pinned.checked.prog.funcNamed Rows.fnLookupBetweenRow.func = some 5 := by kernel_rfl
theorem fnLookupBetween_inst : Try.f5.isInstance Try.pinned.checked.prog Rows.fnLookupBetweenRow.origin Rows.fnLookupBetweenRow.targs := of_decide_eq_true (by kernel_rfl)
theorem fnLookupBetween_wrap : Try.f5.isWrapper Try.pinned.checked.prog Rows.fnLookupBetweenRow.wrapper Rows.fnLookupBetweenRow.mainSum := by
  unfold Func.isWrapper; first | (rw [if_pos (by decide +kernel)]; kernel_rfl) | (rw [if_neg (by decide +kernel)]; exact ⟨rfl, rfl⟩)
theorem fnLookupBetween_proved : Rows.FnLookupBetweenSaid :=
  OpenClaim.holds_of_wide 5 Try.f5 rfl rfl rfl rfl rfl rfl rfl ⟨rfl, rfl, rfl, rfl, rfl⟩ rfl rfl rfl rfl rfl fnLookupBetween_named Try.func5 fnLookupBetween_closed
    fnLookupBetween_inst fnLookupBetween_wrap
    (fun os started H enc _ => fnLookupBetween_lifted os started H enc)
#print axioms fnLookupBetween_proved
end Go.Proofs.Ytjgidakfpdmfdaa
