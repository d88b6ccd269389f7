/- FnTzsetSpoilt: a text that is cut behind nothing, a name, a comma or a rule and a comma is none, at all zones and rules; no condition. -/
import Derived.Test.YtkikpcfcjkgblaaLawTzS
import Derived.Test.YtkikpcfcjkgblaaFacts
import Derived.Test.YtkikpcfcjkgblaaOpen
import Derived.OpenShut
import Derived.ShutString
import Derived.ChangeOld
namespace Go.Proofs.Ytkikpcfcjkgblaa
open Go.ChangeShapes Go.WideShapes Go.ChangeAt Go.RowKit
open Go.ChangeMaps (open_string shut_string)

set_option maxRecDepth 100000 in
theorem fnTzsetSpoilt_lifted (os : Os) (started : os.Started) (H : Type) (enc : TypeId × Value → H) :
    ReturnsInHanded {} Try.checked os 16 .any (Rows.fnTzsetSpoiltSpec.pre6 enc Try.prog Try.f16 Rows.fnTzsetSpoiltRow.domain false) (Rows.fnTzsetSpoiltSpec.post enc Try.prog Try.f16 false true false false) := by
  refine returnsInHanded_of_change (C := Try.checked) (by kernel_rfl) started (by kernel_rfl) Try.func16
    (ChangeSpec.witness6 (enc := enc) (C := Try.checked) false ⟨#[], #[.agg #[.string ByteArray.empty, .int .i64 0, .bool false], .agg #[.string ByteArray.empty, .int .i64 0, .bool false], .agg #[.int .i64 0, .int .i64 0, .int .i64 0, .int .i64 0, .int .i64 0], .agg #[.int .i64 0, .int .i64 0, .int .i64 0, .int .i64 0, .int .i64 0], .int .i64 0], []⟩ 8 (by kernel_rfl) (by kernel_rfl) (by kernel_rfl) (by kernel_rfl)) ?_
  intro W base args ds gs before hval0 hW hcnd _
  have hval : ∀ (j : Nat) t v, Try.f16.params[j]? = some t → args[j]? = some v → Value.okWide Try.prog W .any base t v := hval0
  have hW' := hW
  obtain ⟨p, q, hA0, hV, rfl, hfz, hnd⟩ := hW
  have hA : DataW.TrodAll enc Try.prog W 0 (fun _ => true) true Try.f16.params.toList args.toList ds p := hA0
  rw [Try.params16] at hA hval
  obtain ⟨v0, vs0, d0, ds0, p0, q0, hargs, rfl, rfl, h0, r0⟩ := trodAll_cons hA
  obtain ⟨v1, vs1, d1, ds1, p1, q1, rfl, rfl, rfl, h1, r1⟩ := trodAll_cons r0
  obtain ⟨v2, vs2, d2, ds2, p2, q2, rfl, rfl, rfl, h2, r2⟩ := trodAll_cons r1
  obtain ⟨v3, vs3, d3, ds3, p3, q3, rfl, rfl, rfl, h3, r3⟩ := trodAll_cons r2
  obtain ⟨v4, vs4, d4, ds4, p4, q4, rfl, rfl, rfl, h4, r4⟩ := trodAll_cons r3
  obtain ⟨rfl, rfl, rfl⟩ := trodAll_nil r4
  obtain rfl : args = #[v0, v1, v2, v3, v4] := by cases args; simp_all
  obtain ⟨rfl, rfl⟩ := trodVars_none hV
  have lt0 : ∀ x ∈ p0, x.block < W.heap.size := by obtain ⟨m, hm⟩ := h0; exact DataW.trod_lt m _ _ _ hm
  obtain ⟨a0, o0, t0, rfl⟩ := open_zone (hval 0 48 v0 rfl rfl) h0
  have lt1 : ∀ x ∈ p1, x.block < W.heap.size := by obtain ⟨m, hm⟩ := h1; exact DataW.trod_lt m _ _ _ hm
  obtain ⟨a1, o1, t1, rfl⟩ := open_zone (hval 1 48 v1 rfl rfl) h1
  have lt2 : ∀ x ∈ p2, x.block < W.heap.size := by obtain ⟨m, hm⟩ := h2; exact DataW.trod_lt m _ _ _ hm
  obtain ⟨a2, rfl⟩ := open_rule (hval 2 36 v2 rfl rfl) h2
  have lt3 : ∀ x ∈ p3, x.block < W.heap.size := by obtain ⟨m, hm⟩ := h3; exact DataW.trod_lt m _ _ _ hm
  obtain ⟨a3, rfl⟩ := open_rule (hval 3 36 v3 rfl rfl) h3
  obtain ⟨a4, rfl, rfl, rfl, w4⟩ := open_int Try.underlying3 (hval 4 3 v4 rfl rfl) h4
  clear hA0 hval0 hcnd hfz hnd hval hA
  have hw := fnTzsetSpoilt_all a0 o0 t0 a1 o1 t1 a2 a3 a4
  refine (hw W).mono fun e W' ⟨he, bel⟩ => ?_
  subst he
  exact ⟨_, rfl, _, _, _, [], _, [], hW', trodAll_mk1 (shut_bool Try.underlying4 _), (trodAll_cons_mk (Below.trod fact_laid (by kernel_rfl) (of_decide_eq_true (by kernel_rfl)) h0 bel lt0) (trodAll_cons_mk (Below.trod fact_laid (by kernel_rfl) (of_decide_eq_true (by kernel_rfl)) h1 bel lt1) (trodAll_cons_mk (Below.trod fact_laid (by kernel_rfl) (of_decide_eq_true (by kernel_rfl)) h2 bel lt2) (trodAll_cons_mk (Below.trod fact_laid (by kernel_rfl) (of_decide_eq_true (by kernel_rfl)) h3 bel lt3) (trodAll_cons_mk (shut_int Try.underlying3 w4) trodAll_mk0))))), rfl, bel.frame _, fun h => by cases h⟩

set_option maxHeartbeats 40000000 in
theorem fnTzsetSpoilt_closed : joinedFacts Try.prog 16 Try.f16 Rows.fnTzsetSpoiltSpec Rows.fnTzsetSpoiltRow = true := by
  unfold joinedFacts
  repeat' (with_reducible refine (Bool.and_eq_true_iff).mpr ⟨?_, ?_⟩)
  all_goals first
    | (with_reducible exact fact_mayEnter)
    | (rw [fact_make]; rfl)
    | (rw [fact_lifts]; rfl)
    | (as_aux_lemma => kernel_rfl)
theorem fnTzsetSpoilt_named : Try.pinned.checked.prog.funcNamed Rows.fnTzsetSpoiltRow.func = some 16 := by kernel_rfl
theorem fnTzsetSpoilt_inst : Try.f16.isInstance Try.pinned.checked.prog Rows.fnTzsetSpoiltRow.origin Rows.fnTzsetSpoiltRow.targs := of_decide_eq_true (by kernel_rfl)
theorem fnTzsetSpoilt_wrap : Try.f16.isWrapper Try.pinned.checked.prog Rows.fnTzsetSpoiltRow.wrapper Rows.fnTzsetSpoiltRow.mainSum := by
  unfold Func.isWrapper; first | (rw [if_pos (by decide +kernel)]; kernel_rfl) | (rw [if_neg (by decide +kernel)]; exact ⟨rfl, rfl⟩)
theorem fnTzsetSpoilt_proved : Rows.FnTzsetSpoiltSaid :=
  OpenClaim.holds_of_wide 16 Try.f16 rfl rfl rfl rfl rfl rfl rfl ⟨rfl, rfl, rfl, rfl, rfl⟩ rfl rfl rfl rfl rfl fnTzsetSpoilt_named Try.func16 fnTzsetSpoilt_closed
    fnTzsetSpoilt_inst fnTzsetSpoilt_wrap
    (fun os started H enc _ => fnTzsetSpoilt_lifted os started H enc)
#print axioms fnTzsetSpoilt_proved
end Go.Proofs.Ytkikpcfcjkgblaa
