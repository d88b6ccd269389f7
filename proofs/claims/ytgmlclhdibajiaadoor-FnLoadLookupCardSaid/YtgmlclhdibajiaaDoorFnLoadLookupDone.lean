/- FnLoadLookup: the zone of a place that is read from a file is that of the place, at every place and every time; no condition but the card's own (errBadData reads as the program's text lays it). -/
import Derived.Test.YtgmlclhdibajiaaDoorLawLG
import Derived.Test.YtgmlclhdibajiaaDoorCardW
import Derived.Test.YtgmlclhdibajiaaDoorCards
import Derived.Test.YtgmlclhdibajiaaDoorFacts
import Derived.Test.YtgmlclhdibajiaaDoorOpenQ
import Derived.SevenTiedAt
import Derived.OpenShut
import Derived.ShutString
import Derived.ChangeOld
namespace Go.Proofs.YtgmlclhdibajiaaDoor
open Go.ChangeShapes Go.WideShapes Go.ChangeAt Go.RowKit
open Go.ChangeMaps (open_string shut_string)

set_option maxRecDepth 100000 in
theorem fnLoadLookup_lifted (os : Os) (started : os.Started) (H : Type) (enc : TypeId × Value → H) :
    ReturnsInHanded {} Tryd.checked os 3 .any (fun w args => (Rows.fnLoadLookupSpec.pre enc Tryd.prog Tryd.f3 Rows.fnLoadLookupRow.domain false w args ∧ laidMetH Tryd.prog cardLaid w) ∧ sizedMet enc Tryd.prog Tryd.f3 (OpenSpec.ofChange Rows.fnLoadLookupSpec) false w args) (Rows.fnLoadLookupSpec.post enc Tryd.prog Tryd.f3 false true false false) := by
  refine returnsInHanded_of_change_and (C := Tryd.checked) (X := fun w _ => laidMetH Tryd.prog cardLaid w) (fun _ _ _ hh h => h.of_heap hh) card_own started (by kernel_rfl) Tryd.func3
    (ChangeSpec.witness_at (enc := enc) (C := Tryd.checked) (os := os) (X := fun w _ => laidMetH Tryd.prog cardLaid w) false (cardWorld os) #[.agg #[.string ByteArray.empty, .slice none 0 0, .slice none 0 0, .string ByteArray.empty], .int .i64 0] 8 rfl (by kernel_rfl) (by kernel_rfl) (by kernel_rfl) (by kernel_rfl) (by kernel_rfl) (cardWorld_met os _)) ?_
  intro W base args ds gs before hval0 hW hcnd _ hL _
  have hval : ∀ (j : Nat) t v, Tryd.f3.params[j]? = some t → args[j]? = some v → Value.okWide Tryd.prog W .any base t v := hval0
  have hW' := hW
  obtain ⟨p, q, hA0, hV0, rfl, hfz, hnd⟩ := hW
  have hA : DataW.TrodAll enc Tryd.prog W 0 (fun _ => true) true Tryd.f3.params.toList args.toList ds p := hA0
  have hV : DataW.TrodVars enc Tryd.prog W (fun _ => true) ["loop.example/pub-zonerules/pub/gotimezone.errBadData"] gs q := hV0
  rw [Tryd.params3] at hA hval
  obtain ⟨v0, vs0, d0, ds0, p0, q0, hargs, rfl, rfl, h0, r0⟩ := trodAll_cons hA
  obtain ⟨v1, vs1, d1, ds1, p1, q1, rfl, rfl, rfl, h1, r1⟩ := trodAll_cons r0
  obtain ⟨rfl, rfl, rfl⟩ := trodAll_nil r1
  obtain rfl : args = #[v0, v1] := by cases args; simp_all
  obtain ⟨b0, hv0⟩ := card_laid hL
  obtain ⟨rfl, rfl⟩ := hV.unique (card_read enc hv0 trivial _)
  have lt0 : ∀ x ∈ p0, x.block < W.heap.size := by obtain ⟨m, hm⟩ := h0; exact DataW.trod_lt m _ _ _ hm
  obtain ⟨a0, o0, rfl, t0, g0, cc0⟩ := open_place3 (hval 0 25 v0 rfl rfl) h0
  obtain ⟨a1, rfl, rfl, rfl, w1⟩ := open_int Tryd.underlying2 (hval 1 2 v1 rfl rfl) h1
  have hw := fnLoadLookup_walk a0 o0 a1 _ W t0 g0 cc0 (card_cell hv0) (card_var hv0)
  clear hA0 hV0 hval0 hcnd hfz hnd hval hA hV hL g0 cc0
  refine hw.mono fun e W' ⟨he, bel⟩ => ?_
  subst he
  exact ⟨_, rfl, _, _, _, [], _, [.cell 0 0], hW', trodAll_mk1 (shut_bool Tryd.underlying4 _), (trodAll_cons_mk (Below.trod fact_laid (by kernel_rfl) (of_decide_eq_true (by kernel_rfl)) h0 bel lt0) (trodAll_cons_mk (shut_int Tryd.underlying2 w1) trodAll_mk0)), card_read enc (card_var_below bel hv0) trivial _, bel.frame _, fun h => by cases h⟩

set_option maxHeartbeats 40000000 in
theorem fnLoadLookup_closed : joinedFacts Tryd.prog 3 Tryd.f3 Rows.fnLoadLookupSpec Rows.fnLoadLookupRow = true := by
  unfold joinedFacts
  repeat' (with_reducible refine (Bool.and_eq_true_iff).mpr ⟨?_, ?_⟩)
  all_goals first
    | (with_reducible exact fact_mayEnter)
    | (rw [fact_make]; rfl)
    | (rw [fact_lifts]; rfl)
    | (as_aux_lemma => kernel_rfl)
theorem fnLoadLookup_named : Tryd.pinned.checked.prog.funcNamed Rows.fnLoadLookupRow.func = some 3 := by kernel_rfl
theorem fnLoadLookup_inst : Tryd.f3.isInstance Tryd.pinned.checked.prog Rows.fnLoadLookupRow.origin Rows.fnLoadLookupRow.targs := of_decide_eq_true (by kernel_rfl)
theorem fnLoadLookup_wrap : Tryd.f3.isWrapper Tryd.pinned.checked.prog Rows.fnLoadLookupRow.wrapper Rows.fnLoadLookupRow.mainSum := by
  unfold Func.isWrapper; first | (rw [if_pos (by decide +kernel)]; kernel_rfl) | (rw [if_neg (by decide +kernel)]; exact ⟨rfl, rfl⟩)
theorem fnLoadLookup_row : Rows.FnLoadLookupSaid :=
  OpenClaim.holds_of_wide 3 Tryd.f3 rfl rfl rfl rfl rfl rfl rfl ⟨rfl, rfl, rfl, rfl, rfl⟩ rfl rfl rfl rfl rfl fnLoadLookup_named Tryd.func3 fnLoadLookup_closed
    fnLoadLookup_inst fnLoadLookup_wrap
    (fun os started H enc _ => fnLoadLookup_lifted os started H enc)
theorem fnLoadLookup_proved : Rows.FnLoadLookupCardSaid :=
  Claim7.holds_tied_plain_at .later [] [.sentinel] true (true, "3f9f44d4b034b46353b5df00559eebd1848c4b4f0cdc85ea5b3d7c42a3113c23") false
    fnLoadLookup_row (fun _ h => by cases h) (by kernel_rfl) (fun _ h => by cases h) fnLoadLookup_row_tie rfl ⟨rfl, rfl⟩ (by kernel_rfl) rfl
    (fun f fn hf hfn => by
      obtain rfl : f = 3 := (Option.some.inj (fnLoadLookup_named.symm.trans hf)).symm
      obtain rfl : fn = Tryd.f3 := (Option.some.inj (Tryd.func3.symm.trans hfn)).symm
      refine ⟨by kernel_rfl, fun j t ht => ?_⟩
      rw [Tryd.params3] at ht
      have hm := Array.mem_of_getElem? ht
      simp only [List.mem_toArray, List.mem_cons, List.not_mem_nil, or_false] at hm
      rcases hm with rfl | rfl
      · exact (show Tryd.prog.wantsStandIn 25 = false by kernel_rfl)
      · exact (show Tryd.prog.wantsStandIn 2 = false by kernel_rfl))
    (by kernel_rfl)
#print axioms fnLoadLookup_proved
end Go.Proofs.YtgmlclhdibajiaaDoor
