/- FnFirstUnused and FnLookupNone: their walks. -/
import Derived.Test.YtjcmbghhlloejaaLawP
import Derived.Deep.DeepCutAuto
namespace Go.Proofs.Ytjcmbghhlloejaa
open Go.RowKit

set_option maxRecDepth 100000 in
set_option maxHeartbeats 16000000 in
theorem fnFirstUnused_walk (p : Pl) (a : Ad) (w : World) (hR : PlIn w w.heap.size p a) : Calls Try.prog 11 #[plA p a] w fun e w' => e = .returned (.bool true) ∧ Below w.heap.size w w' := by
  obtain ⟨A1, k1, A2, k2⟩ := a
  have HB0 := InP.new w p ⟨A1, k1, A2, k2⟩
  obtain ⟨c0, c1, c2, c3⟩ := HB0.cells
  have HFI := fits_at hR
  have HFD := Lib.hid (finds_at (w := w) (p := p) (a := ⟨A1, k1, A2, k2⟩))
  dsimp only at c1 c2 HB0
  cases hf : fits2 p
  · rw [hf] at HFI
    have HFI := Lib.hid HFI
    unfold plA at *
    dsimp only at HFI ⊢
    clear hf hR
    go_enter Try.func11, Try.ntmps11
    go_wp2_with fail
    refine (HFI.out _ HB0).mono ?_
    rintro e w1 ⟨rfl, HX1⟩
    go_wp2_with fail
    go_ret
    exact ⟨rfl, HX1.2⟩
  rw [hf] at HFI
  have HFI := Lib.hid HFI
  have HOK := ok_at hR hf
  cases hk : plOkB p
  · rw [hk] at HOK
    have HOK := Lib.hid HOK
    unfold plA at *
    dsimp only at HFI HOK ⊢
    clear hf hk hR
    have HX0 := HB0
    go_enter Try.func11, Try.ntmps11
    go_wp2_with fail
    refine (HFI.out _ HX0).mono ?_
    rintro e w1 ⟨rfl, HX1⟩
    clear c0 c1 c2 c3
    obtain ⟨c0, c1, c2, c3⟩ := HX1.cells
    dsimp only at c1 c2
    go_wp2_with fail
    refine (HOK.out _ HX1).mono ?_
    rintro e w2 ⟨rfl, HX2⟩
    clear c0 c1 c2 c3
    obtain ⟨c0, c1, c2, c3⟩ := HX2.cells
    dsimp only at c1 c2
    go_wp2_with fail
    refine (HFD.out _ HX2).mono ?_
    rintro e w3 ⟨rfl, HX3⟩
    clear c0 c1 c2 c3
    obtain ⟨c0, c1, c2, c3⟩ := HX3.cells
    dsimp only at c1 c2
    go_wp2_with fail
    go_ret
    exact ⟨rfl, HX3.2⟩
  rw [hk] at HOK
  have HOK := Lib.hid HOK
  have hok := (plOkB_iff p).1 hk
  have hoz := hok.2.2.1
  have hot := hok.2.2.2
  have HRH := Lib.hid hR
  have HFZ := Lib.hid (fun (h : usedB p.ts = false) => show ∀ W, InP w p ⟨A1, k1, A2, k2⟩ W → Calls Try.prog 20 #[plA p ⟨A1, k1, A2, k2⟩] W fun e W' => e = .returned (.int .i64 0) ∧ InP w p ⟨A1, k1, A2, k2⟩ W' from by
    have := first_in hR hok
    rw [show firstZ p.zs p.ts = 0 by unfold firstZ; rw [if_pos h]] at this
    exact this)
  clear hf hk hR hok
  unfold plA at *
  dsimp only at HFI HOK HFZ ⊢
  have HX0 := HB0
  go_enter Try.func11, Try.ntmps11
  go_wp2_with fail
  refine (HFI.out _ HX0).mono ?_
  rintro e w1 ⟨rfl, HX1⟩
  clear c0 c1 c2 c3
  obtain ⟨c0, c1, c2, c3⟩ := HX1.cells
  dsimp only at c1 c2
  go_wp2_with fail
  refine (HOK.out _ HX1).mono ?_
  rintro e w2 ⟨rfl, HX2⟩
  clear c0 c1 c2 c3
  obtain ⟨c0, c1, c2, c3⟩ := HX2.cells
  dsimp only at c1 c2
  go_wp2_with fail
  go_loopw [15] (fun i W => ∃ k : Nat, k ≤ p.ts.length ∧ i = .int .i64 k ∧ InP w p ⟨A1, k1, A2, k2⟩ W ∧ Hid (∀ t ∈ p.ts.take k, (fun t : Tr => !decide (t.ix = 0)) t = true)) (fun i _ => p.ts.length - (intOf i).toNat)
  case atStart => exact ⟨0, Nat.zero_le _, rfl, HX2, by simp [Hid]⟩
  case round =>
    clear c0 c1 c2 c3 HX2 HX1 HX0 HB0
    obtain ⟨k, hk, rfl, HX2, HA⟩ := hrel
    obtain ⟨c0, c1, c2, c3⟩ := HX2.cells
    dsimp only at c1 c2
    have hsz := HX2.2.size
    have hlt0 := HX2.1.lt
    by_cases hlt : k < p.ts.length
    · obtain ⟨t, htk⟩ : ∃ t, p.ts[k]? = some t := ⟨_, List.getElem?_eq_getElem hlt⟩
      obtain ⟨ad, hA, hadB, e0, e1⟩ := (HRH.out.2.1.below HX2.2 (Nat.le_refl _)).tr htk
      dsimp only at hA
      subst hA
      have HT := Lib.hid htk
      clear htk
      by_cases h0 : t.ix = 0
      · have hq : ((t.ix : Int) == 0) = true := by rw [h0]; rfl
        clear h0 HA
        go_wp2_with fail
        refine (HFD.out _ (HX2.alloc _)).mono ?_
        rintro e w3 ⟨rfl, HX3⟩
        go_wp2_with fail
        go_ret
        exact ⟨rfl, HX3.2⟩
      · have hq : ((t.ix : Int) == 0) = false := by rw [beq_eq_false_iff_ne]; omega
        have HA' := Lib.hid (all_take_step (fun t : Tr => !decide (t.ix = 0)) p.ts k t HT.out HA.out (by simp [h0]))
        clear h0 HA
        go_wp2_with fail
        go_roundw
        case rel => exact ⟨k + 1, by omega, by go_num, HX2.alloc _, HA'⟩
        case measure => simp [intOf]; omega
    · have hun : usedB p.ts = false := by
        have := HA.out
        rw [List.take_of_length_le (by omega)] at this
        unfold usedB; rw [List.any_eq_false]
        intro t ht
        have := this t ht
        simpa using this
      have HFZ1 := Lib.hid (HFZ.out hun)
      clear HA hun HFZ
      go_wp2_with fail
      refine (HFZ1.out _ HX2).mono ?_
      rintro e w3 ⟨rfl, HX3⟩
      clear c0 c1 c2 c3
      obtain ⟨c0, c1, c2, c3⟩ := HX3.cells
      go_wp2_with fail
      refine (HFD.out _ HX3).mono ?_
      rintro e w4 ⟨rfl, HX4⟩
      go_wp2_with fail
      go_ret
      exact ⟨rfl, HX4.2⟩

theorem eql_utc (w : World) : (binOp .eql 34 (.agg #[.string ⟨#[85, 84, 67]⟩, .int .i64 0, .int .i64 (-9223372036854775808), .int .i64 9223372036854775807, .bool false]) (.agg #[.string ⟨#[85, 84, 67]⟩, .int .i64 0, .int .i64 (-9223372036854775808), .int .i64 9223372036854775807, .bool false])).run Try.prog w = .ok (.bool true) w := by kernel_rfl
set_option maxRecDepth 100000 in
set_option maxHeartbeats 4000000 in
theorem fnLookupNone_walk (s : Bs) (sec : Int) : Ret 8 #[.string (S s), .int .i64 sec] (.bool true) := by
  intro w
  by_cases hl : (2147483647 : Int) < (s.length : Int)
  · go_enter Try.func8, Try.ntmps8
    go_wp2_with fail
    go_ret
    exact ⟨rfl, Below.refl _ _⟩
  have HL := implLookup_ret ⟨[], [], [], s⟩ ⟨none, 0, none, 0⟩ w w.heap.size (Nat.le_refl _) ⟨fun h => by simp at h, fun h => by simp at h, fun t ht => by cases ht⟩ (by simp) (by simp) (.inl rfl) (by show s.length ≤ _; omega) sec
  have e : lookF ⟨[], [], [], s⟩ sec = ⟨[85, 84, 67], 0, -9223372036854775808, 9223372036854775807, false⟩ := by
    unfold lookF; rw [if_neg (fun h => h.1 rfl)]; rfl
  rw [e] at HL
  have HL := Lib.hid HL
  clear e
  have heq := eql_utc
  go_enter Try.func8, Try.ntmps8
  go_wp2_with fail
  refine HL.out.mono ?_
  rintro e w1 ⟨he, hb1⟩
  change e = .returned (.agg #[.string ⟨#[85, 84, 67]⟩, .int .i64 0, .int .i64 (-9223372036854775808), .int .i64 9223372036854775807, .bool false]) at he
  subst he
  go_wp2_with fail
  refine (finds_ret _).mono ?_
  rintro e w2 ⟨rfl, hb2'⟩
  have hb2 : Below w.heap.size w w2 := hb1.trans (hb2'.mono hb1.size)
  go_wp2_with fail
  go_ret
  exact ⟨rfl, hb2⟩

end Go.Proofs.Ytjcmbghhlloejaa
