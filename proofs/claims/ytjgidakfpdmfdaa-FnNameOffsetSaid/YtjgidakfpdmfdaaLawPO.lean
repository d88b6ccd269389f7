/- FnNameOffset: its walk. -/
import Derived.Test.YtjgidakfpdmfdaaLawPN
namespace Go.Proofs.Ytjgidakfpdmfdaa
open Go.RowKit

set_option maxRecDepth 100000 in
set_option maxHeartbeats 16000000 in
theorem fnNameOffset_walk (p : Pl) (a : Ad) (name : Bs) (unix : Int) (w : World) (hR : PlIn w w.heap.size p a) : Calls Try.prog 4 #[plA p a, .string (S name), .int .i64 unix] w fun e w' => e = .returned (.bool true) ∧ Below w.heap.size w w' := by
  obtain ⟨A1, k1, A2, k2⟩ := a
  have HB0 := InP.new w p ⟨A1, k1, A2, k2⟩
  obtain ⟨c0, c1, c2, c3⟩ := HB0.cells
  have HFI := fits_at hR
  have HFD := Lib.hid (finds_at (w := w) (p := p) (a := ⟨A1, k1, A2, k2⟩))
  dsimp only at c1 c2 HB0
  cases hf : fits2 p
  · rw [hf] at HFI
    have HFI := Lib.hid HFI
    unfold plA at *
    dsimp only at HFI ⊢
    clear hf hR
    go_enter Try.func4, Try.ntmps4
    go_wp2_with fail
    refine (HFI.out _ HB0).mono ?_
    rintro e w1 ⟨rfl, HX1⟩
    go_wp2_with fail
    go_ret
    exact ⟨rfl, HX1.2⟩
  rw [hf] at HFI
  have HFI := Lib.hid HFI
  by_cases hnl : 2147483647 < (name.length : Int)
  · have hnl' : decide (2147483647 < (name.length : Int)) = true := decide_eq_true hnl
    unfold plA at *
    dsimp only at HFI ⊢
    clear hf hR hnl
    go_enter Try.func4, Try.ntmps4
    go_wp2_with fail
    refine (HFI.out _ HB0).mono ?_
    rintro e w1 ⟨rfl, HX1⟩
    go_wp2_with fail
    go_ret
    exact ⟨rfl, HX1.2⟩
  have hnl' : decide (2147483647 < (name.length : Int)) = false := decide_eq_false hnl
  have HOK := ok_at hR hf
  cases hk : plOkB p
  · rw [hk] at HOK
    have HOK := Lib.hid HOK
    unfold plA at *
    dsimp only at HFI HOK ⊢
    clear hf hk hR hnl
    have HX0 := HB0
    go_enter Try.func4, Try.ntmps4
    go_wp2_with fail
    refine (HFI.out _ HX0).mono ?_
    rintro e w1 ⟨rfl, HX1⟩
    clear c0 c1 c2 c3
    obtain ⟨c0, c1, c2, c3⟩ := HX1.cells
    dsimp only at c1 c2
    go_wp2_with fail
    refine (HOK.out _ HX1).mono ?_
    rintro e w2 ⟨rfl, HX2⟩
    clear c0 c1 c2 c3
    obtain ⟨c0, c1, c2, c3⟩ := HX2.cells
    dsimp only at c1 c2
    go_wp2_with fail
    refine (HFD.out _ HX2).mono ?_
    rintro e w3 ⟨rfl, HX3⟩
    clear c0 c1 c2 c3
    obtain ⟨c0, c1, c2, c3⟩ := HX3.cells
    dsimp only at c1 c2
    go_wp2_with fail
    go_ret
    exact ⟨rfl, HX3.2⟩
  rw [hk] at HOK
  have HOK := Lib.hid HOK
  have hok := (plOkB_iff p).1 hk
  have hoz := hok.2.2.1
  have hot := hok.2.2.2
  have HRH := Lib.hid hR
  cases hemp : p.ext.isEmpty
  · unfold plA at *
    dsimp only at HFI HOK ⊢
    clear hf hk hR hnl hok hoz hot
    have HX0 := HB0
    go_enter Try.func4, Try.ntmps4
    go_wp2_with fail
    refine (HFI.out _ HX0).mono ?_
    rintro e w1 ⟨rfl, HX1⟩
    clear c0 c1 c2 c3
    obtain ⟨c0, c1, c2, c3⟩ := HX1.cells
    dsimp only at c1 c2
    go_wp2_with fail
    refine (HOK.out _ HX1).mono ?_
    rintro e w2 ⟨rfl, HX2⟩
    clear c0 c1 c2 c3
    obtain ⟨c0, c1, c2, c3⟩ := HX2.cells
    dsimp only at c1 c2
    go_wp2_with fail
    refine (HFD.out _ HX2).mono ?_
    rintro e w3 ⟨rfl, HX3⟩
    clear c0 c1 c2 c3
    obtain ⟨c0, c1, c2, c3⟩ := HX3.cells
    dsimp only at c1 c2
    go_wp2_with fail
    go_ret
    exact ⟨rfl, HX3.2⟩
  have hex : p.ext = [] := by cases h : p.ext with
    | nil => rfl
    | cons c l => rw [h] at hemp; cases hemp
  by_cases hu0 : unix < -1152921504606846976
  · have hu0' : decide (unix < -1152921504606846976) = true := decide_eq_true hu0
    unfold plA at *
    dsimp only at HFI HOK ⊢
    clear hf hk hR hnl hok hoz hot hu0 hex
    have HX0 := HB0
    go_enter Try.func4, Try.ntmps4
    go_wp2_with fail
    refine (HFI.out _ HX0).mono ?_
    rintro e w1 ⟨rfl, HX1⟩
    clear c0 c1 c2 c3
    obtain ⟨c0, c1, c2, c3⟩ := HX1.cells
    dsimp only at c1 c2
    go_wp2_with fail
    refine (HOK.out _ HX1).mono ?_
    rintro e w2 ⟨rfl, HX2⟩
    clear c0 c1 c2 c3
    obtain ⟨c0, c1, c2, c3⟩ := HX2.cells
    dsimp only at c1 c2
    go_wp2_with fail
    refine (HFD.out _ HX2).mono ?_
    rintro e w3 ⟨rfl, HX3⟩
    clear c0 c1 c2 c3
    obtain ⟨c0, c1, c2, c3⟩ := HX3.cells
    dsimp only at c1 c2
    go_wp2_with fail
    go_ret
    exact ⟨rfl, HX3.2⟩
  have hu0' : decide (unix < -1152921504606846976) = false := decide_eq_false hu0
  by_cases hu1 : 1152921504606846976 < unix
  · have hu1' : decide (1152921504606846976 < unix) = true := decide_eq_true hu1
    unfold plA at *
    dsimp only at HFI HOK ⊢
    clear hf hk hR hnl hok hoz hot hu0 hu1 hex
    have HX0 := HB0
    go_enter Try.func4, Try.ntmps4
    go_wp2_with fail
    refine (HFI.out _ HX0).mono ?_
    rintro e w1 ⟨rfl, HX1⟩
    clear c0 c1 c2 c3
    obtain ⟨c0, c1, c2, c3⟩ := HX1.cells
    dsimp only at c1 c2
    go_wp2_with fail
    refine (HOK.out _ HX1).mono ?_
    rintro e w2 ⟨rfl, HX2⟩
    clear c0 c1 c2 c3
    obtain ⟨c0, c1, c2, c3⟩ := HX2.cells
    dsimp only at c1 c2
    go_wp2_with fail
    refine (HFD.out _ HX2).mono ?_
    rintro e w3 ⟨rfl, HX3⟩
    clear c0 c1 c2 c3
    obtain ⟨c0, c1, c2, c3⟩ := HX3.cells
    dsimp only at c1 c2
    go_wp2_with fail
    go_ret
    exact ⟨rfl, HX3.2⟩
  have hu1' : decide (1152921504606846976 < unix) = false := decide_eq_false hu1
  have HNI := name_in hR hok hf name unix (by omega) (by omega)
  have HLW := fun o => nm_law p hok hex name unix o
  have HLI := Lib.hid (fun sec => look_in hR hf hok sec)
  have HOF := Lib.hid hok.1
  cases hF : nmF p name unix with
  | none =>
    rw [hF] at HNI
    have HNI := Lib.hid HNI
    clear hf hk hR hok hoz hot hex hu0 hu1 hnl hF HLW HLI HOF
    unfold plA at *
    dsimp only at HFI HOK HNI ⊢
    have HX0 := HB0
    go_enter Try.func4, Try.ntmps4
    go_wp2_with fail
    refine (HFI.out _ HX0).mono ?_
    rintro e w1 ⟨rfl, HX1⟩
    clear c0 c1 c2 c3
    obtain ⟨c0, c1, c2, c3⟩ := HX1.cells
    dsimp only at c1 c2
    go_wp2_with fail
    refine (HOK.out _ HX1).mono ?_
    rintro e w2 ⟨rfl, HX2⟩
    clear c0 c1 c2 c3
    obtain ⟨c0, c1, c2, c3⟩ := HX2.cells
    dsimp only at c1 c2
    go_wp2_with fail
    refine (HNI.out _ HX2).mono ?_
    rintro e w3 ⟨rfl, HX3⟩
    unfold nmV
    simp only [Option.isSome_none, Option.getD_none]
    go_wp2_with fail
    refine (HFD.out _ HX3).mono ?_
    rintro e w4 ⟨rfl, HX4⟩
    go_wp2_with fail
    go_ret
    exact ⟨rfl, HX4.2⟩
  | some off =>
    rw [hF] at HNI
    have HNI := Lib.hid HNI
    have HLW2 := Lib.hid (HLW off hF)
    have hzl := hoz.2
    clear hf hk hR hok hoz hot hex hnl hF HLW
    unfold plA at *
    dsimp only at HFI HOK HNI HLI ⊢
    have HX0 := HB0
    go_enter Try.func4, Try.ntmps4
    go_wp2_with fail
    refine (HFI.out _ HX0).mono ?_
    rintro e w1 ⟨rfl, HX1⟩
    clear c0 c1 c2 c3
    obtain ⟨c0, c1, c2, c3⟩ := HX1.cells
    dsimp only at c1 c2
    go_wp2_with fail
    refine (HOK.out _ HX1).mono ?_
    rintro e w2 ⟨rfl, HX2⟩
    clear c0 c1 c2 c3
    obtain ⟨c0, c1, c2, c3⟩ := HX2.cells
    dsimp only at c1 c2
    go_wp2_with fail
    refine (HNI.out _ HX2).mono ?_
    rintro e w3 ⟨rfl, HX3⟩
    unfold nmV
    simp only [Option.isSome_some, Option.getD_some]
    clear c0 c1 c2 c3
    obtain ⟨c0, c1, c2, c3⟩ := HX3.cells
    dsimp only at c1 c2
    go_wp2_with fail
    go_loopw [9, 10, 11, 53] (fun bh bu br i W => ∃ k : Nat, k ≤ p.zs.length ∧ i = .int .i64 k ∧ InP w p ⟨A1, k1, A2, k2⟩ W ∧ bh = .bool (hasO name off (p.zs.take k)) ∧ bu = .bool (usedN p name unix (p.zs.take k)) ∧ br = .bool (rightN p name unix off (p.zs.take k))) (fun _ _ _ i _ => p.zs.length - (intOf i).toNat)
    case atStart => exact ⟨0, Nat.zero_le _, rfl, HX3, rfl, rfl, rfl⟩
    case round =>
      clear c0 c1 c2 c3 HX3 HX2 HX1 HX0 HB0
      obtain ⟨k, hk, rfl, HX, rfl, rfl, rfl⟩ := hrel
      obtain ⟨c0, c1, c2, c3⟩ := HX.cells
      dsimp only at c1 c2
      by_cases hlt : k < p.zs.length
      · obtain ⟨z, hzk⟩ : ∃ z, p.zs[k]? = some z := ⟨_, List.getElem?_eq_getElem hlt⟩
        obtain ⟨ad, hA, _, e0, e1, e2⟩ := (HRH.out.1.below HX.2 (Nat.le_refl _)).zo hzk
        dsimp only at hA
        subst hA
        have hlt0 := HX.1.lt
        have hof := HOF.out z (List.mem_of_getElem? hzk)
        have i0 : (0 : Int) ≤ (k : Int) := by omega
        have i1 : (k : Int) < (p.zs.length : Int) := by omega
        have HS := Lib.hid (show hasO name off (p.zs.take (k + 1)) = (hasO name off (p.zs.take k) || (decide (z.nm = name) && decide (z.off = off))) from any_snoc _ _ _ _ hzk)
        have HS2 := Lib.hid (show usedN p name unix (p.zs.take (k + 1)) = (usedN p name unix (p.zs.take k) || nmHit p name unix z) from any_snoc _ _ _ _ hzk)
        have HS3 := Lib.hid (show rightN p name unix off (p.zs.take (k + 1)) = (rightN p name unix off (p.zs.take k) || (nmHit p name unix z && decide ((lookF p (unix - z.off)).off = off))) from any_snoc _ _ _ _ hzk)
        clear hzk
        generalize hasO name off (p.zs.take k) = h at *
        generalize usedN p name unix (p.zs.take k) = u at *
        generalize rightN p name unix off (p.zs.take k) = r at *
        by_cases hq : z.nm = name
        · have q1 : (z.nm == name) = true := by rw [beq_iff_eq]; exact hq
          have q1' : (z.nm != name) = false := by rw [bne_eq_false_iff_eq]; exact hq
          have hH : nmHit p name unix z = decide ((lookF p (unix - z.off)).nm = name) := by unfold nmHit; rw [decide_eq_true hq]; rfl
          rw [hH] at HS2 HS3
          rw [decide_eq_true hq] at HS
          have HLI2 := Lib.hid (HLI.out (unix - z.off))
          clear hH hq
          generalize lookF p (unix - z.off) = f at *
          have hh : (h = true) ∨ (h = false ∧ (z.off == off) = true) ∨ (h = false ∧ (z.off == off) = false) := by
            cases h
            · cases hz : (z.off == off)
              · right; right; exact ⟨rfl, rfl⟩
              · right; left; exact ⟨rfl, rfl⟩
            · left; rfl
          have HH' : Hid (hasO name off (p.zs.take (k + 1)) = (h || (z.off == off))) := by show _ = _; rw [HS.out, Bool.true_and]; congr 1
          have HU' : Hid (usedN p name unix (p.zs.take (k + 1)) = (u || (f.nm == name))) := by show _ = _; rw [HS2.out]; congr 1; rw [Bool.eq_iff_iff]; simp
          have HR' : Hid (rightN p name unix off (p.zs.take (k + 1)) = (r || ((f.nm == name) && (f.off == off)))) := by show _ = _; rw [HS3.out]; congr 1; rw [Bool.eq_iff_iff]; simp
          have hff : ((f.nm == name) = false) ∨ ((f.nm == name) = true ∧ r = true) ∨ ((f.nm == name) = true ∧ r = false ∧ (f.off == off) = true) ∨ ((f.nm == name) = true ∧ r = false ∧ (f.off == off) = false) := by
            cases (f.nm == name) <;> cases r <;> cases (f.off == off) <;> simp
          clear HS HS2 HS3
          unfold foA at HLI2
          rcases hh with rfl | ⟨rfl, hz⟩ | ⟨rfl, hz⟩
          all_goals
            rcases hff with hg | ⟨hg, rfl⟩ | ⟨hg, rfl, ho⟩ | ⟨hg, rfl, ho⟩
            all_goals
              go_wp2_with fail
              refine (HLI2.out _ (HX.alloc _)).mono ?_
              rintro e w4 ⟨rfl, HX4⟩
              clear c0 c1 c2 c3 e0 e1 e2
              obtain ⟨c0, c1, c2, c3⟩ := HX4.cells
              dsimp only at c1 c2
              go_wp2_with fail
              go_roundw
              case rel => exact ⟨k + 1, by omega, by go_num, HX4.alloc _, by rw [HH'.out]; simp [*], by rw [HU'.out]; simp [*], by rw [HR'.out]; simp [*]⟩
              case measure => simp [intOf]; omega
        · have q1 : (z.nm == name) = false := by rw [beq_eq_false_iff_ne]; exact hq
          have q1' : (z.nm != name) = true := by rw [bne_iff_ne]; exact hq
          have HH' : Hid (hasO name off (p.zs.take (k + 1)) = h) := by show _ = _; rw [HS.out, decide_eq_false hq]; simp
          have HU' : Hid (usedN p name unix (p.zs.take (k + 1)) = u) := by show _ = _; rw [HS2.out]; unfold nmHit; rw [decide_eq_false hq]; simp
          have HR' : Hid (rightN p name unix off (p.zs.take (k + 1)) = r) := by show _ = _; rw [HS3.out]; unfold nmHit; rw [decide_eq_false hq]; simp
          clear HS HS2 HS3 hq
          go_wp2_with fail
          go_roundw
          case rel => exact ⟨k + 1, by omega, by go_num, HX.alloc _, by rw [HH'.out], by rw [HU'.out], by rw [HR'.out]⟩
          case measure => simp [intOf]; omega
      · obtain rfl : k = p.zs.length := by omega
        rw [List.take_length]
        have hl1 := HLW2.out.1
        have hl2 := HLW2.out.2
        rw [hl1]
        generalize usedN p name unix p.zs = u at *
        generalize rightN p name unix off p.zs = r at *
        clear HLW2 hl1
        rcases hl2 with rfl | rfl
        · go_wp2_with fail
          refine (HFD.out _ HX).mono ?_
          rintro e w4 ⟨rfl, HX4⟩
          go_wp2_with fail
          go_ret
          exact ⟨rfl, HX4.2⟩
        · cases u
          all_goals
            go_wp2_with fail
            refine (HFD.out _ HX).mono ?_
            rintro e w4 ⟨rfl, HX4⟩
            go_wp2_with fail
            go_ret
            exact ⟨rfl, HX4.2⟩

end Go.Proofs.Ytjgidakfpdmfdaa
