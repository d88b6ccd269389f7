/- FnNameMissing: its walk. -/
import Derived.Test.YtjgidakfpdmfdaaLawPW
import Derived.Test.YtjgidakfpdmfdaaLName
namespace Go.Proofs.Ytjgidakfpdmfdaa
open Go.RowKit

theorem name_in {w : World} {p : Pl} {a : Ad} (hR : PlIn w w.heap.size p a) (hok : plOk p) (hf : fits2 p = true) (name : Bs) (unix : Int) (hu0 : -1152921504606846976 ≤ unix) (hu1 : unix ≤ 1152921504606846976) (W : World) (h : InP w p a W) : Calls Try.prog 11 #[plA p a, .string (S name), .int .i64 unix] W fun e W' => e = .returned (nmV (nmF p name unix)) ∧ InP w p a W' := by
  obtain ⟨_, _, _, he, _⟩ := fits2_all p hf
  exact (implLookupName_ret p a W w.heap.size h.2.size (hR.below h.2 (Nat.le_refl _)) hok (by omega) name unix hu0 hu1).mono fun _ _ ⟨he, hb⟩ => ⟨he, h.below hb⟩
theorem any_snoc {α : Type} (f : α → Bool) (l : List α) (k : Nat) (a : α) (h : l[k]? = some a) : (l.take (k + 1)).any f = ((l.take k).any f || f a) := by
  obtain ⟨hk, rfl⟩ := List.getElem?_eq_some_iff.1 h
  rw [List.take_succ_eq_append_getElem hk, List.any_append]
  simp

set_option maxRecDepth 100000 in
set_option maxHeartbeats 16000000 in
theorem fnNameMissing_walk (p : Pl) (a : Ad) (name : Bs) (unix : Int) (w : World) (hR : PlIn w w.heap.size p a) : Calls Try.prog 3 #[plA p a, .string (S name), .int .i64 unix] w fun e w' => e = .returned (.bool true) ∧ Below w.heap.size w w' := by
  obtain ⟨A1, k1, A2, k2⟩ := a
  have HB0 := InP.new w p ⟨A1, k1, A2, k2⟩
  obtain ⟨c0, c1, c2, c3⟩ := HB0.cells
  have HFI := fits_at hR
  have HFD := Lib.hid (finds_at (w := w) (p := p) (a := ⟨A1, k1, A2, k2⟩))
  dsimp only at c1 c2 HB0
  cases hf : fits2 p
  · rw [hf] at HFI
    have HFI := Lib.hid HFI
    unfold plA at *
    dsimp only at HFI ⊢
    clear hf hR
    go_enter Try.func3, Try.ntmps3
    go_wp2_with fail
    refine (HFI.out _ HB0).mono ?_
    rintro e w1 ⟨rfl, HX1⟩
    go_wp2_with fail
    go_ret
    exact ⟨rfl, HX1.2⟩
  rw [hf] at HFI
  have HFI := Lib.hid HFI
  by_cases hnl : 2147483647 < (name.length : Int)
  · have hnl' : decide (2147483647 < (name.length : Int)) = true := decide_eq_true hnl
    unfold plA at *
    dsimp only at HFI ⊢
    clear hf hR hnl
    go_enter Try.func3, Try.ntmps3
    go_wp2_with fail
    refine (HFI.out _ HB0).mono ?_
    rintro e w1 ⟨rfl, HX1⟩
    go_wp2_with fail
    go_ret
    exact ⟨rfl, HX1.2⟩
  have hnl' : decide (2147483647 < (name.length : Int)) = false := decide_eq_false hnl
  have HOK := ok_at hR hf
  cases hk : plOkB p
  · rw [hk] at HOK
    have HOK := Lib.hid HOK
    unfold plA at *
    dsimp only at HFI HOK ⊢
    clear hf hk hR hnl
    have HX0 := HB0
    go_enter Try.func3, Try.ntmps3
    go_wp2_with fail
    refine (HFI.out _ HX0).mono ?_
    rintro e w1 ⟨rfl, HX1⟩
    clear c0 c1 c2 c3
    obtain ⟨c0, c1, c2, c3⟩ := HX1.cells
    dsimp only at c1 c2
    go_wp2_with fail
    refine (HOK.out _ HX1).mono ?_
    rintro e w2 ⟨rfl, HX2⟩
    clear c0 c1 c2 c3
    obtain ⟨c0, c1, c2, c3⟩ := HX2.cells
    dsimp only at c1 c2
    go_wp2_with fail
    refine (HFD.out _ HX2).mono ?_
    rintro e w3 ⟨rfl, HX3⟩
    clear c0 c1 c2 c3
    obtain ⟨c0, c1, c2, c3⟩ := HX3.cells
    dsimp only at c1 c2
    go_wp2_with fail
    go_ret
    exact ⟨rfl, HX3.2⟩
  rw [hk] at HOK
  have HOK := Lib.hid HOK
  have hok := (plOkB_iff p).1 hk
  have hoz := hok.2.2.1
  have hot := hok.2.2.2
  have HRH := Lib.hid hR
  cases hemp : p.ext.isEmpty
  · unfold plA at *
    dsimp only at HFI HOK ⊢
    clear hf hk hR hnl hok hoz hot
    have HX0 := HB0
    go_enter Try.func3, Try.ntmps3
    go_wp2_with fail
    refine (HFI.out _ HX0).mono ?_
    rintro e w1 ⟨rfl, HX1⟩
    clear c0 c1 c2 c3
    obtain ⟨c0, c1, c2, c3⟩ := HX1.cells
    dsimp only at c1 c2
    go_wp2_with fail
    refine (HOK.out _ HX1).mono ?_
    rintro e w2 ⟨rfl, HX2⟩
    clear c0 c1 c2 c3
    obtain ⟨c0, c1, c2, c3⟩ := HX2.cells
    dsimp only at c1 c2
    go_wp2_with fail
    refine (HFD.out _ HX2).mono ?_
    rintro e w3 ⟨rfl, HX3⟩
    clear c0 c1 c2 c3
    obtain ⟨c0, c1, c2, c3⟩ := HX3.cells
    dsimp only at c1 c2
    go_wp2_with fail
    go_ret
    exact ⟨rfl, HX3.2⟩
  have hex : p.ext = [] := by cases h : p.ext with
    | nil => rfl
    | cons c l => rw [h] at hemp; cases hemp
  by_cases hu0 : unix < -1152921504606846976
  · have hu0' : decide (unix < -1152921504606846976) = true := decide_eq_true hu0
    unfold plA at *
    dsimp only at HFI HOK ⊢
    clear hf hk hR hnl hok hoz hot hu0 hex
    have HX0 := HB0
    go_enter Try.func3, Try.ntmps3
    go_wp2_with fail
    refine (HFI.out _ HX0).mono ?_
    rintro e w1 ⟨rfl, HX1⟩
    clear c0 c1 c2 c3
    obtain ⟨c0, c1, c2, c3⟩ := HX1.cells
    dsimp only at c1 c2
    go_wp2_with fail
    refine (HOK.out _ HX1).mono ?_
    rintro e w2 ⟨rfl, HX2⟩
    clear c0 c1 c2 c3
    obtain ⟨c0, c1, c2, c3⟩ := HX2.cells
    dsimp only at c1 c2
    go_wp2_with fail
    refine (HFD.out _ HX2).mono ?_
    rintro e w3 ⟨rfl, HX3⟩
    clear c0 c1 c2 c3
    obtain ⟨c0, c1, c2, c3⟩ := HX3.cells
    dsimp only at c1 c2
    go_wp2_with fail
    go_ret
    exact ⟨rfl, HX3.2⟩
  have hu0' : decide (unix < -1152921504606846976) = false := decide_eq_false hu0
  by_cases hu1 : 1152921504606846976 < unix
  · have hu1' : decide (1152921504606846976 < unix) = true := decide_eq_true hu1
    unfold plA at *
    dsimp only at HFI HOK ⊢
    clear hf hk hR hnl hok hoz hot hu0 hu1 hex
    have HX0 := HB0
    go_enter Try.func3, Try.ntmps3
    go_wp2_with fail
    refine (HFI.out _ HX0).mono ?_
    rintro e w1 ⟨rfl, HX1⟩
    clear c0 c1 c2 c3
    obtain ⟨c0, c1, c2, c3⟩ := HX1.cells
    dsimp only at c1 c2
    go_wp2_with fail
    refine (HOK.out _ HX1).mono ?_
    rintro e w2 ⟨rfl, HX2⟩
    clear c0 c1 c2 c3
    obtain ⟨c0, c1, c2, c3⟩ := HX2.cells
    dsimp only at c1 c2
    go_wp2_with fail
    refine (HFD.out _ HX2).mono ?_
    rintro e w3 ⟨rfl, HX3⟩
    clear c0 c1 c2 c3
    obtain ⟨c0, c1, c2, c3⟩ := HX3.cells
    dsimp only at c1 c2
    go_wp2_with fail
    go_ret
    exact ⟨rfl, HX3.2⟩
  have hu1' : decide (1152921504606846976 < unix) = false := decide_eq_false hu1
  have HNI := name_in hR hok hf name unix (by omega) (by omega)
  have HHA := Lib.hid (nmF_has p name unix)
  generalize nmF p name unix = F at *
  have HNI := Lib.hid HNI
  have hzl := hoz.2
  clear hf hk hR hok hoz hot hex hu0 hu1 hnl
  unfold plA at *
  dsimp only at HFI HOK HNI ⊢
  have HX0 := HB0
  go_enter Try.func3, Try.ntmps3
  go_wp2_with fail
  refine (HFI.out _ HX0).mono ?_
  rintro e w1 ⟨rfl, HX1⟩
  clear c0 c1 c2 c3
  obtain ⟨c0, c1, c2, c3⟩ := HX1.cells
  dsimp only at c1 c2
  go_wp2_with fail
  refine (HOK.out _ HX1).mono ?_
  rintro e w2 ⟨rfl, HX2⟩
  clear c0 c1 c2 c3
  obtain ⟨c0, c1, c2, c3⟩ := HX2.cells
  dsimp only at c1 c2
  go_wp2_with fail
  go_loopw [7, 40] (fun b i W => ∃ k : Nat, k ≤ p.zs.length ∧ i = .int .i64 k ∧ InP w p ⟨A1, k1, A2, k2⟩ W ∧ b = .bool (hasN name (p.zs.take k))) (fun _ i _ => p.zs.length - (intOf i).toNat)
  case atStart => exact ⟨0, Nat.zero_le _, rfl, HX2, rfl⟩
  case round =>
    clear c0 c1 c2 c3 HX2 HX1 HX0 HB0
    obtain ⟨k, hk, rfl, HX, rfl⟩ := hrel
    obtain ⟨c0, c1, c2, c3⟩ := HX.cells
    dsimp only at c1 c2
    by_cases hlt : k < p.zs.length
    · obtain ⟨z, hzk⟩ : ∃ z, p.zs[k]? = some z := ⟨_, List.getElem?_eq_getElem hlt⟩
      obtain ⟨ad, hA, _, e0, e1, e2⟩ := (HRH.out.1.below HX.2 (Nat.le_refl _)).zo hzk
      dsimp only at hA
      subst hA
      have i0 : (0 : Int) ≤ (k : Int) := by omega
      have i1 : (k : Int) < (p.zs.length : Int) := by omega
      have HS := Lib.hid (show hasN name (p.zs.take (k + 1)) = (hasN name (p.zs.take k) || decide (z.nm = name)) from any_snoc _ _ _ _ hzk)
      clear hzk
      cases hb : hasN name (p.zs.take k)
      · rw [hb] at HS
        by_cases hq : z.nm = name
        · have q1 : (z.nm == name) = true := by rw [beq_iff_eq]; exact hq
          have HS' : Hid (hasN name (p.zs.take (k + 1)) = true) := by show _ = _; rw [HS.out, decide_eq_true hq]; rfl
          clear HS hq hb
          go_wp2_with fail
          go_roundw
          case rel => exact ⟨k + 1, by omega, by go_num, HX.alloc _, by rw [HS'.out]⟩
          case measure => simp [intOf]; omega
        · have q1 : (z.nm == name) = false := by rw [beq_eq_false_iff_ne]; exact hq
          have HS' : Hid (hasN name (p.zs.take (k + 1)) = false) := by show _ = _; rw [HS.out, decide_eq_false hq]; rfl
          clear HS hq hb
          go_wp2_with fail
          go_roundw
          case rel => exact ⟨k + 1, by omega, by go_num, HX.alloc _, by rw [HS'.out]⟩
          case measure => simp [intOf]; omega
      · rw [hb] at HS
        have HS' : Hid (hasN name (p.zs.take (k + 1)) = true) := by show _ = _; rw [HS.out]; rfl
        clear HS hb
        go_wp2_with fail
        go_roundw
        case rel => exact ⟨k + 1, by omega, by go_num, HX.alloc _, by rw [HS'.out]⟩
        case measure => simp [intOf]; omega
    · obtain rfl : k = p.zs.length := by omega
      rw [List.take_length, ← HHA.out]
      go_wp2_with fail
      refine (HNI.out _ HX).mono ?_
      rintro e w3 ⟨rfl, HX3⟩
      unfold nmV
      clear c0 c1 c2 c3 HHA
      cases F
      all_goals
        simp only [Option.isSome_none, Option.isSome_some, Option.getD_none, Option.getD_some]
        go_wp2_with fail
        refine (HFD.out _ HX3).mono ?_
        rintro e w4 ⟨rfl, HX4⟩
        go_wp2_with fail
        go_ret
        exact ⟨rfl, HX4.2⟩

end Go.Proofs.Ytjgidakfpdmfdaa
