/- The reference's Same at two places of the same parts. -/
import Derived.Test.YtgmlclhdibajiaaDoorParts
import Derived.Deep.DeepCutAuto
namespace Go.Proofs.YtgmlclhdibajiaaDoor
open Go.RowKit

set_option maxRecDepth 100000 in
set_option maxHeartbeats 8000000 in
theorem Same_yes (p : Pl) (a b : Ad) (w : World) (B : Nat) (hB : B ≤ w.heap.size) (hRa : PlIn w B p a) (hRb : PlIn w B p b) (hz : (p.zs.length : Int) ≤ 2147483647) (ht : (p.ts.length : Int) ≤ 2147483647) :
    Calls Tryd.prog 17 #[plA p a, plA p b] w fun e w' => e = .returned (.bool true) ∧ Below w.heap.size w w' := by
  obtain ⟨A1, k1, A2, k2⟩ := a
  obtain ⟨B1, m1, B2, m2⟩ := b
  have HB0 := (InP.new w p ⟨A1, k1, A2, k2⟩).alloc (.cells #[.string (S p.nm), .slice B1 p.zs.length m1, .slice B2 p.ts.length m2, .string (S p.ext)] 25)
  have BB := Blk.new (w.alloc (.cells #[.string (S p.nm), .slice A1 p.zs.length k1, .slice A2 p.ts.length k2, .string (S p.ext)] 25)) 25 (outC p.nm p.ext (.slice B1 p.zs.length m1) (.slice B2 p.ts.length m2)) (w.heap.size + 1) (by simp)
  have HA := Lib.hid (hRa.below HB0.2 hB)
  have HBR := Lib.hid (hRb.below HB0.2 hB)
  obtain ⟨c0, c1, c2, c3⟩ := HB0.cells
  obtain ⟨d0, d1, d2, d3, _⟩ := BB.out
  unfold outC at d0 d1 d2 d3
  have hbW := Lib.hid HB0.2
  unfold plA
  dsimp only at c1 c2 HA HBR hbW d0 d1 d2 d3 ⊢
  clear hRa hRb BB HB0
  go_enter Tryd.func17, Tryd.ntmps17
  go_wp2_with fail
  generalize (w.alloc (.cells #[.string (S p.nm), .slice A1 p.zs.length k1, .slice A2 p.ts.length k2, .string (S p.ext)] 25)).alloc (.cells #[.string (S p.nm), .slice B1 p.zs.length m1, .slice B2 p.ts.length m2, .string (S p.ext)] 25) = W at *
  go_loopw [40] (fun i V => ∃ (k n : Nat), k ≤ p.zs.length ∧ i = .int .i64 k ∧ V = W.drewN n) (fun i _ => p.zs.length - (intOf i).toNat)
  case atStart => exact ⟨0, 0, Nat.zero_le _, rfl, rfl⟩
  case round =>
    obtain ⟨k, n, hk, rfl, rfl⟩ := hrel
    by_cases hlt : k < p.zs.length
    · obtain ⟨z, hzk⟩ : ∃ z, p.zs[k]? = some z := ⟨_, List.getElem?_eq_getElem hlt⟩
      obtain ⟨ad, hA, _, e0, e1, e2⟩ := HA.out.1.zo hzk
      obtain ⟨bd, hB', _, f0, f1, f2⟩ := HBR.out.1.zo hzk
      dsimp only at hA hB'
      subst hA hB'
      clear hzk
      have i0 : (0 : Int) ≤ (k : Int) := by omega
      have i1 : (k : Int) < (p.zs.length : Int) := by omega
      go_upto_region 6 with fail
      go_quiet (fail)
      go_wp2_with fail
      go_roundw
      case rel => exact ⟨k + 1, _, by omega, by go_num, rfl⟩
      case measure => simp [intOf]; omega
    · go_wp2_with fail
      go_loopw [58] (fun i V => ∃ (k n : Nat), k ≤ p.ts.length ∧ i = .int .i64 k ∧ V = W.drewN n) (fun i _ => p.ts.length - (intOf i).toNat)
      case atStart => exact ⟨0, _, Nat.zero_le _, rfl, rfl⟩
      case round =>
        obtain ⟨j, n', hj, rfl, rfl⟩ := hrel
        by_cases hlt2 : j < p.ts.length
        · obtain ⟨t, htk⟩ : ∃ t, p.ts[j]? = some t := ⟨_, List.getElem?_eq_getElem hlt2⟩
          obtain ⟨ad, hA, _, e0, e1⟩ := HA.out.2.1.tr htk
          obtain ⟨bd, hB', _, f0, f1⟩ := HBR.out.2.1.tr htk
          dsimp only at hA hB'
          subst hA hB'
          clear htk
          have i0 : (0 : Int) ≤ (j : Int) := by omega
          have i1 : (j : Int) < (p.ts.length : Int) := by omega
          go_upto_region 12 with fail
          go_quiet (fail)
          go_wp2_with fail
          go_roundw
          case rel => exact ⟨j + 1, _, by omega, by go_num, rfl⟩
          case measure => simp [intOf]; omega
        · go_wp2_with fail
          go_ret
          exact ⟨rfl, below_drewN hbW.out _⟩

end Go.Proofs.YtgmlclhdibajiaaDoor
