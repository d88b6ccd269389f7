/- The reference's zone files: File1, File2. -/
import Derived.Test.YtgmlclhdibajiaaDoorFilB
namespace Go.Proofs.YtgmlclhdibajiaaDoor
open Go.RowKit

set_option maxRecDepth 100000 in
theorem File1_ret (p : Pl) (a : Ad) (w : World) (B : Nat) (hB : B ≤ w.heap.size) (hR : PlIn w B p a) (hz : p.zs.length ≤ 200) (ht : p.ts.length ≤ 1000) (hn : (charsB p.zs).length ≤ 255) :
    Calls Tryd.prog 16 #[plA p a] w fun e w' => e = .returned (.string (S (file1B p))) ∧ Below w.heap.size w w' := by
  obtain ⟨A1, k1, A2, k2⟩ := a
  have HB0 := InP.new w p ⟨A1, k1, A2, k2⟩
  have HC := Lib.hid (show Calls Tryd.prog 22 #[plA p ⟨A1, k1, A2, k2⟩, .int .u8 0, .int .i64 4] _ _ from block_ret p ⟨A1, k1, A2, k2⟩ _ B (Nat.le_trans hB HB0.2.size) (hR.below HB0.2 hB) 0 4 (.inl rfl) hz ht hn)
  clear hR
  obtain ⟨c0, c1, c2, c3⟩ := HB0.cells
  unfold plA at *
  dsimp only at c1 c2 HC ⊢
  go_enter Tryd.func16, Tryd.ntmps16
  go_wp2_with fail
  refine HC.out.mono ?_
  rintro e w1 ⟨rfl, hb1⟩
  have hb2 := HB0.2.trans (hb1.mono HB0.2.size)
  go_wp2_with fail
  go_ret
  exact ⟨rfl, hb2⟩

end Go.Proofs.YtgmlclhdibajiaaDoor
