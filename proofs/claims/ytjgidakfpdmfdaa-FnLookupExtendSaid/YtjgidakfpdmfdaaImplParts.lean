/- Parts of the thin package. -/
import Derived.Test.YtjgidakfpdmfdaaParts
namespace Go.Proofs.Ytjgidakfpdmfdaa
open Go.RowKit

set_option maxHeartbeats 2000000 in
theorem implParts_ret (p : Pl) (a : Ad) (w : World) (B : Nat) (hB : B ≤ w.heap.size) (hR : PlIn w B p a) (hz : (p.zs.length : Int) ≤ 2147483647) (ht : (p.ts.length : Int) ≤ 2147483647) :
    Calls Try.prog 18 #[plA p a] w fun e w' => ∃ A : Ad, e = .returned (plA p A) ∧ PlIn w' w'.heap.size p A ∧ Below w.heap.size w w' := by
  obtain ⟨A1, k1, A2, k2⟩ := a
  have HB1 := (InP.new w p ⟨A1, k1, A2, k2⟩).alloc (.cells #[.string ⟨#[]⟩, .slice none 0 0, .slice none 0 0, .string ⟨#[]⟩] 25)
  have B1 := Blk.new (w.alloc (.cells #[.string (S p.nm), .slice A1 p.zs.length k1, .slice A2 p.ts.length k2, .string (S p.ext)] 25)) 25 (outC [] [] (.slice none 0 0) (.slice none 0 0)) (w.heap.size + 1) (by simp)
  have HC := Lib.hid (place_loc p ⟨A1, k1, A2, k2⟩ _ B (Nat.le_trans hB HB1.2.size) (hR.below HB1.2 hB) hz ht)
  have HK := Lib.hid (fun (g : Nat) (a : Ad) (W : World) (hL : Loc W g p a) => parts_ret p a g W hL hz ht)
  clear hR
  obtain ⟨c0, c1, c2, c3⟩ := HB1.cells
  unfold plA at *
  dsimp only at c1 c2 HC B1 HB1 ⊢
  go_enter Try.func18, Try.ntmps18
  go_wp2_with fail
  refine HC.out.mono ?_
  rintro e w1 ⟨v, rfl, g, a', rfl, hL, hb1⟩
  have HK1 := Lib.hid (HK.out g a' w1 hL)
  have hb2 := HB1.2.trans (hb1.mono HB1.2.size)
  have B2 := B1.keep hb1
  clear hL hb1 HC HK B1 c0 c1 c2 c3 HB1
  go_wp2_with fail
  refine HK1.out.mono ?_
  rintro e w2 ⟨⟨Q1, q1, Q2, q2⟩, rfl, HP, hb3, HN⟩
  have B3 := B2.keep hb3
  have hb4 : Below w.heap.size w w2 := hb2.trans (hb3.mono hb2.size)
  have hlt2 := B2.lt
  have hlt3 := B3.lt
  have n1 : ∀ ad, Q1 = some ad → ad.block ≠ w.heap.size + 1 := fun ad h => by have := HN.1 ad h; omega
  have n2 : ∀ ad, Q2 = some ad → ad.block ≠ w.heap.size + 1 := fun ad h => by have := HN.2 ad h; omega
  have R1 := (((HP.1.far ⟨w.heap.size + 1, 0, none⟩ n1 (.string (S p.nm))).far ⟨w.heap.size + 1, 1, none⟩ n1 (.slice Q1 p.zs.length q1)).far ⟨w.heap.size + 1, 2, none⟩ n1 (.slice Q2 p.ts.length q2)).far ⟨w.heap.size + 1, 3, none⟩ n1 (.string (S p.ext))
  have R2 := (((HP.2.1.far ⟨w.heap.size + 1, 0, none⟩ n2 (.string (S p.nm))).far ⟨w.heap.size + 1, 1, none⟩ n2 (.slice Q1 p.zs.length q1)).far ⟨w.heap.size + 1, 2, none⟩ n2 (.slice Q2 p.ts.length q2)).far ⟨w.heap.size + 1, 3, none⟩ n2 (.string (S p.ext))
  have hsz : ((((w2.setCell ⟨w.heap.size + 1, 0, none⟩ (.string (S p.nm))).setCell ⟨w.heap.size + 1, 1, none⟩ (.slice Q1 p.zs.length q1)).setCell ⟨w.heap.size + 1, 2, none⟩ (.slice Q2 p.ts.length q2)).setCell ⟨w.heap.size + 1, 3, none⟩ (.string (S p.ext))).heap.size = w2.heap.size := by simp [World.setCell]
  have H1 := Lib.hid R1
  have H2 := Lib.hid R2
  have H3 := Lib.hid HP.2.2
  have H4 := Lib.hid hsz
  clear R1 R2 HP hsz HN n1 n2
  obtain ⟨r0, r1, r2, r3, rf⟩ := B3.out
  clear hb3 hb2 B2 HK1
  dsimp only
  go_wp2_with fail
  refine bodyPost_ret (v := .agg #[.string (S p.nm), .slice Q1 p.zs.length q1, .slice Q2 p.ts.length q2, .string (S p.ext)]) (by simp only [results, Try.results18]; go_simp) rfl ?_
  exact ⟨⟨Q1, q1, Q2, q2⟩, rfl, ⟨by rw [H4.out]; exact H1.out, by rw [H4.out]; exact H2.out, H3.out⟩, by go_grown⟩

end Go.Proofs.Ytjgidakfpdmfdaa
