/- Lookup of the package and of the thin package. -/
import Derived.Test.YtgmlclhdibajiaaDoorLookupB
import Derived.Test.YtgmlclhdibajiaaDoorNewLoc
namespace Go.Proofs.YtgmlclhdibajiaaDoor
open Go.RowKit

theorem plOk_ix {p : Pl} (h : plOk p) : ∀ t ∈ p.ts, t.ix < p.zs.length := fun t ht => by
  obtain ⟨k, hk⟩ := List.getElem?_of_mem ht
  exact (h.2.1 k t hk).1
theorem lookup_ret (p : Pl) (a : Ad) (g : Nat) (w : World) (hL : Loc w g p a) (hok : p.zs = [] ∨ plOk p) (hext : p.ext.length ≤ 4294967296) (sec : Int) :
    Calls Tryd.prog 36 #[.pointer (some ⟨g, 0, none⟩), .int .i64 sec] w fun e w' => e = .returned (fiveV (lookF p sec)) ∧ Below w.heap.size w w' := by
  rcases hok with h | h
  · exact lookup_none p a g w hL h sec
  · have h1 := h.2.2.1
    have h2 := h.2.2.2
    rcases Nat.eq_zero_or_pos (cntT p.ts sec) with hc | hc
    · exact lookup_first p a g w hL (by omega) (by omega) (by omega) (plOk_ix h) sec hc
    · exact lookup_at p a g w hL (by omega) (by omega) (by omega) (plOk_ix h) (asc_of h) hext sec hc
theorem pubLookup_ret (p : Pl) (a : Ad) (g : Nat) (w : World) (hL : Loc w g p a) (hok : p.zs = [] ∨ plOk p) (hext : p.ext.length ≤ 4294967296) (sec : Int) :
    Calls Tryd.prog 24 #[.pointer (some ⟨g, 0, none⟩), .int .i64 sec] w fun e w' => e = .returned (fiveV (lookF p sec)) ∧ Below w.heap.size w w' := by
  have HC := Lib.hid (lookup_ret p a g w hL hok hext sec)
  generalize lookF p sec = f at *
  go_enter Tryd.func24, Tryd.ntmps24
  go_wp2_with fail
  refine HC.out.mono ?_
  rintro e w1 ⟨rfl, hb⟩
  unfold fiveV
  go_wp2
  refine bodyPost_ret (results_five rfl _ _ _) rfl ?_
  exact ⟨rfl, hb⟩
set_option maxHeartbeats 2000000 in
theorem implLookup_ret (p : Pl) (a : Ad) (w : World) (B : Nat) (hB : B ≤ w.heap.size) (hR : PlIn w B p a) (hz : (p.zs.length : Int) ≤ 2147483647) (ht : (p.ts.length : Int) ≤ 2147483647) (hok : p.zs = [] ∨ plOk p) (hext : p.ext.length ≤ 4294967296) (sec : Int) :
    Calls Tryd.prog 15 #[plA p a, .int .i64 sec] w fun e w' => e = .returned (foA (lookF p sec)) ∧ Below w.heap.size w w' := by
  obtain ⟨A1, k1, A2, k2⟩ := a
  have HB0 := InP.new w p ⟨A1, k1, A2, k2⟩
  have HB1 := HB0.alloc (.cells #[.string ⟨#[]⟩, .int .i64 0, .int .i64 0, .int .i64 0, .bool false] 33)
  have B1 := Blk.new (w.alloc (.cells #[.string (S p.nm), .slice A1 p.zs.length k1, .slice A2 p.ts.length k2, .string (S p.ext)] 25)) 33 #[.string ⟨#[]⟩, .int .i64 0, .int .i64 0, .int .i64 0, .bool false] (w.heap.size + 1) (by simp)
  have HC := Lib.hid (place_loc p ⟨A1, k1, A2, k2⟩ _ B (Nat.le_trans hB HB1.2.size) (hR.below HB1.2 hB) hz ht)
  have HK := Lib.hid (fun (g : Nat) (a : Ad) (W : World) (hL : Loc W g p a) => pubLookup_ret p a g W hL hok hext sec)
  clear hR
  generalize lookF p sec = f at *
  obtain ⟨c0, c1, c2, c3⟩ := HB1.cells
  unfold plA at *
  dsimp only at c1 c2 HC B1 HB1 ⊢
  go_enter Tryd.func15, Tryd.ntmps15
  go_wp2_with fail
  refine HC.out.mono ?_
  rintro e w1 ⟨v, rfl, g, a', rfl, hL, hb1⟩
  have HK1 := Lib.hid (HK.out g a' w1 hL)
  have hb2 := HB1.2.trans (hb1.mono HB1.2.size)
  have B2 := B1.keep hb1
  clear hL hb1 HC HK B1 c0 c1 c2 c3 HB0 HB1
  go_wp2_with fail
  refine HK1.out.mono ?_
  rintro e w2 ⟨rfl, hb3⟩
  have B3 := B2.keep hb3
  have hb4 : Below w.heap.size w w2 := hb2.trans (hb3.mono hb2.size)
  obtain ⟨ca0, ca1, ca2, ca3, ca4, fa⟩ := B3.five
  have hlt := B3.lt
  clear hb3 hb2 B2 HK1
  unfold fiveV
  go_wp2_with fail
  refine bodyPost_ret (v := .agg #[.string (S f.nm), .int .i64 f.off, .int .i64 f.st, .int .i64 f.en, .bool f.dst]) (by simp only [results, Tryd.results15]; go_simp) rfl ?_
  exact ⟨rfl, by go_grown⟩
end Go.Proofs.YtgmlclhdibajiaaDoor
