/- Arguments that are places, opened, with their slices' capacities. -/
import Derived.Test.YtgmlclhdibajiaaDoorOpenP
namespace Go.Proofs.YtgmlclhdibajiaaDoor
open Go.ChangeShapes Go.WideShapes Go.ChangeAt Go.RowKit Go.Joins Go.Deep

theorem lit_u8 {x : Int} (h : (Lit.int .u8 x).wf = true) : 0 ≤ x ∧ x ≤ 255 := by
  have hmin : IntKind.u8.min = 0 := by decide
  have hmax : IntKind.u8.max = 255 := by decide
  simp only [Lit.wf, Bool.and_eq_true, decide_eq_true_eq, hmin, hmax] at h
  exact h
section
variable {H : Type} {enc : TypeId × Value → H} {w : World} {base : Nat} {spare : Nat → Bool} {held : Bool} {r : Reach} {b0 : Nat} {v : Value} {d : DataW H} {p : List MemPlace}
set_option maxRecDepth 100000 in
theorem open_place3 (hv : Value.okWide Tryd.prog w r b0 25 v) (h : DataW.Trod enc Tryd.prog w base spare held 25 v d p) : ∃ (x : Pl) (a : Ad), v = plA x a ∧ PlIn w w.heap.size x a ∧ (∀ t ∈ x.ts, -9223372036854775808 ≤ t.at_ ∧ t.at_ ≤ 9223372036854775807) ∧ x.zs.length ≤ a.c1 ∧ x.ts.length ≤ a.c2 := by
  obtain ⟨v0, v1, v2, v3, y0, y1, y2, y3, n, rfl, _, _, g0, g1, g2, g3⟩ := open_agg4 Tryd.underlying25 (by kernel_rfl) (by kernel_rfl) hv h
  obtain ⟨s0, e0, _, _⟩ := DataW.trod_string Tryd.underlying9 g0
  obtain ⟨s3, e3, _, _⟩ := DataW.trod_string Tryd.underlying9 g3
  simp at e0 e3
  subst e0 e3
  have hC1 : Tryd.prog.cellsOf 45 = 3 := by kernel_rfl
  have hC2 : Tryd.prog.cellsOf 40 = 2 := by kernel_rfl
  obtain ⟨zs, A1, c1, hv1, hr1, hk1⟩ : ∃ (zs : List Zo) (A1 : Option Addr) (c1 : Nat), v1 = .slice A1 zs.length c1 ∧ Rd w w.heap.size A1 zs.length (zosC zs) ∧ zs.length ≤ c1 := by
    rcases open_slice Tryd.underlying22 g1 with ⟨e, _⟩ | ⟨ad, len, cap, m, n', D, Pl', e, _, hlc, _, hm, _, hi⟩
    · simp at e
      exact ⟨[], none, 0, e, fun h => by simp at h, Nat.le_refl _⟩
    · simp at e
      have hlm : len ≤ m := by rw [hm]; split <;> omega
      obtain ⟨l, hl, hq⟩ := list_of (fun i (z : Zo) => ∀ r, r < 3 → w.cell? (ad.add (i * 3 + r)) = (zoC z)[r]?) len (fun i hil => by
        obtain ⟨cs', hc, ht⟩ := hi i (by omega)
        obtain ⟨z, rfl⟩ := zone_of ht
        rw [hC1] at hc
        obtain ⟨_, _, hat⟩ := World.cells?_some hc
        exact ⟨z, fun r hr => by have := hat r hr; rwa [add_add'] at this⟩)
      subst hl
      exact ⟨l, some ad, cap, e, rd_of zoC 3 (by omega) (fun _ => rfl) l w ad (fun k z hz r hr => hq k z hz r hr), hlc⟩
  obtain ⟨ts, A2, c2, hv2, hr2, hk2, h256⟩ : ∃ (ts : List Tr) (A2 : Option Addr) (c2 : Nat), v2 = .slice A2 ts.length c2 ∧ Rd w w.heap.size A2 ts.length (trsC ts) ∧ ts.length ≤ c2 ∧ ∀ t ∈ ts, t.ix < 256 ∧ -9223372036854775808 ≤ t.at_ ∧ t.at_ ≤ 9223372036854775807 := by
    rcases open_slice Tryd.underlying23 g2 with ⟨e, _⟩ | ⟨ad, len, cap, m, n', D, Pl', e, _, hlc, _, hm, _, hi⟩
    · simp at e
      exact ⟨[], none, 0, e, fun h => by simp at h, Nat.le_refl _, fun t ht => by cases ht⟩
    · simp at e
      have hlm : len ≤ m := by rw [hm]; split <;> omega
      obtain ⟨l, hl, hq⟩ := list_of (fun i (t : Tr) => (∀ r, r < 2 → w.cell? (ad.add (i * 2 + r)) = (trC t)[r]?) ∧ t.ix < 256 ∧ -9223372036854775808 ≤ t.at_ ∧ t.at_ ≤ 9223372036854775807) len (fun i hil => by
        obtain ⟨cs', hc, ht⟩ := hi i (by omega)
        obtain ⟨t, rfl, h256⟩ := tran_of ht
        rw [hC2] at hc
        obtain ⟨_, _, hat⟩ := World.cells?_some hc
        exact ⟨t, fun r hr => by have := hat r hr; rwa [add_add'] at this, h256⟩)
      subst hl
      refine ⟨l, some ad, cap, e, rd_of trC 2 (by omega) (fun _ => rfl) l w ad (fun k z hz r hr => (hq k z hz).1 r hr), hlc, fun t ht => ?_⟩
      obtain ⟨k, hk⟩ := List.getElem?_of_mem ht
      exact (hq k t hk).2
  subst hv1 hv2
  exact ⟨⟨s0.data.toList, zs, ts, s3.data.toList⟩, ⟨A1, c1, A2, c2⟩, by simp [plA, S_of], ⟨hr1, hr2, fun t ht => (h256 t ht).1⟩, fun t ht => (h256 t ht).2, hk1, hk2⟩
end
end Go.Proofs.YtgmlclhdibajiaaDoor
