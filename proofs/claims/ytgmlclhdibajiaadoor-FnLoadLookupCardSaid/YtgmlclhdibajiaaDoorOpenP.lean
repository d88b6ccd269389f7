/- Arguments that are places, opened. -/
import Derived.Test.YtgmlclhdibajiaaDoorMem
import Derived.Test.YtgmlclhdibajiaaDoorFacts
import Derived.OpenShut
import Derived.ShutString
import Derived.ChangeOld
import Derived.Lib.SmallJoins
import Derived.Deep.Slices
namespace Go.Proofs.YtgmlclhdibajiaaDoor
open Go.ChangeShapes Go.WideShapes Go.ChangeAt Go.RowKit Go.Joins Go.Deep

theorem fact_laid : laidOutB Tryd.prog = true := by kernel_rfl
theorem list_of {α : Type} (Q : Nat → α → Prop) : ∀ n : Nat, (∀ i, i < n → ∃ a, Q i a) → ∃ l : List α, l.length = n ∧ ∀ i a, l[i]? = some a → Q i a := by
  intro n
  induction n with
  | zero => intro _; exact ⟨[], rfl, fun i a h => by simp at h⟩
  | succ n ih =>
    intro h
    obtain ⟨l, hl, hq⟩ := ih (fun i hi => h i (by omega))
    obtain ⟨a, ha⟩ := h n (by omega)
    refine ⟨l ++ [a], by simp [hl], fun i x hx => ?_⟩
    rcases Nat.lt_or_ge i n with hi | hi
    · rw [List.getElem?_append_left (by omega)] at hx
      exact hq i x hx
    · rw [List.getElem?_append_right (by omega)] at hx
      have : i = n := by
        rcases Nat.lt_or_ge n i with h1 | h1
        · exfalso
          rw [List.getElem?_eq_none (by simp; omega)] at hx
          cases hx
        · omega
      subst this
      rw [hl] at hx
      simp at hx
      subst hx
      exact ha
/-- a row out of its elements -/
theorem rd_of {α : Type} (f : α → List Value) (c : Nat) (hc : 0 < c) (hf : ∀ a, (f a).length = c) (l : List α) (w : World) (ad : Addr) (h : ∀ k a, l[k]? = some a → ∀ r, r < c → w.cell? (ad.add (k * c + r)) = (f a)[r]?) :
    Rd w w.heap.size (some ad) l.length (l.flatMap f) := by
  intro hn
  obtain ⟨a0, ha0⟩ : ∃ a, l[0]? = some a := ⟨_, List.getElem?_eq_getElem hn⟩
  have hcell : ∀ j u, (l.flatMap f)[j]? = some u → w.cell? (ad.add j) = some u := by
    intro j u hu
    have hj : j < l.length * c := by have := (List.getElem?_eq_some_iff.1 hu).1; rwa [flat_len f c hf] at this
    have hk : j / c < l.length := Nat.div_lt_of_lt_mul (by rw [Nat.mul_comm]; exact hj)
    obtain ⟨a, ha⟩ : ∃ a, l[j / c]? = some a := ⟨_, List.getElem?_eq_getElem hk⟩
    have hr : j % c < c := Nat.mod_lt _ hc
    have e : j / c * c + j % c = j := by rw [Nat.mul_comm]; exact Nat.div_add_mod j c
    have h1 := h _ a ha _ hr
    have h2 := flat_get f c hf l (j / c) a (j % c) ha hr
    rw [e] at h1 h2
    rw [h1, ← h2]
    exact hu
  refine ⟨ad, rfl, ?_, hcell⟩
  have h0 := h 0 a0 ha0 0 hc
  obtain ⟨u, hu⟩ : ∃ u, (f a0)[0]? = some u := ⟨_, List.getElem?_eq_getElem (by rw [hf]; exact hc)⟩
  rw [hu] at h0
  have := World.block_lt_of_cell? w _ h0
  rwa [add_block] at this

section
variable {H : Type} {enc : TypeId × Value → H} {w : World} {base : Nat} {spare : Nat → Bool} {held : Bool} {r : Reach} {b0 : Nat} {v : Value} {d : DataW H} {p : List MemPlace}
theorem list3 {α : Type} {l : List α} (h : l.length = 3) : ∃ a b c, l = [a, b, c] := by
  match l, h with
  | [a, b, c], _ => exact ⟨a, b, c, rfl⟩
theorem list2 {α : Type} {l : List α} (h : l.length = 2) : ∃ a b, l = [a, b] := by
  match l, h with
  | [a, b], _ => exact ⟨a, b, rfl⟩
set_option maxRecDepth 100000 in
theorem zone_of {n : Nat} {y : DataW H × List MemPlace} {cs : List Value} (h : DataW.trod enc Tryd.prog w base spare held n 45 cs = some y) : ∃ z : Zo, cs = zoC z := by
  obtain ⟨ys, m, _, _, hl, hyl, hg⟩ := DataW.trod_struct Tryd.underlying45 h
  have hC : Tryd.prog.cellsOf 45 = 3 := by kernel_rfl
  obtain ⟨c0, c1, c2, rfl⟩ := list3 (hl.trans hC)
  obtain ⟨y0, y1, y2, rfl⟩ := list3 (l := ys) hyl
  have g0 : DataW.trod enc Tryd.prog w base spare held m 9 [c0] = some y0 := hg 0 _ rfl
  have g1 : DataW.trod enc Tryd.prog w base spare held m 3 [c1] = some y1 := hg 1 _ rfl
  have g2 : DataW.trod enc Tryd.prog w base spare held m 4 [c2] = some y2 := hg 2 _ rfl
  obtain ⟨s, e0, _, _⟩ := DataW.trod_string Tryd.underlying9 g0
  obtain ⟨x, e1, _, _⟩ := DataW.trod_int Tryd.underlying3 g1
  obtain ⟨b, e2, _⟩ := DataW.trod_bool Tryd.underlying4 g2
  simp at e0 e1 e2
  subst e0 e1 e2
  exact ⟨⟨s.data.toList, x, b⟩, by simp [zoC, S_of]⟩
theorem lit_i64 {x : Int} (h : (Lit.int .i64 x).wf = true) : -9223372036854775808 ≤ x ∧ x ≤ 9223372036854775807 := by
  have hmin : IntKind.i64.min = -9223372036854775808 := by decide
  have hmax : IntKind.i64.max = 9223372036854775807 := by decide
  simp only [Lit.wf, Bool.and_eq_true, decide_eq_true_eq, hmin, hmax] at h
  exact h
set_option maxRecDepth 100000 in
theorem tran_of {n : Nat} {y : DataW H × List MemPlace} {cs : List Value} (h : DataW.trod enc Tryd.prog w base spare held n 40 cs = some y) : ∃ t : Tr, cs = trC t ∧ t.ix < 256 ∧ -9223372036854775808 ≤ t.at_ ∧ t.at_ ≤ 9223372036854775807 := by
  obtain ⟨ys, m, _, _, hl, hyl, hg⟩ := DataW.trod_struct Tryd.underlying40 h
  have hC : Tryd.prog.cellsOf 40 = 2 := by kernel_rfl
  obtain ⟨c0, c1, rfl⟩ := list2 (hl.trans hC)
  obtain ⟨y0, y1, rfl⟩ := list2 (l := ys) hyl
  have g0 : DataW.trod enc Tryd.prog w base spare held m 2 [c0] = some y0 := hg 0 _ rfl
  have g1 : DataW.trod enc Tryd.prog w base spare held m 5 [c1] = some y1 := hg 1 _ rfl
  obtain ⟨x, e0, _, hwx⟩ := DataW.trod_int Tryd.underlying2 g0
  obtain ⟨q, e1, _, hwf⟩ := DataW.trod_int Tryd.underlying5 g1
  simp at e0 e1
  subst e0 e1
  have hq : 0 ≤ q ∧ q < 256 := by
    have hmin : IntKind.u8.min = 0 := by decide
    have hmax : IntKind.u8.max = 255 := by decide
    simp only [Lit.wf, Bool.and_eq_true, decide_eq_true_eq, hmin, hmax] at hwf
    omega
  refine ⟨⟨x, q.toNat⟩, ?_, by show q.toNat < 256; omega, lit_i64 hwx⟩
  have : ((q.toNat : Nat) : Int) = q := by omega
  simp [trC, this]

set_option maxRecDepth 100000 in
theorem open_place2 (hv : Value.okWide Tryd.prog w r b0 25 v) (h : DataW.Trod enc Tryd.prog w base spare held 25 v d p) : ∃ (x : Pl) (a : Ad), v = plA x a ∧ PlIn w w.heap.size x a ∧ ∀ t ∈ x.ts, -9223372036854775808 ≤ t.at_ ∧ t.at_ ≤ 9223372036854775807 := by
  obtain ⟨v0, v1, v2, v3, y0, y1, y2, y3, n, rfl, _, _, g0, g1, g2, g3⟩ := open_agg4 Tryd.underlying25 (by kernel_rfl) (by kernel_rfl) hv h
  obtain ⟨s0, e0, _, _⟩ := DataW.trod_string Tryd.underlying9 g0
  obtain ⟨s3, e3, _, _⟩ := DataW.trod_string Tryd.underlying9 g3
  simp at e0 e3
  subst e0 e3
  have hC1 : Tryd.prog.cellsOf 45 = 3 := by kernel_rfl
  have hC2 : Tryd.prog.cellsOf 40 = 2 := by kernel_rfl
  obtain ⟨zs, A1, c1, hv1, hr1⟩ : ∃ (zs : List Zo) (A1 : Option Addr) (c1 : Nat), v1 = .slice A1 zs.length c1 ∧ Rd w w.heap.size A1 zs.length (zosC zs) := by
    rcases open_slice Tryd.underlying22 g1 with ⟨e, _⟩ | ⟨ad, len, cap, m, n', D, Pl', e, _, _, _, hm, _, hi⟩
    · simp at e
      exact ⟨[], none, 0, e, fun h => by simp at h⟩
    · simp at e
      have hlm : len ≤ m := by rw [hm]; split <;> omega
      obtain ⟨l, hl, hq⟩ := list_of (fun i (z : Zo) => ∀ r, r < 3 → w.cell? (ad.add (i * 3 + r)) = (zoC z)[r]?) len (fun i hil => by
        obtain ⟨cs', hc, ht⟩ := hi i (by omega)
        obtain ⟨z, rfl⟩ := zone_of ht
        rw [hC1] at hc
        obtain ⟨_, _, hat⟩ := World.cells?_some hc
        exact ⟨z, fun r hr => by have := hat r hr; rwa [add_add'] at this⟩)
      subst hl
      exact ⟨l, some ad, cap, e, rd_of zoC 3 (by omega) (fun _ => rfl) l w ad (fun k z hz r hr => hq k z hz r hr)⟩
  obtain ⟨ts, A2, c2, hv2, hr2, h256⟩ : ∃ (ts : List Tr) (A2 : Option Addr) (c2 : Nat), v2 = .slice A2 ts.length c2 ∧ Rd w w.heap.size A2 ts.length (trsC ts) ∧ ∀ t ∈ ts, t.ix < 256 ∧ -9223372036854775808 ≤ t.at_ ∧ t.at_ ≤ 9223372036854775807 := by
    rcases open_slice Tryd.underlying23 g2 with ⟨e, _⟩ | ⟨ad, len, cap, m, n', D, Pl', e, _, _, _, hm, _, hi⟩
    · simp at e
      exact ⟨[], none, 0, e, fun h => by simp at h, fun t ht => by cases ht⟩
    · simp at e
      have hlm : len ≤ m := by rw [hm]; split <;> omega
      obtain ⟨l, hl, hq⟩ := list_of (fun i (t : Tr) => (∀ r, r < 2 → w.cell? (ad.add (i * 2 + r)) = (trC t)[r]?) ∧ t.ix < 256 ∧ -9223372036854775808 ≤ t.at_ ∧ t.at_ ≤ 9223372036854775807) len (fun i hil => by
        obtain ⟨cs', hc, ht⟩ := hi i (by omega)
        obtain ⟨t, rfl, h256⟩ := tran_of ht
        rw [hC2] at hc
        obtain ⟨_, _, hat⟩ := World.cells?_some hc
        exact ⟨t, fun r hr => by have := hat r hr; rwa [add_add'] at this, h256⟩)
      subst hl
      refine ⟨l, some ad, cap, e, rd_of trC 2 (by omega) (fun _ => rfl) l w ad (fun k z hz r hr => (hq k z hz).1 r hr), fun t ht => ?_⟩
      obtain ⟨k, hk⟩ := List.getElem?_of_mem ht
      exact (hq k t hk).2
  subst hv1 hv2
  exact ⟨⟨s0.data.toList, zs, ts, s3.data.toList⟩, ⟨A1, c1, A2, c2⟩, by simp [plA, S_of], ⟨hr1, hr2, fun t ht => (h256 t ht).1⟩, fun t ht => (h256 t ht).2⟩
set_option maxRecDepth 100000 in
theorem open_place (hv : Value.okWide Tryd.prog w r b0 25 v) (h : DataW.Trod enc Tryd.prog w base spare held 25 v d p) : ∃ (x : Pl) (a : Ad), v = plA x a ∧ PlIn w w.heap.size x a := by
  obtain ⟨x, a, h1, h2, _⟩ := open_place2 hv h
  exact ⟨x, a, h1, h2⟩
end
end Go.Proofs.YtgmlclhdibajiaaDoor
