/- FnExactParts: its walk. -/
import Derived.Test.YtjcmbghhlloejaaSame
namespace Go.Proofs.Ytjcmbghhlloejaa
open Go.RowKit

theorem parts_in {w : World} {p : Pl} {a : Ad} (hR : PlIn w w.heap.size p a) (hf : fits2 p = true) (W : World) (h : InP w p a W) : Calls Try.prog 19 #[plA p a] W fun e W' => (∃ A : Ad, e = .returned (plA p A) ∧ PlIn W' W'.heap.size p A) ∧ InP w p a W' := by
  obtain ⟨_, hz, ht, _, _⟩ := fits2_all p hf
  exact (implParts_ret p a W w.heap.size h.2.size (hR.below h.2 (Nat.le_refl _)) (by omega) (by omega)).mono fun _ _ ⟨A, he, hA, hb⟩ => ⟨⟨A, he, hA⟩, h.below hb⟩
theorem same_in {w : World} {p : Pl} {a : Ad} (hR : PlIn w w.heap.size p a) (hf : fits2 p = true) (A : Ad) (W : World) (hA : PlIn W W.heap.size p A) (h : InP w p a W) : Calls Try.prog 18 #[plA p A, plA p a] W fun e W' => e = .returned (.bool true) ∧ InP w p a W' := by
  obtain ⟨_, hz, ht, _, _⟩ := fits2_all p hf
  exact (Same_yes p A a W W.heap.size (Nat.le_refl _) hA ((hR.below h.2 (Nat.le_refl _)).more h.2.size) (by omega) (by omega)).mono fun _ _ ⟨he, hb⟩ => ⟨he, h.below hb⟩
theorem InP.all {w W : World} {p : Pl} {A1 A2 : Option Addr} {k1 k2 : Nat} (h : InP w p ⟨A1, k1, A2, k2⟩ W) : (W.cell? ⟨w.heap.size, 0, none⟩ = some (.string (S p.nm)) ∧ W.cell? ⟨w.heap.size, 1, none⟩ = some (.slice A1 p.zs.length k1) ∧ W.cell? ⟨w.heap.size, 2, none⟩ = some (.slice A2 p.ts.length k2) ∧ W.cell? ⟨w.heap.size, 3, none⟩ = some (.string (S p.ext))) ∧ InP w p ⟨A1, k1, A2, k2⟩ W := ⟨h.cells, h⟩

set_option maxRecDepth 100000 in
set_option maxHeartbeats 16000000 in
theorem fnExactParts_walk (p : Pl) (a : Ad) (w : World) (hR : PlIn w w.heap.size p a) : Calls Try.prog 5 #[plA p a] w fun e w' => e = .returned (.bool true) ∧ Below w.heap.size w w' := by
  obtain ⟨A1, k1, A2, k2⟩ := a
  have HB0 := InP.new w p ⟨A1, k1, A2, k2⟩
  obtain ⟨c0, c1, c2, c3⟩ := HB0.cells
  have HFI := fits_at hR
  have HFD := Lib.hid (finds_at (w := w) (p := p) (a := ⟨A1, k1, A2, k2⟩))
  dsimp only at c1 c2 HB0
  cases hf : fits2 p
  · rw [hf] at HFI
    have HFI := Lib.hid HFI
    unfold plA at *
    dsimp only at HFI ⊢
    clear hf hR
    go_enter Try.func5, Try.ntmps5
    go_wp2_with fail
    refine (HFI.out _ HB0).mono ?_
    rintro e w1 ⟨rfl, HX1⟩
    go_wp2_with fail
    go_ret
    exact ⟨rfl, HX1.2⟩
  rw [hf] at HFI
  have HFI := Lib.hid HFI
  have HOK := ok_at hR hf
  cases hk : plOkB p
  · rw [hk] at HOK
    have HOK := Lib.hid HOK
    unfold plA at *
    dsimp only at HFI HOK ⊢
    clear hf hk hR
    have HX0 := HB0
    go_enter Try.func5, Try.ntmps5
    go_wp2_with fail
    refine (HFI.out _ HX0).mono ?_
    rintro e w1 ⟨rfl, HX1⟩
    clear c0 c1 c2 c3
    obtain ⟨c0, c1, c2, c3⟩ := HX1.cells
    dsimp only at c1 c2
    go_wp2_with fail
    refine (HOK.out _ HX1).mono ?_
    rintro e w2 ⟨rfl, HX2⟩
    clear c0 c1 c2 c3
    obtain ⟨c0, c1, c2, c3⟩ := HX2.cells
    dsimp only at c1 c2
    go_wp2_with fail
    refine (HFD.out _ HX2).mono ?_
    rintro e w3 ⟨rfl, HX3⟩
    clear c0 c1 c2 c3
    obtain ⟨c0, c1, c2, c3⟩ := HX3.cells
    dsimp only at c1 c2
    go_wp2_with fail
    go_ret
    exact ⟨rfl, HX3.2⟩
  rw [hk] at HOK
  have HOK := Lib.hid HOK
  have hok := (plOkB_iff p).1 hk
  have hoz := hok.2.2.1
  have hot := hok.2.2.2
  have HRH := Lib.hid hR
  have HPA := Lib.hid (parts_in hR hf)
  have HSA := Lib.hid (same_in hR hf)
  clear hf hk hR hok hoz hot
  unfold plA at *
  dsimp only at HFI HOK HPA HSA ⊢
  have HX0 := HB0
  go_enter Try.func5, Try.ntmps5
  go_wp2_with fail
  refine (HFI.out _ HX0).mono ?_
  rintro e w1 ⟨rfl, HX1⟩
  clear c0 c1 c2 c3
  obtain ⟨c0, c1, c2, c3⟩ := HX1.cells
  dsimp only at c1 c2
  go_wp2_with fail
  refine (HOK.out _ HX1).mono ?_
  rintro e w2 ⟨rfl, HX2⟩
  clear c0 c1 c2 c3
  obtain ⟨c0, c1, c2, c3⟩ := HX2.cells
  dsimp only at c1 c2
  go_upto_region 5 with fail
  go_region_held3 (fun w' => (w'.cell? ⟨w.heap.size, 0, none⟩ = some (.string (S p.nm)) ∧ w'.cell? ⟨w.heap.size, 1, none⟩ = some (.slice A1 p.zs.length k1) ∧ w'.cell? ⟨w.heap.size, 2, none⟩ = some (.slice A2 p.ts.length k2) ∧ w'.cell? ⟨w.heap.size, 3, none⟩ = some (.string (S p.ext))) ∧ InP w p ⟨A1, k1, A2, k2⟩ w')
    (first | ((refine InP.all (InP.drew ?_)); (with_reducible assumption)) | ((refine InP.all ?_); (with_reducible assumption)))
    (first | (go_at_call 19; ((with_reducible refine (HPA.out _ ?_).mono ?_); (first | (with_reducible assumption) | ((with_reducible refine InP.drew ?_); (with_reducible assumption))); rintro e w' ⟨⟨⟨Q1, q1, Q2, q2⟩, rfl, hQ⟩, hB'⟩)) | (go_at_call 18; ((refine (HSA.out ⟨Q1, q1, Q2, q2⟩ _ hQ ?_).mono ?_); (with_reducible assumption); rintro e w' ⟨rfl, hB'⟩)) | (go_at_call 15; ((with_reducible refine (HFD.out _ ?_).mono ?_); (with_reducible assumption); rintro e w' ⟨rfl, hB'⟩)))
  all_goals
    go_wp2_with fail
    go_ret
    exact ⟨rfl, hB'.2⟩

end Go.Proofs.Ytjcmbghhlloejaa
