/- FnExactLookup: its walk. -/
import Derived.Test.YtjgidakfpdmfdaaLawPW
import Derived.Test.YtjgidakfpdmfdaaSpecLook
import Derived.Deep.DeepCutAuto
namespace Go.Proofs.Ytjgidakfpdmfdaa
open Go.RowKit

theorem InP.all' {w W : World} {p : Pl} {A1 A2 : Option Addr} {k1 k2 : Nat} (h : InP w p ⟨A1, k1, A2, k2⟩ W) : (W.cell? ⟨w.heap.size, 0, none⟩ = some (.string (S p.nm)) ∧ W.cell? ⟨w.heap.size, 1, none⟩ = some (.slice A1 p.zs.length k1) ∧ W.cell? ⟨w.heap.size, 2, none⟩ = some (.slice A2 p.ts.length k2) ∧ W.cell? ⟨w.heap.size, 3, none⟩ = some (.string (S p.ext))) ∧ InP w p ⟨A1, k1, A2, k2⟩ W := ⟨h.cells, h⟩
theorem spec_in {w : World} {p : Pl} {a : Ad} (hR : PlIn w w.heap.size p a) (hok : plOk p) (sec : Int) (W : World) (h : InP w p a W) : Calls Try.prog 14 #[plA p a, .int .i64 (firstZ p.zs p.ts : Int), .int .i64 sec] W fun e W' => e = .returned (foA (slFo p (firstZ p.zs p.ts) sec)) ∧ InP w p a W' := by
  have h1 := hok.2.2.1
  have h2 := hok.2.2.2
  exact (specLook_ret p a (firstZ p.zs p.ts) sec W w.heap.size h.2.size (hR.below h.2 (Nat.le_refl _)) (by omega) (firstZ_lt p.zs p.ts (by omega) (plOk_ix hok)) (plOk_ix hok)).mono fun _ _ ⟨he, hb⟩ => ⟨he, h.below hb⟩

set_option maxRecDepth 100000 in
set_option maxHeartbeats 16000000 in
theorem fnExactLookup_walk (p : Pl) (a : Ad) (hrg : plRg p) (sec : Int) (w : World) (hR : PlIn w w.heap.size p a) : Calls Try.prog 6 #[plA p a, .int .i64 sec] w fun e w' => e = .returned (.bool true) ∧ Below w.heap.size w w' := by
  obtain ⟨A1, k1, A2, k2⟩ := a
  have HB0 := InP.new w p ⟨A1, k1, A2, k2⟩
  obtain ⟨c0, c1, c2, c3⟩ := HB0.cells
  have HFI := fits_at hR
  have HFD := Lib.hid (finds_at (w := w) (p := p) (a := ⟨A1, k1, A2, k2⟩))
  dsimp only at c1 c2 HB0
  cases hf : fits2 p
  · rw [hf] at HFI
    have HFI := Lib.hid HFI
    unfold plA at *
    dsimp only at HFI ⊢
    clear hf hR
    go_enter Try.func6, Try.ntmps6
    go_wp2_with fail
    refine (HFI.out _ HB0).mono ?_
    rintro e w1 ⟨rfl, HX1⟩
    go_wp2_with fail
    go_ret
    exact ⟨rfl, HX1.2⟩
  rw [hf] at HFI
  have HFI := Lib.hid HFI
  have HOK := ok_at hR hf
  cases hk : plOkB p
  · rw [hk] at HOK
    have HOK := Lib.hid HOK
    unfold plA at *
    dsimp only at HFI HOK ⊢
    clear hf hk hR
    have HX0 := HB0
    go_enter Try.func6, Try.ntmps6
    go_wp2_with fail
    refine (HFI.out _ HX0).mono ?_
    rintro e w1 ⟨rfl, HX1⟩
    clear c0 c1 c2 c3
    obtain ⟨c0, c1, c2, c3⟩ := HX1.cells
    dsimp only at c1 c2
    go_wp2_with fail
    refine (HOK.out _ HX1).mono ?_
    rintro e w2 ⟨rfl, HX2⟩
    clear c0 c1 c2 c3
    obtain ⟨c0, c1, c2, c3⟩ := HX2.cells
    dsimp only at c1 c2
    go_wp2_with fail
    refine (HFD.out _ HX2).mono ?_
    rintro e w3 ⟨rfl, HX3⟩
    clear c0 c1 c2 c3
    obtain ⟨c0, c1, c2, c3⟩ := HX3.cells
    dsimp only at c1 c2
    go_wp2_with fail
    go_ret
    exact ⟨rfl, HX3.2⟩
  rw [hk] at HOK
  have HOK := Lib.hid HOK
  have hok := (plOkB_iff p).1 hk
  have hoz := hok.2.2.1
  have hot := hok.2.2.2
  have HRH := Lib.hid hR
  cases hemp : p.ext.isEmpty
  · clear hf hk hR hok hoz hot
    unfold plA at *
    dsimp only at HFI HOK ⊢
    have HX0 := HB0
    go_enter Try.func6, Try.ntmps6
    go_wp2_with fail
    refine (HFI.out _ HX0).mono ?_
    rintro e w1 ⟨rfl, HX1⟩
    clear c0 c1 c2 c3
    obtain ⟨c0, c1, c2, c3⟩ := HX1.cells
    dsimp only at c1 c2
    go_wp2_with fail
    refine (HOK.out _ HX1).mono ?_
    rintro e w2 ⟨rfl, HX2⟩
    clear c0 c1 c2 c3
    obtain ⟨c0, c1, c2, c3⟩ := HX2.cells
    dsimp only at c1 c2
    go_wp2_with fail
    refine (HFD.out _ HX2).mono ?_
    rintro e w3 ⟨rfl, HX3⟩
    clear c0 c1 c2 c3
    obtain ⟨c0, c1, c2, c3⟩ := HX3.cells
    dsimp only at c1 c2
    go_wp2_with fail
    go_ret
    exact ⟨rfl, HX3.2⟩
  have hex : p.ext = [] := by cases h : p.ext with
    | nil => rfl
    | cons c l => rw [h] at hemp; cases hemp
  have HFZ := first_in hR hok
  have HL := look_in hR hf hok sec
  have HS := spec_in hR hok sec
  rw [slFo_eq p hok hrg sec] at HS
  rw [lookF_mid p sec (.inr hex)] at HL
  have hfl := firstZ_lt p.zs p.ts (by omega) (plOk_ix hok)
  generalize plainF p sec = F at *
  generalize firstZ p.zs p.ts = fz at *
  have HFZ := Lib.hid HFZ
  have HL := Lib.hid HL
  have HS := Lib.hid HS
  have i0 : (0 : Int) ≤ (fz : Int) := by omega
  have i1 : (fz : Int) < (p.zs.length : Int) := by omega
  have hfl' : decide (fz < p.zs.length) = true := decide_eq_true hfl
  clear hf hk hR hok hoz hot hex hrg
  unfold plA at *
  dsimp only at HFI HOK HL HS HFZ ⊢
  unfold foA at HL HS
  have HX0 := HB0
  go_enter Try.func6, Try.ntmps6
  go_wp2_with fail
  refine (HFI.out _ HX0).mono ?_
  rintro e w1 ⟨rfl, HX1⟩
  clear c0 c1 c2 c3
  obtain ⟨c0, c1, c2, c3⟩ := HX1.cells
  dsimp only at c1 c2
  go_wp2_with fail
  refine (HOK.out _ HX1).mono ?_
  rintro e w2 ⟨rfl, HX2⟩
  clear c0 c1 c2 c3
  obtain ⟨c0, c1, c2, c3⟩ := HX2.cells
  dsimp only at c1 c2
  go_wp2_with fail
  refine (HFZ.out _ HX2).mono ?_
  rintro e w3 ⟨rfl, HX3⟩
  clear c0 c1 c2 c3
  obtain ⟨c0, c1, c2, c3⟩ := HX3.cells
  dsimp only at c1 c2
  go_upto_region 6 with fail
  clear HX2 HX1 HX0 HB0
  go_region_held3 (fun w' => (w'.cell? ⟨w.heap.size, 0, none⟩ = some (.string (S p.nm)) ∧ w'.cell? ⟨w.heap.size, 1, none⟩ = some (.slice A1 p.zs.length k1) ∧ w'.cell? ⟨w.heap.size, 2, none⟩ = some (.slice A2 p.ts.length k2) ∧ w'.cell? ⟨w.heap.size, 3, none⟩ = some (.string (S p.ext))) ∧ InP w p ⟨A1, k1, A2, k2⟩ w')
    (first | ((refine InP.all' (InP.drew ?_)); (with_reducible assumption)) | ((refine InP.all' ?_); (with_reducible assumption)))
    (first | (go_at_call 12; ((with_reducible refine (HL.out _ ?_).mono ?_); (first | (with_reducible assumption) | ((with_reducible refine InP.drew ?_); (with_reducible assumption))); rintro e w' ⟨rfl, hB'⟩)) | (go_at_call 14; ((with_reducible refine (HS.out _ ?_).mono ?_); (first | (with_reducible assumption) | ((with_reducible refine InP.drew ?_); (with_reducible assumption))); rintro e w' ⟨rfl, hB'⟩)) | (go_at_call 10; ((with_reducible refine (HFD.out _ ?_).mono ?_); (first | (with_reducible assumption) | ((with_reducible refine InP.drew ?_); (with_reducible assumption))); rintro e w' ⟨rfl, hB'⟩)))
  all_goals
    go_wp2_with fail
    go_ret
    exact ⟨rfl, hB'.2⟩

end Go.Proofs.Ytjgidakfpdmfdaa
