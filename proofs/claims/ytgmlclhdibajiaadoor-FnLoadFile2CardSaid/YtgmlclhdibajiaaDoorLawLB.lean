/- FnLoadFile2: its walk. -/
import Derived.Test.YtgmlclhdibajiaaDoorLdW
import Derived.Test.YtgmlclhdibajiaaDoorSame
import Derived.Deep.DeepCutAuto
import Derived.Deep.DeepFit
namespace Go.Proofs.YtgmlclhdibajiaaDoor
open Go.RowKit

set_option maxRecDepth 100000 in
set_option maxHeartbeats 16000000 in
theorem fnLoadFile2_walk (name : Bs) (p : Pl) (a : Ad) (V : Value) (w : World) (hR : PlIn w w.heap.size p a) (hg : ∀ t ∈ p.ts, -9223372036854775808 ≤ t.at_ ∧ t.at_ ≤ 9223372036854775807) (hcc : p.zs.length ≤ a.c1 ∧ p.ts.length ≤ a.c2) (hV : w.cell? ⟨0, 0, none⟩ = some V) (hw0 : 0 < w.heap.size) : Calls Tryd.prog 6 #[.string (S name), plA p a] w fun e w' => e = .returned (.bool true) ∧ Below w.heap.size w w' := by
  obtain ⟨A1, k1, A2, k2⟩ := a
  have HB0 := InP.new w p ⟨A1, k1, A2, k2⟩
  obtain ⟨c0, c1, c2, c3⟩ := HB0.cells
  have HFI := fits_in hR
  have HV := Lib.hid hV
  dsimp only at c1 c2 HB0
  by_cases hl : (2147483647 : Int) < (name.length : Int)
  · unfold plA
    clear HFI hR hV
    go_enter Tryd.func6, Tryd.ntmps6
    go_wp2_with fail
    go_ret
    exact ⟨rfl, HB0.2⟩
  cases hf : fits2 p
  · rw [hf] at HFI
    have HFI := Lib.hid HFI
    unfold plA at *
    dsimp only at HFI ⊢
    clear hf hR hV
    have HX0 := HB0
    go_enter Tryd.func6, Tryd.ntmps6
    go_wp2_with fail
    refine (HFI.out _ HX0).mono ?_
    rintro e w1 ⟨rfl, HX1⟩
    clear c0 c1 c2 c3
    obtain ⟨c0, c1, c2, c3⟩ := HX1.cells
    dsimp only at c0 c1 c2 c3
    have hlt1 := HX1.1.lt
    go_wp2_with fail
    go_ret
    exact ⟨rfl, HX1.2⟩
  rw [hf] at HFI
  have HFI := Lib.hid HFI
  have hRP : PlIn w w.heap.size ⟨name, p.zs, p.ts, p.ext⟩ ⟨A1, k1, A2, k2⟩ := hR
  have HOK := fok_in hRP (fits2_sub name p (by omega) p.ts (Nat.le_refl _) p.ext (Nat.le_refl _) hf) false
  have HLD := Lib.hid (loads_in (p := ⟨name, p.zs, p.ts, p.ext⟩) (a := ⟨A1, k1, A2, k2⟩) hV hw0)
  cases hk : fileOkB ⟨name, p.zs, p.ts, p.ext⟩ false
  · rw [hk] at HOK
    have HOK := Lib.hid HOK
    unfold plA at *
    dsimp only at HFI HOK HLD ⊢
    clear hf hk hR hV hRP
    have HX0 := HB0
    go_enter Tryd.func6, Tryd.ntmps6
    go_wp2_with fail
    refine (HFI.out _ HX0).mono ?_
    rintro e w1 ⟨rfl, HX1⟩
    clear c0 c1 c2 c3
    obtain ⟨c0, c1, c2, c3⟩ := HX1.cells
    dsimp only at c0 c1 c2 c3
    have hlt1 := HX1.1.lt
    have cf := fun i => HX1.froz i
    go_upto_region 4 with fail
    have HX2 := HX1.put0 name
    try dsimp only at HX2
    generalize (w1.setCell ⟨w.heap.size, 0, none⟩ (.string (S name))) = w2 at *
    clear c0 c1 c2 c3
    obtain ⟨c0, c1, c2, c3⟩ := HX2.cells
    dsimp only at c0 c1 c2 c3
    have hlt2 := HX2.1.lt
    clear cf HX1 HX0 HB0 hlt1
    go_wp2_with fail
    refine (HOK.out _ HX2).mono ?_
    rintro e w3 ⟨rfl, HX3⟩
    clear c0 c1 c2 c3
    obtain ⟨c0, c1, c2, c3⟩ := HX3.cells
    dsimp only at c0 c1 c2 c3
    have hlt3 := HX3.1.lt
    go_wp2_with fail
    refine (HLD.out _ HX3).mono ?_
    rintro e w4 ⟨rfl, HX4⟩
    clear c0 c1 c2 c3
    obtain ⟨c0, c1, c2, c3⟩ := HX4.cells
    dsimp only at c0 c1 c2 c3
    have hlt4 := HX4.1.lt
    go_wp2_with fail
    go_ret
    exact ⟨rfl, HX4.2⟩
  rw [hk] at HOK
  have HOK := Lib.hid HOK
  obtain ⟨hzs, hts, hix, hta, hpok, hext⟩ := fileOkB_all _ _ hk
  dsimp only at hzs hts hix hta hext
  have hzl := hzs.1
  have hcl := hzs.2.1
  by_cases hts0 : p.ts = []
  · have hq : ((p.ts.length : Int) == 0) = true := by rw [hts0]; rfl
    clear hf hk hR hV hRP hzs hts hix hta hpok hext hcl hzl hts0 hg hcc
    unfold plA at *
    dsimp only at HFI HOK HLD ⊢
    have HX0 := HB0
    go_enter Tryd.func6, Tryd.ntmps6
    go_wp2_with fail
    refine (HFI.out _ HX0).mono ?_
    rintro e w1 ⟨rfl, HX1⟩
    clear c0 c1 c2 c3
    obtain ⟨c0, c1, c2, c3⟩ := HX1.cells
    dsimp only at c0 c1 c2 c3
    have hlt1 := HX1.1.lt
    have cf := fun i => HX1.froz i
    go_upto_region 4 with fail
    have HX2 := HX1.put0 name
    try dsimp only at HX2
    generalize (w1.setCell ⟨w.heap.size, 0, none⟩ (.string (S name))) = w2 at *
    clear c0 c1 c2 c3
    obtain ⟨c0, c1, c2, c3⟩ := HX2.cells
    dsimp only at c0 c1 c2 c3
    have hlt2 := HX2.1.lt
    clear cf HX1 HX0 HB0 hlt1
    go_wp2_with fail
    refine (HOK.out _ HX2).mono ?_
    rintro e w3 ⟨rfl, HX3⟩
    clear c0 c1 c2 c3
    obtain ⟨c0, c1, c2, c3⟩ := HX3.cells
    dsimp only at c0 c1 c2 c3
    have hlt3 := HX3.1.lt
    go_wp2_with fail
    refine (HLD.out _ HX3).mono ?_
    rintro e w4 ⟨rfl, HX4⟩
    clear c0 c1 c2 c3
    obtain ⟨c0, c1, c2, c3⟩ := HX4.cells
    dsimp only at c0 c1 c2 c3
    have hlt4 := HX4.1.lt
    go_wp2_with fail
    go_ret
    exact ⟨rfl, HX4.2⟩
  have hq : ((p.ts.length : Int) == 0) = false := by rw [beq_eq_false_iff_ne]; have := List.length_pos_iff.2 hts0; omega
  have hq' : p.ts.length ≠ 0 := by have := List.length_pos_iff.2 hts0; omega
  have hel := (fits2_all p hf).2.2.2.1
  have hrd := reads2p V name ⟨name, p.zs, p.ts, p.ext⟩ (by show p.ext.length ≤ _; omega) hzs hts hix hg
  dsimp only at hrd
  rw [tsAll_ne p.ts hts0] at hrd
  have HFL := Lib.hid (file2_in hRP hcc.1 (by show 1 ≤ p.zs.length; omega) (by show p.zs.length ≤ _; omega) hts hcl hel)
  have HLO := Lib.hid (load_in (p := ⟨name, p.zs, p.ts, p.ext⟩) (a := ⟨A1, k1, A2, k2⟩) hV hw0 name (file2B ⟨name, p.zs, p.ts, p.ext⟩) ⟨name, p.zs, p.ts, p.ext⟩ (by show (p.zs.length : Int) ≤ _; omega) (by show (p.ts.length : Int) ≤ _; omega) hrd)
  clear hts0 hrd hg hcc hel
  have HSM := Lib.hid (fun (W : World) (Q : Ad) (hb : Below w.heap.size w W) (hP : PlIn W W.heap.size ⟨name, p.zs, p.ts, p.ext⟩ Q) => Same_yes ⟨name, p.zs, p.ts, p.ext⟩ Q ⟨A1, k1, A2, k2⟩ W W.heap.size (Nat.le_refl _) hP ((hRP.below hb (Nat.le_refl _)).more hb.size) (by show (p.zs.length : Int) ≤ _; omega) (by show (p.ts.length : Int) ≤ _; omega))
  clear hf hk hR hV hRP hzs hts hix hta hpok hext hcl hzl
  unfold plA at *
  dsimp only at HFI HOK HLD HFL HLO HSM ⊢
  have HX0 := HB0
  go_enter Tryd.func6, Tryd.ntmps6
  go_wp2_with fail
  refine (HFI.out _ HX0).mono ?_
  rintro e w1 ⟨rfl, HX1⟩
  clear c0 c1 c2 c3
  obtain ⟨c0, c1, c2, c3⟩ := HX1.cells
  dsimp only at c0 c1 c2 c3
  have hlt1 := HX1.1.lt
  have cf := fun i => HX1.froz i
  go_upto_region 4 with fail
  have HX2 := HX1.put0 name
  try dsimp only at HX2
  generalize (w1.setCell ⟨w.heap.size, 0, none⟩ (.string (S name))) = w2 at *
  clear c0 c1 c2 c3
  obtain ⟨c0, c1, c2, c3⟩ := HX2.cells
  dsimp only at c0 c1 c2 c3
  have hlt2 := HX2.1.lt
  clear cf HX1 HX0 HB0 hlt1
  go_wp2_with fail
  refine (HOK.out _ HX2).mono ?_
  rintro e w3 ⟨rfl, HX3⟩
  clear c0 c1 c2 c3
  obtain ⟨c0, c1, c2, c3⟩ := HX3.cells
  dsimp only at c0 c1 c2 c3
  have hlt3 := HX3.1.lt
  go_wp2_with fail
  refine (HFL.out _ HX3).mono ?_
  rintro e w4 ⟨rfl, HX4⟩
  clear c0 c1 c2 c3
  obtain ⟨c0, c1, c2, c3⟩ := HX4.cells
  dsimp only at c0 c1 c2 c3
  have hlt4 := HX4.1.lt
  go_wp2_with fail
  refine (HLO.out _ HX4).mono ?_
  rintro e w5 ⟨⟨Q1, q1, Q2, q2⟩, rfl, hP, HX5⟩
  clear c0 c1 c2 c3
  obtain ⟨c0, c1, c2, c3⟩ := HX5.cells
  dsimp only at c0 c1 c2 c3
  have hlt5 := HX5.1.lt
  have HS := Lib.hid (HSM.out (w5.alloc (.cells (plC ⟨name, p.zs, p.ts, p.ext⟩ ⟨Q1, q1, Q2, q2⟩) 25)) ⟨Q1, q1, Q2, q2⟩ (HX5.2.alloc HX5.2.size _) ((hP.below ((Below.refl _ _).alloc (Nat.le_refl _) _) (Nat.le_refl _)).more (by simp)))
  have hbF := HX5.2.alloc HX5.2.size (.cells (plC ⟨name, p.zs, p.ts, p.ext⟩ ⟨Q1, q1, Q2, q2⟩) 25)
  clear hP HSM HLO HFL HX2 HX3 HX4
  unfold plC at HS hbF
  dsimp only at HS hbF
  go_wp2_with fail
  refine HS.out.mono ?_
  rintro e w6 ⟨rfl, hb6⟩
  have hb7 := hbF.trans (hb6.mono hbF.size)
  go_wp2_with fail
  go_ret
  exact ⟨rfl, hb7⟩
end Go.Proofs.YtgmlclhdibajiaaDoor
