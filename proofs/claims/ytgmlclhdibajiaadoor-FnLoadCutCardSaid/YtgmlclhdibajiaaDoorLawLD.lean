/- FnLoadCut: its walk. -/
import Derived.Test.YtgmlclhdibajiaaDoorLdW
import Derived.Test.YtgmlclhdibajiaaDoorSame
import Derived.Deep.DeepCutAuto
import Derived.Deep.DeepFit
namespace Go.Proofs.YtgmlclhdibajiaaDoor
open Go.RowKit

set_option maxRecDepth 100000 in
set_option maxHeartbeats 16000000 in
theorem fnLoadCut_walk (p : Pl) (a : Ad) (n : Int) (T : TypeId) (x : Value) (w : World) (hR : PlIn w w.heap.size p a) (hV : w.cell? ⟨0, 0, none⟩ = some (.iface T x)) (hw0 : 0 < w.heap.size) : Calls Tryd.prog 4 #[plA p a, .int .i64 n] w fun e w' => e = .returned (.bool true) ∧ Below w.heap.size w w' := by
  obtain ⟨A1, k1, A2, k2⟩ := a
  have HB0 := InP.new w p ⟨A1, k1, A2, k2⟩
  obtain ⟨c0, c1, c2, c3⟩ := HB0.cells
  have HFI := fits_in hR
  have HV := Lib.hid hV
  dsimp only at c1 c2 HB0
  cases hf : fits2 p
  · rw [hf] at HFI
    have HFI := Lib.hid HFI
    unfold plA at *
    dsimp only at HFI ⊢
    clear hf hR hV
    have HX0 := HB0
    go_enter Tryd.func4, Tryd.ntmps4
    go_wp2_with fail
    refine (HFI.out _ HX0).mono ?_
    rintro e w1 ⟨rfl, HX1⟩
    clear c0 c1 c2 c3
    obtain ⟨c0, c1, c2, c3⟩ := HX1.cells
    dsimp only at c0 c1 c2 c3
    have hlt1 := HX1.1.lt
    go_wp2_with fail
    go_ret
    exact ⟨rfl, HX1.2⟩
  rw [hf] at HFI
  have HFI := Lib.hid HFI
  have hRP : PlIn w w.heap.size ⟨p.nm, p.zs, p.ts, []⟩ ⟨A1, k1, A2, k2⟩ := hR
  have HOK := fok_in hRP (fits2_sub p.nm p (fits2_all p hf).1 p.ts (Nat.le_refl _) [] (Nat.zero_le _) hf) true
  have HLD := Lib.hid (loads_in (p := ⟨p.nm, p.zs, p.ts, []⟩) (a := ⟨A1, k1, A2, k2⟩) hV hw0)
  cases hk : fileOkB ⟨p.nm, p.zs, p.ts, []⟩ true
  · rw [hk] at HOK
    have HOK := Lib.hid HOK
    unfold plA at *
    dsimp only at HFI HOK HLD ⊢
    clear hf hk hR hV hRP
    have HX0 := HB0
    go_enter Tryd.func4, Tryd.ntmps4
    go_wp2_with fail
    refine (HFI.out _ HX0).mono ?_
    rintro e w1 ⟨rfl, HX1⟩
    clear c0 c1 c2 c3
    obtain ⟨c0, c1, c2, c3⟩ := HX1.cells
    dsimp only at c0 c1 c2 c3
    have hlt1 := HX1.1.lt
    have cf := fun i => HX1.froz i
    go_upto_region 4 with fail
    have HX2 := HX1.put3
    try dsimp only at HX2
    generalize (w1.setCell ⟨w.heap.size, 3, none⟩ (.string ⟨#[]⟩)) = w2 at *
    clear c0 c1 c2 c3
    obtain ⟨c0, c1, c2, c3⟩ := HX2.cells
    dsimp only at c0 c1 c2 c3
    have hlt2 := HX2.1.lt
    clear cf HX1 HX0 HB0 hlt1
    go_wp2_with fail
    refine (HOK.out _ HX2).mono ?_
    rintro e w3 ⟨rfl, HX3⟩
    clear c0 c1 c2 c3
    obtain ⟨c0, c1, c2, c3⟩ := HX3.cells
    dsimp only at c0 c1 c2 c3
    have hlt3 := HX3.1.lt
    go_wp2_with fail
    refine (HLD.out _ HX3).mono ?_
    rintro e w4 ⟨rfl, HX4⟩
    clear c0 c1 c2 c3
    obtain ⟨c0, c1, c2, c3⟩ := HX4.cells
    dsimp only at c0 c1 c2 c3
    have hlt4 := HX4.1.lt
    go_wp2_with fail
    go_ret
    exact ⟨rfl, HX4.2⟩
  rw [hk] at HOK
  have HOK := Lib.hid HOK
  obtain ⟨hzs, hts, hix, hta, hpok, hext⟩ := fileOkB_all _ _ hk
  dsimp only at hzs hts hix hta hext
  have hzl := hzs.1
  have hcl := hzs.2.1
  have HFL := Lib.hid (file1_in hRP (by show p.zs.length ≤ _; omega) hts hcl)
  have hbl := blockB_len 0 4 p.zs p.ts (by decide) (by omega) hts hcl
  have HLO := Lib.hid (fun (h0 : 0 ≤ n) (h1 : n < ((file1B ⟨p.nm, p.zs, p.ts, []⟩).length : Int)) => loadbad_in (p := ⟨p.nm, p.zs, p.ts, []⟩) (a := ⟨A1, k1, A2, k2⟩) hV hw0 [] ((file1B ⟨p.nm, p.zs, p.ts, []⟩).take n.toNat) (fun W v hV' hw' hv' => load_cut W [] p.zs p.ts (.iface T x) (by omega) hts hcl hV' hw' n.toNat (by show n.toNat < (file1B ⟨p.nm, p.zs, p.ts, []⟩).length; omega) v hv'))
  have hbl2 : (file1B ⟨p.nm, p.zs, p.ts, []⟩).length ≤ 20000 := hbl
  clear hf hk hR hV hRP hzs hts hix hta hpok hext hcl hzl hbl
  generalize file1B ⟨p.nm, p.zs, p.ts, []⟩ = D at *
  by_cases hn0 : n < 0
  · clear HLO
    unfold plA at *
    dsimp only at HFI HOK HLD HFL ⊢
    have HX0 := HB0
    go_enter Tryd.func4, Tryd.ntmps4
    go_wp2_with fail
    refine (HFI.out _ HX0).mono ?_
    rintro e w1 ⟨rfl, HX1⟩
    clear c0 c1 c2 c3
    obtain ⟨c0, c1, c2, c3⟩ := HX1.cells
    dsimp only at c0 c1 c2 c3
    have hlt1 := HX1.1.lt
    have cf := fun i => HX1.froz i
    go_upto_region 4 with fail
    have HX2 := HX1.put3
    try dsimp only at HX2
    generalize (w1.setCell ⟨w.heap.size, 3, none⟩ (.string ⟨#[]⟩)) = w2 at *
    clear c0 c1 c2 c3
    obtain ⟨c0, c1, c2, c3⟩ := HX2.cells
    dsimp only at c0 c1 c2 c3
    have hlt2 := HX2.1.lt
    clear cf HX1 HX0 HB0 hlt1
    go_wp2_with fail
    refine (HOK.out _ HX2).mono ?_
    rintro e w3 ⟨rfl, HX3⟩
    clear c0 c1 c2 c3
    obtain ⟨c0, c1, c2, c3⟩ := HX3.cells
    dsimp only at c0 c1 c2 c3
    have hlt3 := HX3.1.lt
    go_wp2_with fail
    refine (HFL.out _ HX3).mono ?_
    rintro e w4 ⟨rfl, HX4⟩
    clear c0 c1 c2 c3
    obtain ⟨c0, c1, c2, c3⟩ := HX4.cells
    dsimp only at c0 c1 c2 c3
    have hlt4 := HX4.1.lt
    go_wp2_with fail
    refine (HLD.out _ HX4).mono ?_
    rintro e w5 ⟨rfl, HX5⟩
    clear c0 c1 c2 c3
    obtain ⟨c0, c1, c2, c3⟩ := HX5.cells
    dsimp only at c0 c1 c2 c3
    have hlt5 := HX5.1.lt
    go_wp2_with fail
    go_ret
    exact ⟨rfl, HX5.2⟩
  by_cases hn1 : (D.length : Int) ≤ n
  · clear HLO
    have hd : decide ((D.length : Int) ≤ n) = true := decide_eq_true hn1
    unfold plA at *
    dsimp only at HFI HOK HLD HFL ⊢
    have HX0 := HB0
    go_enter Tryd.func4, Tryd.ntmps4
    go_wp2_with fail
    refine (HFI.out _ HX0).mono ?_
    rintro e w1 ⟨rfl, HX1⟩
    clear c0 c1 c2 c3
    obtain ⟨c0, c1, c2, c3⟩ := HX1.cells
    dsimp only at c0 c1 c2 c3
    have hlt1 := HX1.1.lt
    have cf := fun i => HX1.froz i
    go_upto_region 4 with fail
    have HX2 := HX1.put3
    try dsimp only at HX2
    generalize (w1.setCell ⟨w.heap.size, 3, none⟩ (.string ⟨#[]⟩)) = w2 at *
    clear c0 c1 c2 c3
    obtain ⟨c0, c1, c2, c3⟩ := HX2.cells
    dsimp only at c0 c1 c2 c3
    have hlt2 := HX2.1.lt
    clear cf HX1 HX0 HB0 hlt1
    go_wp2_with fail
    refine (HOK.out _ HX2).mono ?_
    rintro e w3 ⟨rfl, HX3⟩
    clear c0 c1 c2 c3
    obtain ⟨c0, c1, c2, c3⟩ := HX3.cells
    dsimp only at c0 c1 c2 c3
    have hlt3 := HX3.1.lt
    go_wp2_with fail
    refine (HFL.out _ HX3).mono ?_
    rintro e w4 ⟨rfl, HX4⟩
    clear c0 c1 c2 c3
    obtain ⟨c0, c1, c2, c3⟩ := HX4.cells
    dsimp only at c0 c1 c2 c3
    have hlt4 := HX4.1.lt
    go_wp2_with fail
    refine (HLD.out _ HX4).mono ?_
    rintro e w5 ⟨rfl, HX5⟩
    clear c0 c1 c2 c3
    obtain ⟨c0, c1, c2, c3⟩ := HX5.cells
    dsimp only at c0 c1 c2 c3
    have hlt5 := HX5.1.lt
    go_wp2_with fail
    go_ret
    exact ⟨rfl, HX5.2⟩
  obtain ⟨m, rfl⟩ : ∃ m : Nat, n = (m : Int) := ⟨n.toNat, by omega⟩
  have HLO := Lib.hid (HLO.out (by omega) (by omega))
  rw [show ((m : Int)).toNat = m from rfl] at HLO
  have hm1 : m < D.length := by omega
  have hm2 : m ≤ D.length := by omega
  unfold plA at *
  dsimp only at HFI HOK HLD HFL HLO ⊢
  have HX0 := HB0
  go_enter Tryd.func4, Tryd.ntmps4
  go_wp2_with fail
  refine (HFI.out _ HX0).mono ?_
  rintro e w1 ⟨rfl, HX1⟩
  clear c0 c1 c2 c3
  obtain ⟨c0, c1, c2, c3⟩ := HX1.cells
  dsimp only at c0 c1 c2 c3
  have hlt1 := HX1.1.lt
  have cf := fun i => HX1.froz i
  go_upto_region 4 with fail
  have HX2 := HX1.put3
  try dsimp only at HX2
  generalize (w1.setCell ⟨w.heap.size, 3, none⟩ (.string ⟨#[]⟩)) = w2 at *
  clear c0 c1 c2 c3
  obtain ⟨c0, c1, c2, c3⟩ := HX2.cells
  dsimp only at c0 c1 c2 c3
  have hlt2 := HX2.1.lt
  clear cf HX1 HX0 HB0 hlt1
  go_wp2_with fail
  refine (HOK.out _ HX2).mono ?_
  rintro e w3 ⟨rfl, HX3⟩
  clear c0 c1 c2 c3
  obtain ⟨c0, c1, c2, c3⟩ := HX3.cells
  dsimp only at c0 c1 c2 c3
  have hlt3 := HX3.1.lt
  go_wp2_with fail
  refine (HFL.out _ HX3).mono ?_
  rintro e w4 ⟨rfl, HX4⟩
  clear c0 c1 c2 c3
  obtain ⟨c0, c1, c2, c3⟩ := HX4.cells
  dsimp only at c0 c1 c2 c3
  have hlt4 := HX4.1.lt
  go_wp2_with fail
  refine (HLO.out _ HX4).mono ?_
  rintro e w5 ⟨rfl, HX5⟩
  clear c0 c1 c2 c3
  obtain ⟨c0, c1, c2, c3⟩ := HX5.cells
  dsimp only at c0 c1 c2 c3
  have hlt5 := HX5.1.lt
  go_wp2_with fail
  refine (HLD.out _ (HX5.alloc _)).mono ?_
  rintro e w6 ⟨rfl, HX6⟩
  go_wp2_with fail
  go_ret
  exact ⟨rfl, HX6.2⟩
end Go.Proofs.YtgmlclhdibajiaaDoor
