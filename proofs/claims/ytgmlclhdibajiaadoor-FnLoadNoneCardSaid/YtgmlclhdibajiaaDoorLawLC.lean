/- FnLoadNone: its walk. -/
import Derived.Test.YtgmlclhdibajiaaDoorLdW
import Derived.Test.YtgmlclhdibajiaaDoorSame
import Derived.Deep.DeepCutAuto
import Derived.Deep.DeepFit
namespace Go.Proofs.YtgmlclhdibajiaaDoor
open Go.RowKit

theorem load_inN {w : World} {p : Pl} {a : Ad} {V : Value} (hV : w.cell? ⟨0, 0, none⟩ = some V) (hw0 : 0 < w.heap.size) (nm D : Bs) (q : Pl) (hz : (q.zs.length : Int) ≤ 2147483647) (ht : (q.ts.length : Int) ≤ 2147483647) (HL : Reads V nm D q) (W : World) (h : InP w p a W) :
    Calls Tryd.prog 13 #[.string (S nm), .string (S D)] W fun e W' => ∃ A : Ad, e = .returned (.tuple #[plA q A, .bool true]) ∧ PlIn W' W'.heap.size q A ∧ InP w p a W' ∧ NewAt W.heap.size A :=
  (implLoad_okN V nm D q hz ht HL W ((h.2.cell (p := ⟨0, 0, none⟩) hw0).trans hV) (by have := h.2.size; omega)).mono fun _ _ ⟨A, he, hP, hb, hN⟩ => ⟨A, he, hP, h.below hb, hN⟩

set_option maxRecDepth 100000 in
set_option maxHeartbeats 16000000 in
theorem fnLoadNone_walk (name : Bs) (p : Pl) (a : Ad) (V : Value) (w : World) (hR : PlIn w w.heap.size p a) (hV : w.cell? ⟨0, 0, none⟩ = some V) (hw0 : 0 < w.heap.size) : Calls Tryd.prog 9 #[.string (S name), plA p a] w fun e w' => e = .returned (.bool true) ∧ Below w.heap.size w w' := by
  obtain ⟨A1, k1, A2, k2⟩ := a
  have HB0 := InP.new w p ⟨A1, k1, A2, k2⟩
  obtain ⟨c0, c1, c2, c3⟩ := HB0.cells
  have HFI := fits_in hR
  have HV := Lib.hid hV
  dsimp only at c1 c2 HB0
  by_cases hl : (2147483647 : Int) < (name.length : Int)
  · unfold plA
    clear HFI hR hV
    go_enter Tryd.func9, Tryd.ntmps9
    go_wp2_with fail
    go_ret
    exact ⟨rfl, HB0.2⟩
  cases hf : fits2 p
  · rw [hf] at HFI
    have HFI := Lib.hid HFI
    unfold plA at *
    dsimp only at HFI ⊢
    clear hf hR hV
    have HX0 := HB0
    go_enter Tryd.func9, Tryd.ntmps9
    go_wp2_with fail
    refine (HFI.out _ HX0).mono ?_
    rintro e w1 ⟨rfl, HX1⟩
    clear c0 c1 c2 c3
    obtain ⟨c0, c1, c2, c3⟩ := HX1.cells
    dsimp only at c0 c1 c2 c3
    have hlt1 := HX1.1.lt
    go_wp2_with fail
    go_ret
    exact ⟨rfl, HX1.2⟩
  rw [hf] at HFI
  have HFI := Lib.hid HFI
  have hRP : PlIn w w.heap.size ⟨name, p.zs, [], []⟩ ⟨A1, k1, none, 0⟩ := ⟨hR.1, fun h => absurd h (Nat.lt_irrefl 0), fun t h => by cases h⟩
  have HOK := fok_in hRP (fits2_sub name p (by omega) [] (Nat.zero_le _) [] (Nat.zero_le _) hf) true
  have HLD := Lib.hid (loads_in (p := ⟨name, p.zs, [], []⟩) (a := ⟨A1, k1, none, 0⟩) hV hw0)
  cases hk : fileOkB ⟨name, p.zs, [], []⟩ true
  · rw [hk] at HOK
    have HOK := Lib.hid HOK
    unfold plA at *
    dsimp only at HFI HOK HLD ⊢
    clear hf hk hR hV hRP
    have HX0 := HB0
    go_enter Tryd.func9, Tryd.ntmps9
    go_wp2_with fail
    refine (HFI.out _ HX0).mono ?_
    rintro e w1 ⟨rfl, HX1⟩
    clear c0 c1 c2 c3
    obtain ⟨c0, c1, c2, c3⟩ := HX1.cells
    dsimp only at c0 c1 c2 c3
    have hlt1 := HX1.1.lt
    have cf := fun i => HX1.froz i
    go_upto_region 4 with fail
    have HX2 := HX1.put023 name
    try dsimp only at HX2
    generalize (((w1.setCell ⟨w.heap.size, 0, none⟩ (.string (S name))).setCell ⟨w.heap.size, 3, none⟩ (.string ⟨#[]⟩)).setCell ⟨w.heap.size, 2, none⟩ (.slice none 0 0)) = w2 at *
    clear c0 c1 c2 c3
    obtain ⟨c0, c1, c2, c3⟩ := HX2.cells
    dsimp only at c0 c1 c2 c3
    have hlt2 := HX2.1.lt
    clear cf HX1 HX0 HB0 hlt1
    go_wp2_with fail
    refine (HOK.out _ HX2).mono ?_
    rintro e w3 ⟨rfl, HX3⟩
    clear c0 c1 c2 c3
    obtain ⟨c0, c1, c2, c3⟩ := HX3.cells
    dsimp only at c0 c1 c2 c3
    have hlt3 := HX3.1.lt
    go_wp2_with fail
    refine (HLD.out _ HX3).mono ?_
    rintro e w4 ⟨rfl, HX4⟩
    clear c0 c1 c2 c3
    obtain ⟨c0, c1, c2, c3⟩ := HX4.cells
    dsimp only at c0 c1 c2 c3
    have hlt4 := HX4.1.lt
    go_wp2_with fail
    go_ret
    exact ⟨rfl, HX4.2⟩
  rw [hk] at HOK
  have HOK := Lib.hid HOK
  obtain ⟨hzs, hts, hix, hta, hpok, hext⟩ := fileOkB_all _ _ hk
  dsimp only at hzs hts hix hta hext
  have hzl := hzs.1
  have hcl := hzs.2.1
  have hrd := reads1 V name p.zs [] hzs (Nat.zero_le _) (fun t h => by cases h) (fun t h => by cases h)
  rw [show tsAll [] = [⟨-9223372036854775808, 0⟩] from rfl] at hrd
  have HFL := Lib.hid (file1_in hRP (by show p.zs.length ≤ _; omega) (Nat.zero_le _) hcl)
  have HLO := Lib.hid (load_inN (p := ⟨name, p.zs, [], []⟩) (a := ⟨A1, k1, none, 0⟩) hV hw0 name (file1B ⟨name, p.zs, [], []⟩) ⟨name, p.zs, [⟨-9223372036854775808, 0⟩], []⟩ (by show (p.zs.length : Int) ≤ _; omega) (by show ((1 : Nat) : Int) ≤ _; decide) hrd)
  have HRZ := Lib.hid hRP.1
  have HSM := Lib.hid (fun (W : World) (Q a : Ad) (hQ : PlIn W W.heap.size ⟨name, p.zs, [⟨-9223372036854775808, 0⟩], []⟩ Q) (ha : PlIn W W.heap.size ⟨name, p.zs, [⟨-9223372036854775808, 0⟩], []⟩ a) => Same_yes ⟨name, p.zs, [⟨-9223372036854775808, 0⟩], []⟩ Q a W W.heap.size (Nat.le_refl _) hQ ha (by show (p.zs.length : Int) ≤ _; omega) (by show ((1 : Nat) : Int) ≤ _; decide))
  clear hf hk hR hV hRP hzs hts hix hta hpok hext hcl hzl hrd
  unfold plA at *
  dsimp only at HFI HOK HLD HFL HLO HSM HRZ ⊢
  have HX0 := HB0
  go_enter Tryd.func9, Tryd.ntmps9
  go_wp2_with fail
  refine (HFI.out _ HX0).mono ?_
  rintro e w1 ⟨rfl, HX1⟩
  clear c0 c1 c2 c3
  obtain ⟨c0, c1, c2, c3⟩ := HX1.cells
  dsimp only at c0 c1 c2 c3
  have hlt1 := HX1.1.lt
  have cf := fun i => HX1.froz i
  go_upto_region 4 with fail
  have HX2 := HX1.put023 name
  try dsimp only at HX2
  generalize (((w1.setCell ⟨w.heap.size, 0, none⟩ (.string (S name))).setCell ⟨w.heap.size, 3, none⟩ (.string ⟨#[]⟩)).setCell ⟨w.heap.size, 2, none⟩ (.slice none 0 0)) = w2 at *
  clear c0 c1 c2 c3
  obtain ⟨c0, c1, c2, c3⟩ := HX2.cells
  dsimp only at c0 c1 c2 c3
  have hlt2 := HX2.1.lt
  clear cf HX1 HX0 HB0 hlt1
  go_wp2_with fail
  refine (HOK.out _ HX2).mono ?_
  rintro e w3 ⟨rfl, HX3⟩
  clear c0 c1 c2 c3
  obtain ⟨c0, c1, c2, c3⟩ := HX3.cells
  dsimp only at c0 c1 c2 c3
  have hlt3 := HX3.1.lt
  go_wp2_with fail
  refine (HFL.out _ HX3).mono ?_
  rintro e w4 ⟨rfl, HX4⟩
  clear c0 c1 c2 c3
  obtain ⟨c0, c1, c2, c3⟩ := HX4.cells
  dsimp only at c0 c1 c2 c3
  have hlt4 := HX4.1.lt
  go_wp2_with fail
  refine (HLO.out _ HX4).mono ?_
  rintro e w5 ⟨⟨Q1, q1, Q2, q2⟩, rfl, hP, HX5, hN⟩
  clear c0 c1 c2 c3
  obtain ⟨c0, c1, c2, c3⟩ := HX5.cells
  dsimp only at c0 c1 c2 c3
  have hlt5 := HX5.1.lt
  have cf := fun i => HX5.froz i
  go_upto_region 8 with fail
  have hs5 : (w5.setCell ⟨w.heap.size, 2, none⟩ (.slice (some ⟨w5.heap.size + 1, 0, none⟩) 1 1)).heap.size = w5.heap.size := by simp [World.setCell]
  have hs4 : w.heap.size < w4.heap.size := hlt4
  have n1 : ∀ ad, Q1 = some ad → ad.block ≠ w.heap.size := fun ad h => by have := hN.1 ad h; omega
  have n2 : ∀ ad, Q2 = some ad → ad.block ≠ w.heap.size := fun ad h => by have := hN.2 ad h; omega
  have R1 := hP.1.far ⟨w.heap.size, 2, none⟩ n1 (.slice (some ⟨w5.heap.size + 1, 0, none⟩) 1 1)
  have R2 := hP.2.1.far ⟨w.heap.size, 2, none⟩ n2 (.slice (some ⟨w5.heap.size + 1, 0, none⟩) 1 1)
  have hb6 := HX5.2.setCell (p := ⟨w.heap.size, 2, none⟩) (Nat.le_refl _) (.slice (some ⟨w5.heap.size + 1, 0, none⟩) 1 1)
  have hN6 : Blk (((w5.setCell ⟨w.heap.size, 2, none⟩ (.slice (some ⟨w5.heap.size + 1, 0, none⟩) 1 1)).alloc (.cells #[.string (S name), .slice Q1 p.zs.length q1, .slice Q2 1 q2, .string (S [])] 25)).alloc (.cells #[.int .i64 (-9223372036854775808), .int .u8 0] 40)) (w5.heap.size + 1) 40 (trsC [⟨-9223372036854775808, 0⟩]).toArray := Blk.new ((w5.setCell ⟨w.heap.size, 2, none⟩ (.slice (some ⟨w5.heap.size + 1, 0, none⟩) 1 1)).alloc (.cells #[.string (S name), .slice Q1 p.zs.length q1, .slice Q2 1 q2, .string (S [])] 25)) _ _ _ (by simp [World.setCell])
  generalize hW5 : w5.setCell ⟨w.heap.size, 2, none⟩ (.slice (some ⟨w5.heap.size + 1, 0, none⟩) 1 1) = W5 at hs5 R1 R2 hb6 hN6
  have hb7 := hb6.alloc hb6.size (.cells #[.string (S name), .slice Q1 p.zs.length q1, .slice Q2 1 q2, .string (S [])] 25)
  have hb8 := hb7.alloc hb7.size (.cells #[.int .i64 (-9223372036854775808), .int .u8 0] 40)
  have hB5 : Below W5.heap.size W5 ((W5.alloc (.cells #[.string (S name), .slice Q1 p.zs.length q1, .slice Q2 1 q2, .string (S [])] 25)).alloc (.cells #[.int .i64 (-9223372036854775808), .int .u8 0] 40)) := ((Below.refl _ _).alloc (Nat.le_refl _) _).alloc (by simp) _
  have hQ : PlIn ((W5.alloc (.cells #[.string (S name), .slice Q1 p.zs.length q1, .slice Q2 1 q2, .string (S [])] 25)).alloc (.cells #[.int .i64 (-9223372036854775808), .int .u8 0] 40)) ((W5.alloc (.cells #[.string (S name), .slice Q1 p.zs.length q1, .slice Q2 1 q2, .string (S [])] 25)).alloc (.cells #[.int .i64 (-9223372036854775808), .int .u8 0] 40)).heap.size ⟨name, p.zs, [⟨-9223372036854775808, 0⟩], []⟩ ⟨Q1, q1, Q2, q2⟩ := ⟨(R1.more (Nat.le_of_eq hs5.symm)).at_ hB5, (R2.more (Nat.le_of_eq hs5.symm)).at_ hB5, hP.2.2⟩
  have hA : PlIn ((W5.alloc (.cells #[.string (S name), .slice Q1 p.zs.length q1, .slice Q2 1 q2, .string (S [])] 25)).alloc (.cells #[.int .i64 (-9223372036854775808), .int .u8 0] 40)) ((W5.alloc (.cells #[.string (S name), .slice Q1 p.zs.length q1, .slice Q2 1 q2, .string (S [])] 25)).alloc (.cells #[.int .i64 (-9223372036854775808), .int .u8 0] 40)).heap.size ⟨name, p.zs, [⟨-9223372036854775808, 0⟩], []⟩ ⟨A1, k1, some ⟨w5.heap.size + 1, 0, none⟩, 1⟩ := ⟨(HRZ.out.below hb8 (Nat.le_refl _)).more hb8.size, rd_blk hN6 _, fun t h => by simp at h; subst h; decide⟩
  have HS := Lib.hid (HSM.out _ _ _ hQ hA)
  have HB8 := Lib.hid hb8
  subst hW5
  clear hQ hA hB5 hb8 hb7 hN6 R1 R2 n1 n2 hb6 hs5 hP hN HSM HLO HFL HX2 HX3 HX4 cf
  go_wp2_with fail
  refine HS.out.mono ?_
  rintro e w6 ⟨rfl, hb6⟩
  have hb9 := HB8.out.trans (hb6.mono HB8.out.size)
  go_wp2_with fail
  go_ret
  exact ⟨rfl, hb9⟩
end Go.Proofs.YtgmlclhdibajiaaDoor
