/- FnLoadMagic: its walk. -/
import Derived.Test.YtgmlclhdibajiaaDoorLdW
import Derived.Test.YtgmlclhdibajiaaDoorSame
import Derived.Deep.DeepCutAuto
import Derived.Deep.DeepFit
namespace Go.Proofs.YtgmlclhdibajiaaDoor
open Go.RowKit

theorem xor_u8 (a b : UInt8) : bits .xor .u8 (a.toNat : Int) (b.toNat : Int) = ((a ^^^ b).toNat : Int) := by
  have ha : a.toNat < 256 := a.toNat_lt
  have hb : b.toNat < 256 := b.toNat_lt
  have hx : a.toNat ^^^ b.toNat < 2 ^ 8 := Nat.xor_lt_two_pow (by omega) (by omega)
  have h1 : (BitVec.ofInt 8 (a.toNat : Int)).toNat = a.toNat := by
    rw [BitVec.ofInt_natCast, BitVec.toNat_ofNat]; exact Nat.mod_eq_of_lt (by omega)
  have h2 : (BitVec.ofInt 8 (b.toNat : Int)).toNat = b.toNat := by
    rw [BitVec.ofInt_natCast, BitVec.toNat_ofNat]; exact Nat.mod_eq_of_lt (by omega)
  show IntKind.u8.wrap ((BitVec.ofInt 8 (a.toNat : Int) ^^^ BitVec.ofInt 8 (b.toNat : Int)).toNat : Int) = _
  rw [BitVec.toNat_xor, h1, h2, UInt8.toNat_xor]
  show ((a.toNat ^^^ b.toNat : Nat) : Int) % 256 = _
  omega
theorem xor_ne (a b : UInt8) (hb : b ≠ 0) : a ^^^ b ≠ a := by
  intro h
  have h2 : a ^^^ (a ^^^ b) = a ^^^ a := by rw [h]
  rw [← UInt8.xor_assoc, UInt8.xor_self, UInt8.zero_xor] at h2
  exact hb h2
theorem rb_set {W : World} {B g o m : Nat} {D : Bs} {x : UInt8} (hg : g < B) (hc : ∀ (j : Nat) (b : UInt8), D[j]? = some b → W.cell? ⟨g, o + j, none⟩ = some (.int .u8 (b.toNat : Int))) (hm : m < D.length) : Rb (W.setCell ⟨g, o + m, none⟩ (.int .u8 (x.toNat : Int))) B (some ⟨g, o, none⟩) (D.set m x) := .inr ⟨g, o, rfl, hg, fun j b hj => by
  rw [List.getElem?_set] at hj
  by_cases h : m = j
  · subst h
    simp [hm] at hj
    subst hj
    exact World.cell?_setCell_same _ _ _ (hc m _ (List.getElem?_eq_getElem hm))
  · rw [if_neg h] at hj
    exact (World.cell?_setCell_other _ _ _ _ (fun e => h (by injection e with _ e; omega))).trans (hc j b hj)⟩
theorem bytes_froz (w : World) (e : TypeId) (l : Bs) (i : Nat) (hi : i < l.length) : (Lib.bytesWorld w e (S l)).frozen? ⟨w.heap.size, i, none⟩ = false := by
  have hs : l.length ≤ (Lib.bytesCells w e (S l)).size := by
    unfold Lib.bytesCells
    rw [Array.size_append, Array.size_map]
    show l.length ≤ l.toArray.size + _
    simp
  unfold World.frozen?
  rw [Lib.bytesWorld_at_new]
  simp
  omega
theorem InP.far {w W : World} {p : Pl} {a : Ad} (h : InP w p a W) (g i : Nat) (hg : w.heap.size < g) (u : Value) : InP w p a (W.setCell ⟨g, i, none⟩ u) :=
  ⟨h.1.far (p := ⟨g, i, none⟩) (by show _ ≠ g; omega) u, h.2.setCell (p := ⟨g, i, none⟩) (by show _ ≤ g; omega) u⟩
theorem magic_set (m : Nat) (hm : m < 4) (y : UInt8) (hy : y ≠ 0) (R : Bs) : ∃ (d : UInt8) (a : Bs), ([84, 90, 105, 102] ++ R : Bs)[m]? = some d ∧ a.length = 4 ∧ a ≠ [84, 90, 105, 102] ∧ ([84, 90, 105, 102] ++ R : Bs).set m (d ^^^ y) = a ++ R := by
  obtain rfl | rfl | rfl | rfl : m = 0 ∨ m = 1 ∨ m = 2 ∨ m = 3 := by omega
  · refine ⟨84, [84 ^^^ y, 90, 105, 102], rfl, rfl, fun h => ?_, rfl⟩
    injection h with h; exact xor_ne 84 y hy h
  · refine ⟨90, [84, 90 ^^^ y, 105, 102], rfl, rfl, fun h => ?_, rfl⟩
    injection h with _ h; injection h with h; exact xor_ne 90 y hy h
  · refine ⟨105, [84, 90, 105 ^^^ y, 102], rfl, rfl, fun h => ?_, rfl⟩
    injection h with _ h; injection h with _ h; injection h with h; exact xor_ne 105 y hy h
  · refine ⟨102, [84, 90, 105, 102 ^^^ y], rfl, rfl, fun h => ?_, rfl⟩
    injection h with _ h; injection h with _ h; injection h with _ h; injection h with h; exact xor_ne 102 y hy h

set_option maxRecDepth 100000 in
set_option maxHeartbeats 16000000 in
theorem fnLoadMagic_walk (p : Pl) (a : Ad) (n y : Int) (hy : 0 ≤ y ∧ y ≤ 255) (T : TypeId) (x : Value) (w : World) (hR : PlIn w w.heap.size p a) (hV : w.cell? ⟨0, 0, none⟩ = some (.iface T x)) (hw0 : 0 < w.heap.size) : Calls Tryd.prog 8 #[plA p a, .int .i64 n, .int .u8 y] w fun e w' => e = .returned (.bool true) ∧ Below w.heap.size w w' := by
  obtain ⟨A1, k1, A2, k2⟩ := a
  have HB0 := InP.new w p ⟨A1, k1, A2, k2⟩
  obtain ⟨c0, c1, c2, c3⟩ := HB0.cells
  have HFI := fits_in hR
  have HV := Lib.hid hV
  dsimp only at c1 c2 HB0
  cases hf : fits2 p
  · rw [hf] at HFI
    have HFI := Lib.hid HFI
    unfold plA at *
    dsimp only at HFI ⊢
    clear hf hR hV
    have HX0 := HB0
    go_enter Tryd.func8, Tryd.ntmps8
    go_wp2_with fail
    refine (HFI.out _ HX0).mono ?_
    rintro e w1 ⟨rfl, HX1⟩
    clear c0 c1 c2 c3
    obtain ⟨c0, c1, c2, c3⟩ := HX1.cells
    dsimp only at c0 c1 c2 c3
    have hlt1 := HX1.1.lt
    go_wp2_with fail
    go_ret
    exact ⟨rfl, HX1.2⟩
  rw [hf] at HFI
  have HFI := Lib.hid HFI
  have hRP : PlIn w w.heap.size ⟨p.nm, p.zs, p.ts, []⟩ ⟨A1, k1, A2, k2⟩ := hR
  have HOK := fok_in hRP (fits2_sub p.nm p (fits2_all p hf).1 p.ts (Nat.le_refl _) [] (Nat.zero_le _) hf) true
  have HLD := Lib.hid (loads_in (p := ⟨p.nm, p.zs, p.ts, []⟩) (a := ⟨A1, k1, A2, k2⟩) hV hw0)
  cases hk : fileOkB ⟨p.nm, p.zs, p.ts, []⟩ true
  · rw [hk] at HOK
    have HOK := Lib.hid HOK
    unfold plA at *
    dsimp only at HFI HOK HLD ⊢
    clear hf hk hR hV hRP
    have HX0 := HB0
    go_enter Tryd.func8, Tryd.ntmps8
    go_wp2_with fail
    refine (HFI.out _ HX0).mono ?_
    rintro e w1 ⟨rfl, HX1⟩
    clear c0 c1 c2 c3
    obtain ⟨c0, c1, c2, c3⟩ := HX1.cells
    dsimp only at c0 c1 c2 c3
    have hlt1 := HX1.1.lt
    have cf := fun i => HX1.froz i
    go_upto_region 4 with fail
    have HX2 := HX1.put3
    try dsimp only at HX2
    generalize (w1.setCell ⟨w.heap.size, 3, none⟩ (.string ⟨#[]⟩)) = w2 at *
    clear c0 c1 c2 c3
    obtain ⟨c0, c1, c2, c3⟩ := HX2.cells
    dsimp only at c0 c1 c2 c3
    have hlt2 := HX2.1.lt
    clear cf HX1 HX0 HB0 hlt1
    go_wp2_with fail
    refine (HOK.out _ HX2).mono ?_
    rintro e w3 ⟨rfl, HX3⟩
    clear c0 c1 c2 c3
    obtain ⟨c0, c1, c2, c3⟩ := HX3.cells
    dsimp only at c0 c1 c2 c3
    have hlt3 := HX3.1.lt
    go_wp2_with fail
    refine (HLD.out _ HX3).mono ?_
    rintro e w4 ⟨rfl, HX4⟩
    clear c0 c1 c2 c3
    obtain ⟨c0, c1, c2, c3⟩ := HX4.cells
    dsimp only at c0 c1 c2 c3
    have hlt4 := HX4.1.lt
    go_wp2_with fail
    go_ret
    exact ⟨rfl, HX4.2⟩
  rw [hk] at HOK
  have HOK := Lib.hid HOK
  obtain ⟨hzs, hts, hix, hta, hpok, hext⟩ := fileOkB_all _ _ hk
  dsimp only at hzs hts hix hta hext
  have hzl := hzs.1
  have hcl := hzs.2.1
  by_cases hn0 : n < 0
  · clear hf hk hR hV hRP hzs hts hix hta hpok hext hcl hzl
    unfold plA at *
    dsimp only at HFI HOK HLD ⊢
    have HX0 := HB0
    go_enter Tryd.func8, Tryd.ntmps8
    go_wp2_with fail
    refine (HFI.out _ HX0).mono ?_
    rintro e w1 ⟨rfl, HX1⟩
    clear c0 c1 c2 c3
    obtain ⟨c0, c1, c2, c3⟩ := HX1.cells
    dsimp only at c0 c1 c2 c3
    have hlt1 := HX1.1.lt
    have cf := fun i => HX1.froz i
    go_upto_region 4 with fail
    have HX2 := HX1.put3
    try dsimp only at HX2
    generalize (w1.setCell ⟨w.heap.size, 3, none⟩ (.string ⟨#[]⟩)) = w2 at *
    clear c0 c1 c2 c3
    obtain ⟨c0, c1, c2, c3⟩ := HX2.cells
    dsimp only at c0 c1 c2 c3
    have hlt2 := HX2.1.lt
    clear cf HX1 HX0 HB0 hlt1
    go_wp2_with fail
    refine (HOK.out _ HX2).mono ?_
    rintro e w3 ⟨rfl, HX3⟩
    clear c0 c1 c2 c3
    obtain ⟨c0, c1, c2, c3⟩ := HX3.cells
    dsimp only at c0 c1 c2 c3
    have hlt3 := HX3.1.lt
    go_wp2_with fail
    refine (HLD.out _ HX3).mono ?_
    rintro e w4 ⟨rfl, HX4⟩
    clear c0 c1 c2 c3
    obtain ⟨c0, c1, c2, c3⟩ := HX4.cells
    dsimp only at c0 c1 c2 c3
    have hlt4 := HX4.1.lt
    go_wp2_with fail
    go_ret
    exact ⟨rfl, HX4.2⟩
  by_cases hn1 : 3 < n
  · clear hf hk hR hV hRP hzs hts hix hta hpok hext hcl hzl
    unfold plA at *
    dsimp only at HFI HOK HLD ⊢
    have HX0 := HB0
    go_enter Tryd.func8, Tryd.ntmps8
    go_wp2_with fail
    refine (HFI.out _ HX0).mono ?_
    rintro e w1 ⟨rfl, HX1⟩
    clear c0 c1 c2 c3
    obtain ⟨c0, c1, c2, c3⟩ := HX1.cells
    dsimp only at c0 c1 c2 c3
    have hlt1 := HX1.1.lt
    have cf := fun i => HX1.froz i
    go_upto_region 4 with fail
    have HX2 := HX1.put3
    try dsimp only at HX2
    generalize (w1.setCell ⟨w.heap.size, 3, none⟩ (.string ⟨#[]⟩)) = w2 at *
    clear c0 c1 c2 c3
    obtain ⟨c0, c1, c2, c3⟩ := HX2.cells
    dsimp only at c0 c1 c2 c3
    have hlt2 := HX2.1.lt
    clear cf HX1 HX0 HB0 hlt1
    go_wp2_with fail
    refine (HOK.out _ HX2).mono ?_
    rintro e w3 ⟨rfl, HX3⟩
    clear c0 c1 c2 c3
    obtain ⟨c0, c1, c2, c3⟩ := HX3.cells
    dsimp only at c0 c1 c2 c3
    have hlt3 := HX3.1.lt
    go_wp2_with fail
    refine (HLD.out _ HX3).mono ?_
    rintro e w4 ⟨rfl, HX4⟩
    clear c0 c1 c2 c3
    obtain ⟨c0, c1, c2, c3⟩ := HX4.cells
    dsimp only at c0 c1 c2 c3
    have hlt4 := HX4.1.lt
    go_wp2_with fail
    go_ret
    exact ⟨rfl, HX4.2⟩
  by_cases hy0 : y = 0
  · have hyq : ((y : Int) == 0) = true := by rw [hy0]; rfl
    clear hy0
    clear hf hk hR hV hRP hzs hts hix hta hpok hext hcl hzl
    unfold plA at *
    dsimp only at HFI HOK HLD ⊢
    have HX0 := HB0
    go_enter Tryd.func8, Tryd.ntmps8
    go_wp2_with fail
    refine (HFI.out _ HX0).mono ?_
    rintro e w1 ⟨rfl, HX1⟩
    clear c0 c1 c2 c3
    obtain ⟨c0, c1, c2, c3⟩ := HX1.cells
    dsimp only at c0 c1 c2 c3
    have hlt1 := HX1.1.lt
    have cf := fun i => HX1.froz i
    go_upto_region 4 with fail
    have HX2 := HX1.put3
    try dsimp only at HX2
    generalize (w1.setCell ⟨w.heap.size, 3, none⟩ (.string ⟨#[]⟩)) = w2 at *
    clear c0 c1 c2 c3
    obtain ⟨c0, c1, c2, c3⟩ := HX2.cells
    dsimp only at c0 c1 c2 c3
    have hlt2 := HX2.1.lt
    clear cf HX1 HX0 HB0 hlt1
    go_wp2_with fail
    refine (HOK.out _ HX2).mono ?_
    rintro e w3 ⟨rfl, HX3⟩
    clear c0 c1 c2 c3
    obtain ⟨c0, c1, c2, c3⟩ := HX3.cells
    dsimp only at c0 c1 c2 c3
    have hlt3 := HX3.1.lt
    go_wp2_with fail
    refine (HLD.out _ HX3).mono ?_
    rintro e w4 ⟨rfl, HX4⟩
    clear c0 c1 c2 c3
    obtain ⟨c0, c1, c2, c3⟩ := HX4.cells
    dsimp only at c0 c1 c2 c3
    have hlt4 := HX4.1.lt
    go_wp2_with fail
    go_ret
    exact ⟨rfl, HX4.2⟩
  have hyq : ((y : Int) == 0) = false := by rw [beq_eq_false_iff_ne]; exact hy0
  obtain ⟨m, rfl⟩ : ∃ m : Nat, n = (m : Int) := ⟨n.toNat, by omega⟩
  obtain ⟨Y, rfl⟩ : ∃ Y : UInt8, y = (Y.toNat : Int) := ⟨UInt8.ofNat y.toNat, by rw [UInt8.toNat_ofNat', Nat.mod_eq_of_lt (by omega)]; omega⟩
  have hY0 : Y ≠ 0 := fun h => hy0 (by rw [h]; rfl)
  have HFL := Lib.hid (file1_in hRP (by show p.zs.length ≤ _; omega) hts hcl)
  have hbl := blockB_len 0 4 p.zs p.ts (by decide) (by omega) hts hcl
  obtain ⟨R, hR4⟩ : ∃ R, file1B ⟨p.nm, p.zs, p.ts, []⟩ = [84, 90, 105, 102] ++ R := ⟨_, rfl⟩
  have hRl : R.length ≤ 20000 := by
    have h : (file1B ⟨p.nm, p.zs, p.ts, []⟩).length ≤ 20000 := hbl
    rw [hR4, List.length_append] at h
    omega
  obtain ⟨d, b4, hd, hb4, hbne, hset⟩ := magic_set m (by omega) Y hY0 R
  have HLO := Lib.hid (loadbad_in (p := ⟨p.nm, p.zs, p.ts, []⟩) (a := ⟨A1, k1, A2, k2⟩) hV hw0 [] (b4 ++ R) (fun W v hV' hw' hv' => magic_other W [] (.iface T x) b4 R hb4 hbne (by omega) hV' hw' v hv'))
  have hxr := xor_u8 d Y
  generalize d ^^^ Y = z at *
  have HXR := Lib.hid hxr
  clear hxr
  rw [hR4] at HFL
  have hDl : ([84, 90, 105, 102] ++ R : Bs).length = 4 + R.length := by rw [List.length_append]; rfl
  generalize ([84, 90, 105, 102] ++ R : Bs) = D at *
  have hmD : m < D.length := by omega
  have hDl2 : D.length ≤ 30000 := by omega
  have HD := Lib.hid hd
  have HS := Lib.hid hset
  clear hf hk hR hV hRP hzs hts hix hta hpok hext hcl hzl hbl hR4 hb4 hbne hset hd hY0 hy0 hy hDl
  unfold plA at *
  dsimp only at HFI HOK HLD HFL HLO ⊢
  have HX0 := HB0
  go_enter Tryd.func8, Tryd.ntmps8
  go_wp2_with fail
  refine (HFI.out _ HX0).mono ?_
  rintro e w1 ⟨rfl, HX1⟩
  clear c0 c1 c2 c3
  obtain ⟨c0, c1, c2, c3⟩ := HX1.cells
  dsimp only at c0 c1 c2 c3
  have hlt1 := HX1.1.lt
  have cf := fun i => HX1.froz i
  go_upto_region 4 with fail
  have HX2 := HX1.put3
  try dsimp only at HX2
  generalize (w1.setCell ⟨w.heap.size, 3, none⟩ (.string ⟨#[]⟩)) = w2 at *
  clear c0 c1 c2 c3
  obtain ⟨c0, c1, c2, c3⟩ := HX2.cells
  dsimp only at c0 c1 c2 c3
  have hlt2 := HX2.1.lt
  clear cf HX1 HX0 HB0 hlt1
  go_wp2_with fail
  refine (HOK.out _ HX2).mono ?_
  rintro e w3 ⟨rfl, HX3⟩
  clear c0 c1 c2 c3
  obtain ⟨c0, c1, c2, c3⟩ := HX3.cells
  dsimp only at c0 c1 c2 c3
  have hlt3 := HX3.1.lt
  go_wp2_with fail
  refine (HFL.out _ HX3).mono ?_
  rintro e w4 ⟨rfl, HX4⟩
  clear c0 c1 c2 c3
  obtain ⟨c0, c1, c2, c3⟩ := HX4.cells
  dsimp only at c0 c1 c2 c3
  have hlt4 := HX4.1.lt
  have hcv := run_bytes w4 D
  obtain ⟨Ab, cb, hbe, hbr, hbc⟩ := bytes_slb w4 5 D
  injection hbe with hb1 _ hb2
  subst hb1 hb2
  obtain ⟨gb, ob, hba, hbg, hbcell⟩ := hbr.at HD.out
  injection hba with hba
  injection hba with hb3 hb4
  subst hb3 hb4
  have hfz := bytes_froz w4 5 D m hmD
  have HX5 := HX4.below (bytes_below w4 5 (S D))
  have hs5 : (Lib.bytesWorld w4 5 (S D)).heap.size = w4.heap.size + 1 := Lib.bytesWorld_size _ _ _
  generalize Lib.bytesWorld w4 5 (S D) = W5 at *
  generalize grownCap w4 D.length 0 5 = cap at *
  have hcm := hbcell m d HD.out
  rw [Nat.zero_add] at hcm
  have hR6 := rb_set (x := z) hbg hbcell hmD
  have HX6 := HX5.far w4.heap.size m hlt4 (.int .u8 ((z).toNat : Int))
  rw [Nat.zero_add] at hR6
  have hcv2 : ∀ c, (convert 42 9 (.slice (some ⟨w4.heap.size, 0, none⟩) D.length c)).run Tryd.prog (W5.setCell ⟨w4.heap.size, m, none⟩ (.int .u8 ((z).toNat : Int))) = .ok (.string (S (b4 ++ R))) (W5.setCell ⟨w4.heap.size, m, none⟩ (.int .u8 ((z).toNat : Int))) := fun c => by
    have h := conv_rb hR6 c
    rw [List.length_set, HS.out] at h
    exact h
  have hx := HXR.out
  have i0 : (0 : Int) ≤ (m : Int) := by omega
  have i1 : (m : Int) < (D.length : Int) := by omega
  clear hbr hbcell hR6 HX2 HX3 HX5 c0 c1 c2 c3 hbc hbg
  clear HX4
  go_wp2_with fail
  refine (HLO.out _ HX6).mono ?_
  rintro e w7 ⟨rfl, HX7⟩
  go_wp2_with fail
  refine (HLD.out _ (HX7.alloc _)).mono ?_
  rintro e w8 ⟨rfl, HX8⟩
  go_wp2_with fail
  go_ret
  exact ⟨rfl, HX8.2⟩
end Go.Proofs.YtgmlclhdibajiaaDoor
