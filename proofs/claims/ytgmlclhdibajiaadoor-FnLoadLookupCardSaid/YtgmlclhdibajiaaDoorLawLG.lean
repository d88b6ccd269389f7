/- FnLoadLookup: its walk. -/
import Derived.Test.YtgmlclhdibajiaaDoorLdW
import Derived.Test.YtgmlclhdibajiaaDoorImplLook
import Derived.Deep.RegionHeld3
import Derived.Deep.DeepCutAuto
import Derived.Deep.DeepFit
namespace Go.Proofs.YtgmlclhdibajiaaDoor
open Go.RowKit

/-- the box of the argument, that of the place that was read, and what it reads as -/
def InG (w : World) (p : Pl) (a : Ad) (g : Nat) (Q : Ad) (W : World) : Prop := InP w p a W ∧ Blk W g 25 (plC p Q) ∧ PlIn W W.heap.size p Q
theorem InG.drew {w W : World} {p : Pl} {a : Ad} {g : Nat} {Q : Ad} (h : InG w p a g Q W) : InG w p a g Q W.drew := ⟨h.1.drew, h.2.1, h.2.2⟩
theorem InG.below {w W W' : World} {p : Pl} {a : Ad} {g : Nat} {Q : Ad} (h : InG w p a g Q W) (hb : Below W.heap.size W W') : InG w p a g Q W' := ⟨h.1.below hb, h.2.1.keep hb, (h.2.2.below hb (Nat.le_refl _)).more hb.size⟩
theorem in_four {w W : World} {p : Pl} {A1 A2 : Option Addr} {k1 k2 : Nat} (h : InP w ⟨p.nm, p.zs, p.ts, []⟩ ⟨A1, k1, A2, k2⟩ W) : (W.cell? ⟨w.heap.size, 0, none⟩ = some (.string (S p.nm)) ∧ W.cell? ⟨w.heap.size, 1, none⟩ = some (.slice A1 p.zs.length k1) ∧ W.cell? ⟨w.heap.size, 2, none⟩ = some (.slice A2 p.ts.length k2) ∧ W.cell? ⟨w.heap.size, 3, none⟩ = some (.string (S []))) ∧ InP w ⟨p.nm, p.zs, p.ts, []⟩ ⟨A1, k1, A2, k2⟩ W := ⟨h.cells, h⟩
theorem in_eight {w W : World} {p : Pl} {A1 A2 Q1 Q2 : Option Addr} {k1 k2 q1 q2 g : Nat} (h : InG w ⟨p.nm, p.zs, p.ts, []⟩ ⟨A1, k1, A2, k2⟩ g ⟨Q1, q1, Q2, q2⟩ W) : ((W.cell? ⟨w.heap.size, 0, none⟩ = some (.string (S p.nm)) ∧ W.cell? ⟨w.heap.size, 1, none⟩ = some (.slice A1 p.zs.length k1) ∧ W.cell? ⟨w.heap.size, 2, none⟩ = some (.slice A2 p.ts.length k2) ∧ W.cell? ⟨w.heap.size, 3, none⟩ = some (.string (S []))) ∧ (W.cell? ⟨g, 0, none⟩ = some (.string (S p.nm)) ∧ W.cell? ⟨g, 1, none⟩ = some (.slice Q1 p.zs.length q1) ∧ W.cell? ⟨g, 2, none⟩ = some (.slice Q2 p.ts.length q2) ∧ W.cell? ⟨g, 3, none⟩ = some (.string (S [])))) ∧ InG w ⟨p.nm, p.zs, p.ts, []⟩ ⟨A1, k1, A2, k2⟩ g ⟨Q1, q1, Q2, q2⟩ W :=
  ⟨⟨h.1.cells, h.2.1.cell 0, h.2.1.cell 1, h.2.1.cell 2, h.2.1.cell 3⟩, h⟩
/-- the answer's block, made ahead of calls -/
def GB (w : World) (n : Nat) (W : World) : Prop := Blk W n 25 #[.string ⟨#[]⟩, .slice none 0 0, .slice none 0 0, .string ⟨#[]⟩] ∧ w.heap.size < n
def Apart (Q : Ad) (n : Nat) : Prop := (∀ ad, Q.A1 = some ad → ad.block ≠ n) ∧ ∀ ad, Q.A2 = some ad → ad.block ≠ n
theorem GB.newE {w u W : World} {p : Pl} {a : Ad} (h : InP w p a u) (hb : Below (u.alloc (.cells #[.string ⟨#[]⟩, .slice none 0 0, .slice none 0 0, .string ⟨#[]⟩] 25)).drew.heap.size (u.alloc (.cells #[.string ⟨#[]⟩, .slice none 0 0, .slice none 0 0, .string ⟨#[]⟩] 25)).drew W) : GB w u.heap.size W :=
  ⟨Blk.keep (show Blk (u.alloc (.cells #[.string ⟨#[]⟩, .slice none 0 0, .slice none 0 0, .string ⟨#[]⟩] 25)).drew u.heap.size _ _ from Blk.new u _ _ _ rfl) hb, h.1.lt⟩
theorem GB.new {w u W : World} {p : Pl} {a : Ad} (h : InP w p a u) (hb : Below (u.alloc (.cells #[.string ⟨#[]⟩, .slice none 0 0, .slice none 0 0, .string ⟨#[]⟩] 25)).heap.size (u.alloc (.cells #[.string ⟨#[]⟩, .slice none 0 0, .slice none 0 0, .string ⟨#[]⟩] 25)) W) : GB w u.heap.size W :=
  ⟨Blk.keep (Blk.new u _ _ _ rfl) hb, h.1.lt⟩
theorem GB.newQ {w u W : World} {p : Pl} {a Q : Ad} (h : InP w p a u) (hb : Below (u.alloc (.cells #[.string ⟨#[]⟩, .slice none 0 0, .slice none 0 0, .string ⟨#[]⟩] 25)).heap.size (u.alloc (.cells #[.string ⟨#[]⟩, .slice none 0 0, .slice none 0 0, .string ⟨#[]⟩] 25)) W) (hN : NewAt (u.alloc (.cells #[.string ⟨#[]⟩, .slice none 0 0, .slice none 0 0, .string ⟨#[]⟩] 25)).heap.size Q) : GB w u.heap.size W ∧ Apart Q u.heap.size :=
  ⟨GB.new h hb, fun ad e => by have := hN.1 ad e; simp at this; omega, fun ad e => by have := hN.2 ad e; simp at this; omega⟩
theorem GB.keepQ {w W W' : World} {n : Nat} {Q : Ad} (h : GB w n W) (hb : Below W.heap.size W W') (hN : NewAt W.heap.size Q) : GB w n W' ∧ Apart Q n :=
  ⟨⟨h.1.keep hb, h.2⟩, fun ad e => by have := hN.1 ad e; have := h.1.lt; omega, fun ad e => by have := hN.2 ad e; have := h.1.lt; omega⟩
theorem GB.cells {w W : World} {n : Nat} (h : GB w n W) : W.cell? ⟨n, 0, none⟩ = some (.string ⟨#[]⟩) ∧ W.cell? ⟨n, 1, none⟩ = some (.slice none 0 0) ∧ W.cell? ⟨n, 2, none⟩ = some (.slice none 0 0) ∧ W.cell? ⟨n, 3, none⟩ = some (.string ⟨#[]⟩) ∧ ∀ i, W.frozen? ⟨n, i, none⟩ = false :=
  ⟨h.1.cell 0, h.1.cell 1, h.1.cell 2, h.1.cell 3, fun i => h.1.frozen i⟩
theorem rd4 {W : World} {B n m : Nat} {A : Option Addr} {xs : List Value} (h : Rd W B A m xs) (hA : ∀ ad, A = some ad → ad.block ≠ n) (v0 v1 v2 v3 : Value) : Rd ((((W.setCell ⟨n, 0, none⟩ v0).setCell ⟨n, 1, none⟩ v1).setCell ⟨n, 2, none⟩ v2).setCell ⟨n, 3, none⟩ v3) B A m xs :=
  (((h.far ⟨n, 0, none⟩ hA v0).far ⟨n, 1, none⟩ hA v1).far ⟨n, 2, none⟩ hA v2).far ⟨n, 3, none⟩ hA v3
theorem fin_g {w W : World} {p : Pl} {A1 A2 Q1 Q2 : Option Addr} {k1 k2 q1 q2 n : Nat} (h : GB w n W ∧ Apart ⟨Q1, q1, Q2, q2⟩ n) (hI : InP w ⟨p.nm, p.zs, p.ts, []⟩ ⟨A1, k1, A2, k2⟩ W) (hP : PlIn W W.heap.size ⟨p.nm, p.zs, p.ts, []⟩ ⟨Q1, q1, Q2, q2⟩) :
    InG w ⟨p.nm, p.zs, p.ts, []⟩ ⟨A1, k1, A2, k2⟩ n ⟨Q1, q1, Q2, q2⟩ ((((W.setCell ⟨n, 0, none⟩ (.string (S p.nm))).setCell ⟨n, 1, none⟩ (.slice Q1 p.zs.length q1)).setCell ⟨n, 2, none⟩ (.slice Q2 p.ts.length q2)).setCell ⟨n, 3, none⟩ (.string (S []))) := by
  obtain ⟨⟨hk, hn⟩, hap⟩ := h
  have hs : ((((W.setCell ⟨n, 0, none⟩ (.string (S p.nm))).setCell ⟨n, 1, none⟩ (.slice Q1 p.zs.length q1)).setCell ⟨n, 2, none⟩ (.slice Q2 p.ts.length q2)).setCell ⟨n, 3, none⟩ (.string (S []))).heap.size = W.heap.size := by simp [World.setCell]
  have hne : w.heap.size ≠ n := by omega
  refine ⟨⟨?_, ?_⟩, ?_, ?_⟩
  · exact (((hI.1.far (p := ⟨n, 0, none⟩) hne _).far (p := ⟨n, 1, none⟩) hne _).far (p := ⟨n, 2, none⟩) hne _).far (p := ⟨n, 3, none⟩) hne _
  · exact (((hI.2.setCell (p := ⟨n, 0, none⟩) (Nat.le_of_lt hn) _).setCell (p := ⟨n, 1, none⟩) (Nat.le_of_lt hn) _).setCell (p := ⟨n, 2, none⟩) (Nat.le_of_lt hn) _).setCell (p := ⟨n, 3, none⟩) (Nat.le_of_lt hn) _
  · exact (((hk.set 0 _).set 1 _).set 2 _).set 3 _
  · rw [hs]
    exact ⟨rd4 hP.1 hap.1 _ _ _ _, rd4 hP.2.1 hap.2 _ _ _ _, hP.2.2⟩
theorem in_four_g {w W : World} {p : Pl} {A1 A2 Q1 Q2 : Option Addr} {k1 k2 q1 q2 n : Nat} (h : GB w n W ∧ Apart ⟨Q1, q1, Q2, q2⟩ n) (hI : InP w ⟨p.nm, p.zs, p.ts, []⟩ ⟨A1, k1, A2, k2⟩ W) (hP : PlIn W W.heap.size ⟨p.nm, p.zs, p.ts, []⟩ ⟨Q1, q1, Q2, q2⟩) :
    (((((W.setCell ⟨n, 0, none⟩ (.string (S p.nm))).setCell ⟨n, 1, none⟩ (.slice Q1 p.zs.length q1)).setCell ⟨n, 2, none⟩ (.slice Q2 p.ts.length q2)).setCell ⟨n, 3, none⟩ (.string (S []))).cell? ⟨w.heap.size, 0, none⟩ = some (.string (S p.nm)) ∧ ((((W.setCell ⟨n, 0, none⟩ (.string (S p.nm))).setCell ⟨n, 1, none⟩ (.slice Q1 p.zs.length q1)).setCell ⟨n, 2, none⟩ (.slice Q2 p.ts.length q2)).setCell ⟨n, 3, none⟩ (.string (S []))).cell? ⟨w.heap.size, 1, none⟩ = some (.slice A1 p.zs.length k1) ∧ ((((W.setCell ⟨n, 0, none⟩ (.string (S p.nm))).setCell ⟨n, 1, none⟩ (.slice Q1 p.zs.length q1)).setCell ⟨n, 2, none⟩ (.slice Q2 p.ts.length q2)).setCell ⟨n, 3, none⟩ (.string (S []))).cell? ⟨w.heap.size, 2, none⟩ = some (.slice A2 p.ts.length k2) ∧ ((((W.setCell ⟨n, 0, none⟩ (.string (S p.nm))).setCell ⟨n, 1, none⟩ (.slice Q1 p.zs.length q1)).setCell ⟨n, 2, none⟩ (.slice Q2 p.ts.length q2)).setCell ⟨n, 3, none⟩ (.string (S []))).cell? ⟨w.heap.size, 3, none⟩ = some (.string (S []))) ∧ InP w ⟨p.nm, p.zs, p.ts, []⟩ ⟨A1, k1, A2, k2⟩ ((((W.setCell ⟨n, 0, none⟩ (.string (S p.nm))).setCell ⟨n, 1, none⟩ (.slice Q1 p.zs.length q1)).setCell ⟨n, 2, none⟩ (.slice Q2 p.ts.length q2)).setCell ⟨n, 3, none⟩ (.string (S []))) := in_four (fin_g h hI hP).1
theorem late_g {w W : World} {p : Pl} {A1 A2 Q1 Q2 : Option Addr} {k1 k2 q1 q2 : Nat} (hI : InP w ⟨p.nm, p.zs, p.ts, []⟩ ⟨A1, k1, A2, k2⟩ W) (hP : PlIn W W.heap.size ⟨p.nm, p.zs, p.ts, []⟩ ⟨Q1, q1, Q2, q2⟩) :
    InG w ⟨p.nm, p.zs, p.ts, []⟩ ⟨A1, k1, A2, k2⟩ W.heap.size ⟨Q1, q1, Q2, q2⟩ (W.alloc (.cells #[.string (S p.nm), .slice Q1 p.zs.length q1, .slice Q2 p.ts.length q2, .string (S [])] 25)) :=
  ⟨hI.alloc _, Blk.new W _ _ _ rfl, hP.1.at_ ((Below.refl _ _).alloc (Nat.le_refl _) _), hP.2.1.at_ ((Below.refl _ _).alloc (Nat.le_refl _) _), hP.2.2⟩
theorem file2_at {w : World} {p : Pl} {a : Ad} (hR : PlIn w w.heap.size p a) (hcap : p.zs.length ≤ a.c1) (hz0 : 1 ≤ p.zs.length) (hz : p.zs.length ≤ 200) (ht : p.ts.length ≤ 1000) (hn : (charsB p.zs).length ≤ 255) (he : p.ext.length ≤ 2147483647) (W : World) (h : InP w p a W) : Calls Tryd.prog 14 #[plA p a] W fun e W' => e = .returned (.string (S (file2B p))) ∧ InP w p a W' ∧ Below W.heap.size W W' :=
  (File2_ret p a W w.heap.size h.2.size (hR.below h.2 (Nat.le_refl _)) hcap hz0 hz ht hn he).mono fun _ _ ⟨he, hb⟩ => ⟨he, h.below hb, hb⟩
theorem load_at {w : World} {p : Pl} {a : Ad} {V : Value} (hV : w.cell? ⟨0, 0, none⟩ = some V) (hw0 : 0 < w.heap.size) (nm D : Bs) (q : Pl) (hz : (q.zs.length : Int) ≤ 2147483647) (ht : (q.ts.length : Int) ≤ 2147483647) (HL : Reads V nm D q) (W : World) (h : InP w p a W) :
    Calls Tryd.prog 13 #[.string (S nm), .string (S D)] W fun e W' => ∃ A : Ad, e = .returned (.tuple #[plA q A, .bool true]) ∧ PlIn W' W'.heap.size q A ∧ InP w p a W' ∧ Below W.heap.size W W' ∧ NewAt W.heap.size A :=
  (implLoad_okN V nm D q hz ht HL W ((h.2.cell (p := ⟨0, 0, none⟩) hw0).trans hV) (by have := h.2.size; omega)).mono fun _ _ ⟨A, he, hP, hb, hN⟩ => ⟨A, he, hP, h.below hb, hb, hN⟩
theorem look_g {w : World} {p : Pl} {a Q : Ad} {g : Nat} (hz : (p.zs.length : Int) ≤ 2147483647) (ht : (p.ts.length : Int) ≤ 2147483647) (hok : plOk p) (he : p.ext.length ≤ 4294967296) (sec : Int) (W : World) (h : InG w p a g Q W) : Calls Tryd.prog 15 #[plA p Q, .int .i64 sec] W fun e W' => e = .returned (foA (lookF p sec)) ∧ InG w p a g Q W' :=
  (implLookup_ret p Q W W.heap.size (Nat.le_refl _) h.2.2 (by omega) (by omega) (.inr hok) he sec).mono fun _ _ ⟨he, hb⟩ => ⟨he, h.below hb⟩
theorem look_a {w : World} {p : Pl} {a Q : Ad} {g : Nat} (hR : PlIn w w.heap.size p a) (hz : (p.zs.length : Int) ≤ 2147483647) (ht : (p.ts.length : Int) ≤ 2147483647) (hok : plOk p) (he : p.ext.length ≤ 4294967296) (sec : Int) (W : World) (h : InG w p a g Q W) : Calls Tryd.prog 15 #[plA p a, .int .i64 sec] W fun e W' => e = .returned (foA (lookF p sec)) ∧ InG w p a g Q W' :=
  (implLookup_ret p a W w.heap.size h.1.2.size (hR.below h.1.2 (Nat.le_refl _)) (by omega) (by omega) (.inr hok) he sec).mono fun _ _ ⟨he, hb⟩ => ⟨he, h.below hb⟩

set_option maxRecDepth 100000 in
set_option maxHeartbeats 16000000 in
theorem fnLoadLookup_walk (p : Pl) (a : Ad) (sec : Int) (V : Value) (w : World) (hR : PlIn w w.heap.size p a) (hg : ∀ t ∈ p.ts, -9223372036854775808 ≤ t.at_ ∧ t.at_ ≤ 9223372036854775807) (hcc : p.zs.length ≤ a.c1 ∧ p.ts.length ≤ a.c2) (hV : w.cell? ⟨0, 0, none⟩ = some V) (hw0 : 0 < w.heap.size) : Calls Tryd.prog 3 #[plA p a, .int .i64 sec] w fun e w' => e = .returned (.bool true) ∧ Below w.heap.size w w' := by
  obtain ⟨A1, k1, A2, k2⟩ := a
  have HB0 := InP.new w p ⟨A1, k1, A2, k2⟩
  obtain ⟨c0, c1, c2, c3⟩ := HB0.cells
  have HFI := fits_in hR
  have HV := Lib.hid hV
  dsimp only at c1 c2 HB0
  cases hf : fits2 p
  · rw [hf] at HFI
    have HFI := Lib.hid HFI
    unfold plA at *
    dsimp only at HFI ⊢
    clear hf hR hV
    have HX0 := HB0
    go_enter Tryd.func3, Tryd.ntmps3
    go_wp2_with fail
    refine (HFI.out _ HX0).mono ?_
    rintro e w1 ⟨rfl, HX1⟩
    clear c0 c1 c2 c3
    obtain ⟨c0, c1, c2, c3⟩ := HX1.cells
    dsimp only at c0 c1 c2 c3
    have hlt1 := HX1.1.lt
    go_wp2_with fail
    go_ret
    exact ⟨rfl, HX1.2⟩
  rw [hf] at HFI
  have HFI := Lib.hid HFI
  have hRP : PlIn w w.heap.size ⟨p.nm, p.zs, p.ts, []⟩ ⟨A1, k1, A2, k2⟩ := hR
  have HOK := fok_in hRP (fits2_sub p.nm p (fits2_all p hf).1 p.ts (Nat.le_refl _) [] (Nat.zero_le _) hf) false
  have HLD := Lib.hid (loads_in (p := ⟨p.nm, p.zs, p.ts, []⟩) (a := ⟨A1, k1, A2, k2⟩) hV hw0)
  cases hk : fileOkB ⟨p.nm, p.zs, p.ts, []⟩ false
  · rw [hk] at HOK
    have HOK := Lib.hid HOK
    unfold plA at *
    dsimp only at HFI HOK HLD ⊢
    clear hf hk hR hV hRP
    have HX0 := HB0
    go_enter Tryd.func3, Tryd.ntmps3
    go_wp2_with fail
    refine (HFI.out _ HX0).mono ?_
    rintro e w1 ⟨rfl, HX1⟩
    clear c0 c1 c2 c3
    obtain ⟨c0, c1, c2, c3⟩ := HX1.cells
    dsimp only at c0 c1 c2 c3
    have hlt1 := HX1.1.lt
    have cf := fun i => HX1.froz i
    go_upto_region 4 with fail
    have HX2 := HX1.put3
    try dsimp only at HX2
    generalize (w1.setCell ⟨w.heap.size, 3, none⟩ (.string ⟨#[]⟩)) = w2 at *
    clear c0 c1 c2 c3
    obtain ⟨c0, c1, c2, c3⟩ := HX2.cells
    dsimp only at c0 c1 c2 c3
    have hlt2 := HX2.1.lt
    clear cf HX1 HX0 HB0 hlt1
    go_wp2_with fail
    refine (HOK.out _ HX2).mono ?_
    rintro e w3 ⟨rfl, HX3⟩
    clear c0 c1 c2 c3
    obtain ⟨c0, c1, c2, c3⟩ := HX3.cells
    dsimp only at c0 c1 c2 c3
    have hlt3 := HX3.1.lt
    go_wp2_with fail
    refine (HLD.out _ HX3).mono ?_
    rintro e w4 ⟨rfl, HX4⟩
    clear c0 c1 c2 c3
    obtain ⟨c0, c1, c2, c3⟩ := HX4.cells
    dsimp only at c0 c1 c2 c3
    have hlt4 := HX4.1.lt
    go_wp2_with fail
    go_ret
    exact ⟨rfl, HX4.2⟩
  rw [hk] at HOK
  have HOK := Lib.hid HOK
  obtain ⟨hzs, hts, hix, hta, hpok, hext⟩ := fileOkB_all _ _ hk
  dsimp only at hzs hts hix hta hext
  have hzl := hzs.1
  have hcl := hzs.2.1
  by_cases hts0 : p.ts = []
  · have hq : ((p.ts.length : Int) == 0) = true := by rw [hts0]; rfl
    clear hf hk hR hV hRP hzs hts hix hta hpok hext hcl hzl hts0 hg hcc
    unfold plA at *
    dsimp only at HFI HOK HLD ⊢
    have HX0 := HB0
    go_enter Tryd.func3, Tryd.ntmps3
    go_wp2_with fail
    refine (HFI.out _ HX0).mono ?_
    rintro e w1 ⟨rfl, HX1⟩
    clear c0 c1 c2 c3
    obtain ⟨c0, c1, c2, c3⟩ := HX1.cells
    dsimp only at c0 c1 c2 c3
    have hlt1 := HX1.1.lt
    have cf := fun i => HX1.froz i
    go_upto_region 4 with fail
    have HX2 := HX1.put3
    try dsimp only at HX2
    generalize (w1.setCell ⟨w.heap.size, 3, none⟩ (.string ⟨#[]⟩)) = w2 at *
    clear c0 c1 c2 c3
    obtain ⟨c0, c1, c2, c3⟩ := HX2.cells
    dsimp only at c0 c1 c2 c3
    have hlt2 := HX2.1.lt
    clear cf HX1 HX0 HB0 hlt1
    go_wp2_with fail
    refine (HOK.out _ HX2).mono ?_
    rintro e w3 ⟨rfl, HX3⟩
    clear c0 c1 c2 c3
    obtain ⟨c0, c1, c2, c3⟩ := HX3.cells
    dsimp only at c0 c1 c2 c3
    have hlt3 := HX3.1.lt
    go_wp2_with fail
    refine (HLD.out _ HX3).mono ?_
    rintro e w4 ⟨rfl, HX4⟩
    clear c0 c1 c2 c3
    obtain ⟨c0, c1, c2, c3⟩ := HX4.cells
    dsimp only at c0 c1 c2 c3
    have hlt4 := HX4.1.lt
    go_wp2_with fail
    go_ret
    exact ⟨rfl, HX4.2⟩
  have hq : ((p.ts.length : Int) == 0) = false := by rw [beq_eq_false_iff_ne]; have := List.length_pos_iff.2 hts0; omega
  have hq' : p.ts.length ≠ 0 := by have := List.length_pos_iff.2 hts0; omega
  have hrd := reads2p V p.nm ⟨p.nm, p.zs, p.ts, []⟩ (Nat.zero_le _) hzs hts hix hg
  dsimp only at hrd
  rw [tsAll_ne p.ts hts0] at hrd
  have HFL := Lib.hid (file2_at hRP hcc.1 (by show 1 ≤ p.zs.length; omega) (by show p.zs.length ≤ _; omega) hts hcl (Nat.zero_le _))
  have HLO := Lib.hid (load_at (p := ⟨p.nm, p.zs, p.ts, []⟩) (a := ⟨A1, k1, A2, k2⟩) hV hw0 p.nm (file2B ⟨p.nm, p.zs, p.ts, []⟩) ⟨p.nm, p.zs, p.ts, []⟩ (by show (p.zs.length : Int) ≤ _; omega) (by show (p.ts.length : Int) ≤ _; omega) hrd)
  have HKG := Lib.hid (fun (g : Nat) (Q : Ad) => look_g (w := w) (p := ⟨p.nm, p.zs, p.ts, []⟩) (a := ⟨A1, k1, A2, k2⟩) (Q := Q) (g := g) (by show (p.zs.length : Int) ≤ _; omega) (by show (p.ts.length : Int) ≤ _; omega) hpok (Nat.zero_le _) sec)
  have HKA := Lib.hid (fun (g : Nat) (Q : Ad) => look_a (w := w) (p := ⟨p.nm, p.zs, p.ts, []⟩) (a := ⟨A1, k1, A2, k2⟩) (Q := Q) (g := g) hRP (by show (p.zs.length : Int) ≤ _; omega) (by show (p.ts.length : Int) ≤ _; omega) hpok (Nat.zero_le _) sec)
  clear hf hk hR hV hRP hzs hts hix hta hpok hext hcl hzl hrd hts0 hg hcc
  generalize file2B ⟨p.nm, p.zs, p.ts, []⟩ = D at *
  generalize lookF ⟨p.nm, p.zs, p.ts, []⟩ sec = F at *
  unfold plA foA at *
  dsimp only at HFI HOK HLD HFL HLO HKG HKA ⊢
  have HX0 := HB0
  go_enter Tryd.func3, Tryd.ntmps3
  go_wp2_with fail
  refine (HFI.out _ HX0).mono ?_
  rintro e w1 ⟨rfl, HX1⟩
  clear c0 c1 c2 c3
  obtain ⟨c0, c1, c2, c3⟩ := HX1.cells
  dsimp only at c0 c1 c2 c3
  have hlt1 := HX1.1.lt
  have cf := fun i => HX1.froz i
  go_upto_region 4 with fail
  have HX2 := HX1.put3
  try dsimp only at HX2
  generalize (w1.setCell ⟨w.heap.size, 3, none⟩ (.string ⟨#[]⟩)) = w2 at *
  clear c0 c1 c2 c3
  obtain ⟨c0, c1, c2, c3⟩ := HX2.cells
  dsimp only at c0 c1 c2 c3
  have hlt2 := HX2.1.lt
  clear cf HX1 HX0 HB0 hlt1
  go_wp2_with fail
  refine (HOK.out _ HX2).mono ?_
  rintro e w3 ⟨rfl, HX3⟩
  clear c0 c1 c2 c3
  obtain ⟨c0, c1, c2, c3⟩ := HX3.cells
  dsimp only at c0 c1 c2 c3
  have hlt3 := HX3.1.lt
  go_upto_region 6 with fail
  go_cut [5, 6] from 29 (fun s5 s6 W => ∃ (n : Nat) (Q : Ad), s5 = .pointer (some ⟨n, 0, none⟩) ∧ s6 = .bool true ∧ InG w ⟨p.nm, p.zs, p.ts, []⟩ ⟨A1, k1, A2, k2⟩ n Q W)
  case first =>
    clear HKG HKA c0 c1 c2 c3
    obtain ⟨⟨z0, z1, z2, z3⟩, _⟩ := in_four HX3
    go_region_held3 (fun w' => (w'.cell? ⟨w.heap.size, 0, none⟩ = some (.string (S p.nm)) ∧ w'.cell? ⟨w.heap.size, 1, none⟩ = some (.slice A1 p.zs.length k1) ∧ w'.cell? ⟨w.heap.size, 2, none⟩ = some (.slice A2 p.ts.length k2) ∧ w'.cell? ⟨w.heap.size, 3, none⟩ = some (.string (S []))) ∧ InP w ⟨p.nm, p.zs, p.ts, []⟩ ⟨A1, k1, A2, k2⟩ w')
      (first | ((with_reducible refine in_four_g hG ?_ ?_); (with_reducible assumption); (with_reducible assumption)) | ((with_reducible refine in_four (InP.drew ?_)); (with_reducible assumption)) | ((with_reducible refine in_four ?_); (with_reducible assumption)) | ((with_reducible refine in_four (InP.alloc ?_ _)); (with_reducible assumption)) | ((with_reducible refine in_four (InP.drew (InP.alloc ?_ _))); (with_reducible assumption)))
      (first | (go_at_call 14; ((with_reducible refine (HFL.out _ ?_).mono ?_); (first | (with_reducible assumption) | ((with_reducible refine InP.drew ?_); (with_reducible assumption)) | ((with_reducible refine InP.alloc ?_ _); (with_reducible assumption)) | ((with_reducible refine InP.drew (InP.alloc ?_ _)); (with_reducible assumption))); rintro e w' ⟨rfl, hI, hb'⟩; (first | (have hG := GB.newE (by with_reducible assumption) hb'; obtain ⟨r0, r1, r2, r3, rf⟩ := GB.cells hG) | (have hG := GB.new (by with_reducible assumption) hb'; obtain ⟨r0, r1, r2, r3, rf⟩ := GB.cells hG) | skip))) | (go_at_call 13; ((with_reducible refine (HLO.out _ ?_).mono ?_); (first | (with_reducible assumption) | ((with_reducible refine InP.drew ?_); (with_reducible assumption)) | ((with_reducible refine InP.alloc ?_ _); (with_reducible assumption)) | ((with_reducible refine InP.drew (InP.alloc ?_ _)); (with_reducible assumption))); rintro e w' ⟨⟨Q1, q1, Q2, q2⟩, rfl, hP, hI, hb', hN⟩; (first | (have hG := GB.keepQ hG hb' hN; obtain ⟨r0, r1, r2, r3, rf⟩ := GB.cells hG.1) | (have hG := GB.newQ (by with_reducible assumption) hb' hN; obtain ⟨r0, r1, r2, r3, rf⟩ := GB.cells hG.1) | skip); dsimp only)))
    all_goals
      go_wp2_with fail
      go_meet
      case rel =>
        refine ⟨_, ⟨Q1, q1, Q2, q2⟩, rfl, rfl, ?_⟩
        first
          | ((with_reducible refine fin_g hG ?_ ?_); (with_reducible assumption); (with_reducible assumption))
          | exact late_g (by with_reducible assumption) (by with_reducible assumption)
  case rest =>
    clear c0 c1 c2 c3 HX2 HX3 HFL HLO
    obtain ⟨n, ⟨Q1, q1, Q2, q2⟩, rfl, rfl, HG⟩ := hcut
    have HKG := Lib.hid (HKG.out n ⟨Q1, q1, Q2, q2⟩)
    have HKA := Lib.hid (HKA.out n ⟨Q1, q1, Q2, q2⟩)
    dsimp only at HKG HKA
    obtain ⟨⟨⟨c0, c1, c2, c3⟩, d0, d1, d2, d3⟩, _⟩ := in_eight HG
    go_wp2_with fail
    go_region_held3 (fun w' => ((w'.cell? ⟨w.heap.size, 0, none⟩ = some (.string (S p.nm)) ∧ w'.cell? ⟨w.heap.size, 1, none⟩ = some (.slice A1 p.zs.length k1) ∧ w'.cell? ⟨w.heap.size, 2, none⟩ = some (.slice A2 p.ts.length k2) ∧ w'.cell? ⟨w.heap.size, 3, none⟩ = some (.string (S []))) ∧ (w'.cell? ⟨n, 0, none⟩ = some (.string (S p.nm)) ∧ w'.cell? ⟨n, 1, none⟩ = some (.slice Q1 p.zs.length q1) ∧ w'.cell? ⟨n, 2, none⟩ = some (.slice Q2 p.ts.length q2) ∧ w'.cell? ⟨n, 3, none⟩ = some (.string (S [])))) ∧ InG w ⟨p.nm, p.zs, p.ts, []⟩ ⟨A1, k1, A2, k2⟩ n ⟨Q1, q1, Q2, q2⟩ w')
      (first | ((with_reducible refine in_eight (InG.drew ?_)); (with_reducible assumption)) | ((with_reducible refine in_eight ?_); (with_reducible assumption)))
      (first | (go_at_call 15; ((with_reducible refine (HKG.out _ ?_).mono ?_); (first | (with_reducible assumption) | ((with_reducible refine InG.drew ?_); (with_reducible assumption))); rintro e w' ⟨rfl, hB'⟩)) | (go_at_call 15; ((with_reducible refine (HKA.out _ ?_).mono ?_); (first | (with_reducible assumption) | ((with_reducible refine InG.drew ?_); (with_reducible assumption))); rintro e w' ⟨rfl, hB'⟩)))
    all_goals
      go_wp2_with fail
      go_ret
      exact ⟨rfl, hB'.1.2⟩
end Go.Proofs.YtgmlclhdibajiaaDoor
