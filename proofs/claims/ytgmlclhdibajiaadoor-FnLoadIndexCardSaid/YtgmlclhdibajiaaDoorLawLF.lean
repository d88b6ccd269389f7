/- FnLoadIndex: its walk. -/
import Derived.Test.YtgmlclhdibajiaaDoorLdW
import Derived.Test.YtgmlclhdibajiaaDoorSame
import Derived.Deep.DeepCutAuto
import Derived.Deep.DeepFit
namespace Go.Proofs.YtgmlclhdibajiaaDoor
open Go.RowKit

theorem rd_set {W : World} {B g i : Nat} {xs : List Value} (hg : g < B) (hc : ∀ (j : Nat) (u : Value), xs[j]? = some u → W.cell? ⟨g, j, none⟩ = some u) (hi : i < xs.length) (x : Value) (n : Nat) : Rd (W.setCell ⟨g, i, none⟩ x) B (some ⟨g, 0, none⟩) n (xs.set i x) := fun _ => ⟨_, rfl, hg, fun j u hj => by
  rw [addr_add_plain, Nat.zero_add]
  rw [List.getElem?_set] at hj
  by_cases h : i = j
  · subst h
    simp [hi] at hj
    subst hj
    exact World.cell?_setCell_same _ _ _ (hc i _ (List.getElem?_eq_getElem hi))
  · rw [if_neg h] at hj
    exact (World.cell?_setCell_other _ _ _ _ (fun e => h (by injection e with _ e))).trans (hc j u hj)⟩
theorem InP.far' {w W : World} {p : Pl} {a : Ad} (h : InP w p a W) (g i : Nat) (hg : w.heap.size < g) (u : Value) : InP w p a (W.setCell ⟨g, i, none⟩ u) :=
  ⟨h.1.far (p := ⟨g, i, none⟩) (by show _ ≠ g; omega) u, h.2.setCell (p := ⟨g, i, none⟩) (by show _ ≤ g; omega) u⟩
theorem InP.put2 {w W : World} {p : Pl} {a : Ad} (h : InP w p a W) (A : Option Addr) (c : Nat) (ts : List Tr) (hl : ts.length = p.ts.length) : InP w ⟨p.nm, p.zs, ts, p.ext⟩ ⟨a.A1, a.c1, A, c⟩ (W.setCell ⟨w.heap.size, 2, none⟩ (.slice A p.ts.length c)) := by
  refine ⟨?_, h.2.setCell (p := ⟨w.heap.size, 2, none⟩) (Nat.le_refl _) _⟩
  have e : plC ⟨p.nm, p.zs, ts, p.ext⟩ ⟨a.A1, a.c1, A, c⟩ = #[.string (S p.nm), .slice a.A1 p.zs.length a.c1, .slice A p.ts.length c, .string (S p.ext)] := by unfold plC; rw [hl]
  rw [e]
  exact h.1.set 2 _
theorem own_blk {w : World} {base g n cap : Nat} {e : TypeId} {size : Nat} {xs : List Value} (h : w.ownsRow base e size (.slice (some ⟨g, 0, none⟩) n cap) n xs) : base ≤ g ∧ g < w.heap.size ∧ (∀ (j : Nat) (u : Value), xs[j]? = some u → w.cell? ⟨g, j, none⟩ = some u) ∧ ∀ i, w.frozen? ⟨g, i, none⟩ = false := by
  have hl := h.lt g rfl
  refine ⟨hl.1, hl.2, fun j u hj => ?_, fun i => ?_⟩
  · have := h.cells rfl j u hj
    rwa [addr_add_plain, Nat.zero_add] at this
  · rcases h.2 with ⟨h1, _⟩ | ⟨g', cap', cur, h1, h2, h3, _⟩
    · cases h1
    · injection h1 with h1
      injection h1 with h1
      injection h1 with h1
      subst h1
      exact Blk.frozen (show Blk w g e cur from h3) i
theorem idx_after {w w3 w6 : World} {p : Pl} {a : Ad} {g n cap : Nat} {xs : List Value} (h : InP w p a w3) (hown : w6.ownsRow w3.heap.size 40 2 (.slice (some ⟨g, 0, none⟩) n cap) n xs) (hgrow : (w3.alloc (.cells #[] 40)).grownBy w6 (Value.slice (some ⟨w3.heap.size, 0, none⟩) 0 0).ownBlock) :
    InP w p a w6 ∧ w3.heap.size ≤ g ∧ g < w6.heap.size ∧ (∀ (j : Nat) (u : Value), xs[j]? = some u → w6.cell? ⟨g, j, none⟩ = some u) ∧ ∀ i, w6.frozen? ⟨g, i, none⟩ = false := by
  have hl := h.1.lt
  refine ⟨(h.alloc (.cells #[] 40)).grown hgrow (fun j hj => ?_), own_blk hown⟩
  have e : w3.heap.size = j := Option.some.inj hj
  omega
theorem trs_one (ts : List Tr) : ∀ u ∈ trsC ts, u.oneCell' = true := by
  intro u hu
  obtain ⟨t, _, ht⟩ := List.mem_flatMap.1 hu
  simp [trC] at ht
  rcases ht with rfl | rfl <;> rfl

set_option maxRecDepth 100000 in
set_option maxHeartbeats 16000000 in
theorem fnLoadIndex_walk (p : Pl) (a : Ad) (n y : Int) (hy : 0 ≤ y ∧ y ≤ 255) (T : TypeId) (x : Value) (w : World) (hR : PlIn w w.heap.size p a) (hV : w.cell? ⟨0, 0, none⟩ = some (.iface T x)) (hw0 : 0 < w.heap.size) : Calls Tryd.prog 7 #[plA p a, .int .i64 n, .int .u8 y] w fun e w' => e = .returned (.bool true) ∧ Below w.heap.size w w' := by
  obtain ⟨A1, k1, A2, k2⟩ := a
  have HB0 := InP.new w p ⟨A1, k1, A2, k2⟩
  obtain ⟨c0, c1, c2, c3⟩ := HB0.cells
  have HFI := fits_in hR
  have HV := Lib.hid hV
  dsimp only at c1 c2 HB0
  cases hf : fits2 p
  · rw [hf] at HFI
    have HFI := Lib.hid HFI
    unfold plA at *
    dsimp only at HFI ⊢
    clear hf hR hV
    have HX0 := HB0
    go_enter Tryd.func7, Tryd.ntmps7
    go_wp2_with fail
    refine (HFI.out _ HX0).mono ?_
    rintro e w1 ⟨rfl, HX1⟩
    clear c0 c1 c2 c3
    obtain ⟨c0, c1, c2, c3⟩ := HX1.cells
    dsimp only at c0 c1 c2 c3
    have hlt1 := HX1.1.lt
    go_wp2_with fail
    go_ret
    exact ⟨rfl, HX1.2⟩
  rw [hf] at HFI
  have HFI := Lib.hid HFI
  have hRP : PlIn w w.heap.size ⟨p.nm, p.zs, p.ts, []⟩ ⟨A1, k1, A2, k2⟩ := hR
  have HOK := fok_in hRP (fits2_sub p.nm p (fits2_all p hf).1 p.ts (Nat.le_refl _) [] (Nat.zero_le _) hf) true
  have HLD := Lib.hid (loads_in (p := ⟨p.nm, p.zs, p.ts, []⟩) (a := ⟨A1, k1, A2, k2⟩) hV hw0)
  cases hk : fileOkB ⟨p.nm, p.zs, p.ts, []⟩ true
  · rw [hk] at HOK
    have HOK := Lib.hid HOK
    unfold plA at *
    dsimp only at HFI HOK HLD ⊢
    clear hf hk hR hV hRP
    have HX0 := HB0
    go_enter Tryd.func7, Tryd.ntmps7
    go_wp2_with fail
    refine (HFI.out _ HX0).mono ?_
    rintro e w1 ⟨rfl, HX1⟩
    clear c0 c1 c2 c3
    obtain ⟨c0, c1, c2, c3⟩ := HX1.cells
    dsimp only at c0 c1 c2 c3
    have hlt1 := HX1.1.lt
    have cf := fun i => HX1.froz i
    go_upto_region 4 with fail
    have HX2 := HX1.put3
    try dsimp only at HX2
    generalize (w1.setCell ⟨w.heap.size, 3, none⟩ (.string ⟨#[]⟩)) = w2 at *
    clear c0 c1 c2 c3
    obtain ⟨c0, c1, c2, c3⟩ := HX2.cells
    dsimp only at c0 c1 c2 c3
    have hlt2 := HX2.1.lt
    clear cf HX1 HX0 HB0 hlt1
    go_wp2_with fail
    refine (HOK.out _ HX2).mono ?_
    rintro e w3 ⟨rfl, HX3⟩
    clear c0 c1 c2 c3
    obtain ⟨c0, c1, c2, c3⟩ := HX3.cells
    dsimp only at c0 c1 c2 c3
    have hlt3 := HX3.1.lt
    go_wp2_with fail
    refine (HLD.out _ HX3).mono ?_
    rintro e w4 ⟨rfl, HX4⟩
    clear c0 c1 c2 c3
    obtain ⟨c0, c1, c2, c3⟩ := HX4.cells
    dsimp only at c0 c1 c2 c3
    have hlt4 := HX4.1.lt
    go_wp2_with fail
    go_ret
    exact ⟨rfl, HX4.2⟩
  rw [hk] at HOK
  have HOK := Lib.hid HOK
  obtain ⟨hzs, hts, hix, hta, hpok, hext⟩ := fileOkB_all _ _ hk
  dsimp only at hzs hts hix hta hext
  have hzl := hzs.1
  have hcl := hzs.2.1
  by_cases hn0 : n < 0
  · have hn0' : decide (n < 0) = true := decide_eq_true hn0
    clear hf hk hR hV hRP hzs hts hix hta hpok hext hcl hzl
    unfold plA at *
    dsimp only at HFI HOK HLD ⊢
    have HX0 := HB0
    go_enter Tryd.func7, Tryd.ntmps7
    go_wp2_with fail
    refine (HFI.out _ HX0).mono ?_
    rintro e w1 ⟨rfl, HX1⟩
    clear c0 c1 c2 c3
    obtain ⟨c0, c1, c2, c3⟩ := HX1.cells
    dsimp only at c0 c1 c2 c3
    have hlt1 := HX1.1.lt
    have cf := fun i => HX1.froz i
    go_upto_region 4 with fail
    have HX2 := HX1.put3
    try dsimp only at HX2
    generalize (w1.setCell ⟨w.heap.size, 3, none⟩ (.string ⟨#[]⟩)) = w2 at *
    clear c0 c1 c2 c3
    obtain ⟨c0, c1, c2, c3⟩ := HX2.cells
    dsimp only at c0 c1 c2 c3
    have hlt2 := HX2.1.lt
    clear cf HX1 HX0 HB0 hlt1
    go_wp2_with fail
    refine (HOK.out _ HX2).mono ?_
    rintro e w3 ⟨rfl, HX3⟩
    clear c0 c1 c2 c3
    obtain ⟨c0, c1, c2, c3⟩ := HX3.cells
    dsimp only at c0 c1 c2 c3
    have hlt3 := HX3.1.lt
    go_wp2_with fail
    refine (HLD.out _ HX3).mono ?_
    rintro e w4 ⟨rfl, HX4⟩
    clear c0 c1 c2 c3
    obtain ⟨c0, c1, c2, c3⟩ := HX4.cells
    dsimp only at c0 c1 c2 c3
    have hlt4 := HX4.1.lt
    go_wp2_with fail
    go_ret
    exact ⟨rfl, HX4.2⟩
  obtain ⟨k, rfl⟩ : ∃ k : Nat, n = (k : Int) := ⟨n.toNat, by omega⟩
  by_cases hn1 : p.ts.length ≤ k
  · have hn1' : decide ((p.ts.length : Int) ≤ (k : Int)) = true := decide_eq_true (by omega)
    clear hf hk hR hV hRP hzs hts hix hta hpok hext hcl hzl
    unfold plA at *
    dsimp only at HFI HOK HLD ⊢
    have HX0 := HB0
    go_enter Tryd.func7, Tryd.ntmps7
    go_wp2_with fail
    refine (HFI.out _ HX0).mono ?_
    rintro e w1 ⟨rfl, HX1⟩
    clear c0 c1 c2 c3
    obtain ⟨c0, c1, c2, c3⟩ := HX1.cells
    dsimp only at c0 c1 c2 c3
    have hlt1 := HX1.1.lt
    have cf := fun i => HX1.froz i
    go_upto_region 4 with fail
    have HX2 := HX1.put3
    try dsimp only at HX2
    generalize (w1.setCell ⟨w.heap.size, 3, none⟩ (.string ⟨#[]⟩)) = w2 at *
    clear c0 c1 c2 c3
    obtain ⟨c0, c1, c2, c3⟩ := HX2.cells
    dsimp only at c0 c1 c2 c3
    have hlt2 := HX2.1.lt
    clear cf HX1 HX0 HB0 hlt1
    go_wp2_with fail
    refine (HOK.out _ HX2).mono ?_
    rintro e w3 ⟨rfl, HX3⟩
    clear c0 c1 c2 c3
    obtain ⟨c0, c1, c2, c3⟩ := HX3.cells
    dsimp only at c0 c1 c2 c3
    have hlt3 := HX3.1.lt
    go_wp2_with fail
    refine (HLD.out _ HX3).mono ?_
    rintro e w4 ⟨rfl, HX4⟩
    clear c0 c1 c2 c3
    obtain ⟨c0, c1, c2, c3⟩ := HX4.cells
    dsimp only at c0 c1 c2 c3
    have hlt4 := HX4.1.lt
    go_wp2_with fail
    go_ret
    exact ⟨rfl, HX4.2⟩
  obtain ⟨Y, rfl⟩ : ∃ Y : Nat, y = (Y : Int) := ⟨y.toNat, by omega⟩
  by_cases hyz : Y < p.zs.length
  · have hyz' : decide ((Y : Int) < (p.zs.length : Int)) = true := decide_eq_true (by omega)
    clear hf hk hR hV hRP hzs hts hix hta hpok hext hcl hzl
    unfold plA at *
    dsimp only at HFI HOK HLD ⊢
    have HX0 := HB0
    go_enter Tryd.func7, Tryd.ntmps7
    go_wp2_with fail
    refine (HFI.out _ HX0).mono ?_
    rintro e w1 ⟨rfl, HX1⟩
    clear c0 c1 c2 c3
    obtain ⟨c0, c1, c2, c3⟩ := HX1.cells
    dsimp only at c0 c1 c2 c3
    have hlt1 := HX1.1.lt
    have cf := fun i => HX1.froz i
    go_upto_region 4 with fail
    have HX2 := HX1.put3
    try dsimp only at HX2
    generalize (w1.setCell ⟨w.heap.size, 3, none⟩ (.string ⟨#[]⟩)) = w2 at *
    clear c0 c1 c2 c3
    obtain ⟨c0, c1, c2, c3⟩ := HX2.cells
    dsimp only at c0 c1 c2 c3
    have hlt2 := HX2.1.lt
    clear cf HX1 HX0 HB0 hlt1
    go_wp2_with fail
    refine (HOK.out _ HX2).mono ?_
    rintro e w3 ⟨rfl, HX3⟩
    clear c0 c1 c2 c3
    obtain ⟨c0, c1, c2, c3⟩ := HX3.cells
    dsimp only at c0 c1 c2 c3
    have hlt3 := HX3.1.lt
    go_wp2_with fail
    refine (HLD.out _ HX3).mono ?_
    rintro e w4 ⟨rfl, HX4⟩
    clear c0 c1 c2 c3
    obtain ⟨c0, c1, c2, c3⟩ := HX4.cells
    dsimp only at c0 c1 c2 c3
    have hlt4 := HX4.1.lt
    go_wp2_with fail
    go_ret
    exact ⟨rfl, HX4.2⟩
  have hkl : k < p.ts.length := by omega
  obtain ⟨t, htk⟩ : ∃ t, p.ts[k]? = some t := ⟨_, List.getElem?_eq_getElem hkl⟩
  obtain ⟨ts', hts'⟩ : ∃ ts', p.ts.set k ⟨t.at_, Y⟩ = ts' := ⟨_, rfl⟩
  have hl' : ts'.length = p.ts.length := by rw [← hts', List.length_set]
  have hC' : (trsC p.ts).set (k * 2 + 1) (.int .u8 (Y : Int)) = trsC ts' := by rw [← hts']; exact flat_set trC 2 (fun _ => rfl) 1 (by decide) _ ⟨t.at_, Y⟩ p.ts k t htk rfl
  have hmem : ∀ u ∈ ts', u ∈ p.ts ∨ u = ⟨t.at_, Y⟩ := fun u hu => by
    rw [← hts'] at hu
    rcases List.mem_or_eq_of_mem_set hu with h | h
    · exact .inl h
    · exact .inr h
  have hget : ∀ (j : Nat) (u : Tr), j < k → ts'[j]? = some u → u ∈ p.ts := fun j u hj hu => by
    rw [← hts', List.getElem?_set_ne (by omega)] at hu
    exact List.mem_of_getElem? hu
  have hgetk : ∀ u, ts'[k]? = some u → u = ⟨t.at_, Y⟩ := fun u hu => by
    rw [← hts', List.getElem?_set_self hkl] at hu
    injection hu with hu; exact hu.symm
  have htm := List.mem_of_getElem? htk
  have hbad : Fails (.iface T x) [] (blockB 0 4 p.zs ts') := fun W v hV' hw' hv' =>
    load1_bad W [] p.zs ts' (.iface T x) k (by omega) hzs (by omega) (fun j u hj hu => hix u (hget j u hj hu)) (fun u hu => by rw [hgetk u hu]; show p.zs.length ≤ Y; omega)
      (fun u hu => (hmem u hu).elim (fun h => by have := hix u h; omega) (fun h => by rw [h]; show Y < 256; omega)) (fun u hu => (hmem u hu).elim (fun h => hta rfl u h) (fun h => by rw [h]; exact hta rfl t htm)) hV' hw' v hv'
  have HLO := Lib.hid (loadbad_in (p := ⟨p.nm, p.zs, ts', []⟩) (a := ⟨A1, k1, none, 0⟩) hV hw0 [] (blockB 0 4 p.zs ts') hbad)
  have HLO' := Lib.hid (fun (A : Ad) => loadbad_in (p := ⟨p.nm, p.zs, ts', []⟩) (a := A) hV hw0 [] (blockB 0 4 p.zs ts') hbad)
  have HLD' := Lib.hid (fun (A : Ad) => loads_in (p := ⟨p.nm, p.zs, ts', []⟩) (a := A) hV hw0)
  have HFL := Lib.hid (fun (A : Ad) (W : World) (h : InP w ⟨p.nm, p.zs, ts', []⟩ A W) (hQ : PlIn W W.heap.size ⟨p.nm, p.zs, ts', []⟩ A) => (File1_ret ⟨p.nm, p.zs, ts', []⟩ A W W.heap.size (Nat.le_refl _) hQ (by show p.zs.length ≤ _; omega) (by show ts'.length ≤ _; omega) hcl).mono (fun _ _ ⟨he, hb⟩ => (⟨he, h.below hb⟩ : _ = _ ∧ InP w ⟨p.nm, p.zs, ts', []⟩ A _)))
  have hby' : ∀ u ∈ ts', u.ix < 256 := fun u hu => (hmem u hu).elim (fun h => by have := hix u h; omega) (fun h => by rw [h]; show Y < 256; omega)
  obtain ⟨ad, hA2, hadB, hadc⟩ := hR.2.1 (by omega)
  dsimp only at hA2
  subst hA2
  have HRZ := Lib.hid hR.1
  have HNW := Lib.hid hadc
  have HBY := Lib.hid hby'
  have HCC := Lib.hid hC'
  have HLL := Lib.hid hl'
  have HTK := Lib.hid (show (trsC p.ts)[k * 2 + 1]? = some (.int .u8 (t.ix : Int)) from flat_get trC 2 (fun _ => rfl) p.ts k t 1 htk (by decide))
  have hn0' : decide ((k : Int) < 0) = false := decide_eq_false hn0
  have hn1' : decide ((p.ts.length : Int) ≤ (k : Int)) = false := decide_eq_false (by omega)
  have hyz' : decide ((Y : Int) < (p.zs.length : Int)) = false := decide_eq_false (by omega)
  obtain ⟨j0, hj0, hj1, hj2, hj3⟩ := info_parts info_iTransition
  have J0 := Lib.hid hj0
  have J1 := Lib.hid hj1
  have J2 := Lib.hid hj2
  have J3 := Lib.hid hj3
  clear hj0 hj1 hj2 hj3 hf hk hR hV hRP hzs hix hta hpok hext hcl hzl hbad hmem hget hgetk htm hby' hC' hl' hts' htk hadc HLO
  unfold plA at *
  dsimp only at HFI HOK HLD HFL HLO' ⊢
  have HX0 := HB0
  go_enter Tryd.func7, Tryd.ntmps7
  go_wp2_with fail
  refine (HFI.out _ HX0).mono ?_
  rintro e w1 ⟨rfl, HX1⟩
  clear c0 c1 c2 c3
  obtain ⟨c0, c1, c2, c3⟩ := HX1.cells
  dsimp only at c0 c1 c2 c3
  have hlt1 := HX1.1.lt
  have cf := fun i => HX1.froz i
  go_upto_region 4 with fail
  have HX2 := HX1.put3
  try dsimp only at HX2
  generalize (w1.setCell ⟨w.heap.size, 3, none⟩ (.string ⟨#[]⟩)) = w2 at *
  clear c0 c1 c2 c3
  obtain ⟨c0, c1, c2, c3⟩ := HX2.cells
  dsimp only at c0 c1 c2 c3
  have hlt2 := HX2.1.lt
  clear cf HX1 HX0 HB0 hlt1
  go_wp2_with fail
  refine (HOK.out _ HX2).mono ?_
  rintro e w3 ⟨rfl, HX3⟩
  clear c0 c1 c2 c3
  obtain ⟨c0, c1, c2, c3⟩ := HX3.cells
  dsimp only at c0 c1 c2 c3
  have hlt3 := HX3.1.lt
  go_upto_region 6 with fail
  have HB0 := Blk.new w3 40 #[] _ rfl
  have HOW := Lib.hid (own_mt (size := 2) HB0)
  have hnw : ∀ (j : Nat) (u : Value), (trsC p.ts)[j]? = some u → (w3.alloc (.cells #[] 40)).cell? (ad.add j) = some u := fun j u hu => ((HX3.2.alloc HX3.2.size _).cell (by rw [add_block]; exact hadB)).trans (HNW.out j u hu)
  have HNW3 := Lib.hid hnw
  have cf := fun i => HX3.froz i
  clear HB0 hnw HNW
  go_wp2_with (at_builtin; refine wpList_append_lies _ rfl (.tmp 36) (.tmp 38) 23 rfl w3.heap.size 40 j0 _ 2 16 Tryd.underlying23 J0.out J1.out J2.out J3.out rfl (by decide) _ 0 [] rfl HOW.out ad p.ts.length k2 (trsC p.ts) rfl (flat_len trC 2 (fun _ => rfl) p.ts) HNW3.out (trs_one p.ts) (by omega) (by unfold maxLen; omega) (by omega) (by simp) (w3.heap.size + 1) (by simp) ?_; intro g' cap' w6 hown hgrow hat hltg; obtain ⟨HX6, hgb, hg6, hrc, hrf⟩ := idx_after HX3 hown hgrow; obtain ⟨b0, b1, b2, b3⟩ := HX6.cells; have cf6 := HX6.froz; have hrk := hrc _ _ HTK.out; have hne : w.heap.size ≠ g' := Nat.ne_of_lt (Nat.lt_of_lt_of_le hlt3 hgb); have hne' : w.heap.size < g' := Nat.lt_of_lt_of_le hlt3 hgb; have HRC := Lib.hid hrc; have HXX := Lib.hid HX6; clear hrc HX6 hown hgrow hat)
  have HX7 := (HXX.out.put2 (some ⟨g', 0, none⟩) cap' ts' HLL.out).far' g' (k * 2 + 1) hne' (.int .u8 (Y : Int))
  have hs7 : ((w6.setCell ⟨w.heap.size, 2, none⟩ (.slice (some ⟨g', 0, none⟩) p.ts.length cap')).setCell ⟨g', k * 2 + 1, none⟩ (.int .u8 (Y : Int))).heap.size = w6.heap.size := by simp [World.setCell]
  have hR8 := rd_set (W := w6.setCell ⟨w.heap.size, 2, none⟩ (.slice (some ⟨g', 0, none⟩) p.ts.length cap')) (B := w6.heap.size) (g := g') (i := k * 2 + 1) (xs := trsC p.ts) hg6 (fun j u hj => (World.cell?_setCell_other _ _ _ _ (fun e => hne (by injection e))).trans (HRC.out j u hj)) (List.getElem?_eq_some_iff.1 HTK.out).1 (.int .u8 (Y : Int)) ts'.length
  rw [HCC.out] at hR8
  have hQ : PlIn ((w6.setCell ⟨w.heap.size, 2, none⟩ (.slice (some ⟨g', 0, none⟩) p.ts.length cap')).setCell ⟨g', k * 2 + 1, none⟩ (.int .u8 (Y : Int))) ((w6.setCell ⟨w.heap.size, 2, none⟩ (.slice (some ⟨g', 0, none⟩) p.ts.length cap')).setCell ⟨g', k * 2 + 1, none⟩ (.int .u8 (Y : Int))).heap.size ⟨p.nm, p.zs, ts', []⟩ ⟨A1, k1, some ⟨g', 0, none⟩, cap'⟩ := ⟨(HRZ.out.below HX7.2 (Nat.le_refl _)).more HX7.2.size, hR8.more (Nat.le_of_eq hs7.symm), HBY.out⟩
  have HF8 := HFL.out ⟨A1, k1, some ⟨g', 0, none⟩, cap'⟩ _ HX7 hQ
  dsimp only at HF8
  rw [HLL.out] at HF8
  refine HF8.mono ?_
  rintro e w8 ⟨rfl, HX8⟩
  clear hQ hR8 HX7 HF8
  go_wp2_with fail
  refine (HLO'.out _ _ HX8).mono ?_
  rintro e w9 ⟨rfl, HX9⟩
  go_wp2_with fail
  refine (HLD'.out _ _ (HX9.alloc _)).mono ?_
  rintro e w10 ⟨rfl, HX10⟩
  go_wp2_with fail
  go_ret
  exact ⟨rfl, HX10.2⟩
end Go.Proofs.YtgmlclhdibajiaaDoor
