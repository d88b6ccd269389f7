/- FnLookupAhead: its walk. -/
import Derived.Test.YtjcmbghhlloejaaLawP
import Derived.Deep.DeepCutAuto
namespace Go.Proofs.Ytjcmbghhlloejaa
open Go.RowKit

def bare (p : Pl) : Pl := ⟨p.nm, p.zs, p.ts, []⟩
theorem bare_ok {p : Pl} (h : plOk p) : plOk (bare p) := h
theorem lookF_bare (p : Pl) (sec : Int) (h : cntT p.ts sec ≠ p.ts.length ∨ p.ext = []) : lookF p sec = lookF (bare p) sec := by
  rw [lookF_mid p sec h, lookF_mid (bare p) sec (.inr rfl)]
  rfl
/-- two boxes of places: the argument's, and a copy without its rule -/
def In2 (w : World) (p : Pl) (a : Ad) (g : Nat) (W : World) : Prop := InP w p a W ∧ Blk W g 25 (plC (bare p) a)
theorem In2.drew {w W : World} {p : Pl} {a : Ad} {g : Nat} (h : In2 w p a g W) : In2 w p a g W.drew := ⟨h.1.drew, h.2⟩
theorem In2.below {w W W' : World} {p : Pl} {a : Ad} {g : Nat} (h : In2 w p a g W) (hb : Below W.heap.size W W') : In2 w p a g W' := ⟨h.1.below hb, h.2.keep hb⟩
theorem In2.all {w W : World} {p : Pl} {A1 A2 : Option Addr} {k1 k2 g : Nat} (h : In2 w p ⟨A1, k1, A2, k2⟩ g W) :
    ((W.cell? ⟨w.heap.size, 0, none⟩ = some (.string (S p.nm)) ∧ W.cell? ⟨w.heap.size, 1, none⟩ = some (.slice A1 p.zs.length k1) ∧ W.cell? ⟨w.heap.size, 2, none⟩ = some (.slice A2 p.ts.length k2) ∧ W.cell? ⟨w.heap.size, 3, none⟩ = some (.string (S p.ext))) ∧
     (W.cell? ⟨g, 0, none⟩ = some (.string (S p.nm)) ∧ W.cell? ⟨g, 1, none⟩ = some (.slice A1 p.zs.length k1) ∧ W.cell? ⟨g, 2, none⟩ = some (.slice A2 p.ts.length k2) ∧ W.cell? ⟨g, 3, none⟩ = some (.string ⟨#[]⟩))) ∧ In2 w p ⟨A1, k1, A2, k2⟩ g W :=
  ⟨⟨h.1.cells, h.2.cell 0, h.2.cell 1, h.2.cell 2, h.2.cell 3⟩, h⟩
theorem look_in2 {w : World} {p : Pl} {a : Ad} {g : Nat} (q : Pl) (hq : q.zs = p.zs ∧ q.ts = p.ts) (hR : PlIn w w.heap.size p a) (hf : fits2 p = true) (he : q.ext.length ≤ 4294967296) (hok : plOk q) (sec : Int) (W : World) (h : In2 w p a g W) : Calls Try.prog 17 #[plA q a, .int .i64 sec] W fun e W' => e = .returned (foA (lookF q sec)) ∧ In2 w p a g W' := by
  obtain ⟨_, hz, ht, _, _⟩ := fits2_all p hf
  have hR' : PlIn w w.heap.size q a := by unfold PlIn; rw [hq.1, hq.2]; exact hR
  exact (implLookup_ret q a W w.heap.size h.1.2.size (hR'.below h.1.2 (Nat.le_refl _)) (by rw [hq.1]; omega) (by rw [hq.2]; omega) (.inr hok) he sec).mono fun _ _ ⟨he, hb⟩ => ⟨he, h.below hb⟩
theorem finds_in2 {w : World} {p : Pl} {a : Ad} {g : Nat} (W : World) (h : In2 w p a g W) : Calls Try.prog 15 #[] W fun e W' => e = .returned (.bool true) ∧ In2 w p a g W' :=
  (finds_ret W).mono fun _ _ ⟨he, hb⟩ => ⟨he, h.below hb⟩

set_option maxRecDepth 100000 in
set_option maxHeartbeats 16000000 in
theorem fnLookupAhead_walk (p : Pl) (a : Ad) (sec : Int) (w : World) (hR : PlIn w w.heap.size p a) : Calls Try.prog 6 #[plA p a, .int .i64 sec] w fun e w' => e = .returned (.bool true) ∧ Below w.heap.size w w' := by
  obtain ⟨A1, k1, A2, k2⟩ := a
  have HB0 := InP.new w p ⟨A1, k1, A2, k2⟩
  obtain ⟨c0, c1, c2, c3⟩ := HB0.cells
  have HFI := fits_at hR
  have HFD := Lib.hid (finds_at (w := w) (p := p) (a := ⟨A1, k1, A2, k2⟩))
  dsimp only at c1 c2 HB0
  cases hf : fits2 p
  · rw [hf] at HFI
    have HFI := Lib.hid HFI
    unfold plA at *
    dsimp only at HFI ⊢
    clear hf hR
    go_enter Try.func6, Try.ntmps6
    go_wp2_with fail
    refine (HFI.out _ HB0).mono ?_
    rintro e w1 ⟨rfl, HX1⟩
    go_wp2_with fail
    go_ret
    exact ⟨rfl, HX1.2⟩
  rw [hf] at HFI
  have HFI := Lib.hid HFI
  have HOK := ok_at hR hf
  cases hk : plOkB p
  · rw [hk] at HOK
    have HOK := Lib.hid HOK
    unfold plA at *
    dsimp only at HFI HOK ⊢
    clear hf hk hR
    have HX0 := HB0
    go_enter Try.func6, Try.ntmps6
    go_wp2_with fail
    refine (HFI.out _ HX0).mono ?_
    rintro e w1 ⟨rfl, HX1⟩
    clear c0 c1 c2 c3
    obtain ⟨c0, c1, c2, c3⟩ := HX1.cells
    dsimp only at c1 c2
    go_wp2_with fail
    refine (HOK.out _ HX1).mono ?_
    rintro e w2 ⟨rfl, HX2⟩
    clear c0 c1 c2 c3
    obtain ⟨c0, c1, c2, c3⟩ := HX2.cells
    dsimp only at c1 c2
    go_wp2_with fail
    refine (HFD.out _ HX2).mono ?_
    rintro e w3 ⟨rfl, HX3⟩
    clear c0 c1 c2 c3
    obtain ⟨c0, c1, c2, c3⟩ := HX3.cells
    dsimp only at c1 c2
    go_wp2_with fail
    go_ret
    exact ⟨rfl, HX3.2⟩
  rw [hk] at HOK
  have HOK := Lib.hid HOK
  have hok := (plOkB_iff p).1 hk
  have hoz := hok.2.2.1
  have hot := hok.2.2.2
  have HRH := Lib.hid hR
  by_cases hts : p.ts.length = 0
  · have e0 : ((p.ts.length : Int) == 0) = true := by rw [hts]; rfl
    clear hf hk hR hok hts hoz hot
    unfold plA at *
    dsimp only at HFI HOK ⊢
    have HX0 := HB0
    go_enter Try.func6, Try.ntmps6
    go_wp2_with fail
    refine (HFI.out _ HX0).mono ?_
    rintro e w1 ⟨rfl, HX1⟩
    clear c0 c1 c2 c3
    obtain ⟨c0, c1, c2, c3⟩ := HX1.cells
    dsimp only at c1 c2
    go_wp2_with fail
    refine (HOK.out _ HX1).mono ?_
    rintro e w2 ⟨rfl, HX2⟩
    clear c0 c1 c2 c3
    obtain ⟨c0, c1, c2, c3⟩ := HX2.cells
    dsimp only at c1 c2
    go_wp2_with fail
    refine (HFD.out _ HX2).mono ?_
    rintro e w3 ⟨rfl, HX3⟩
    clear c0 c1 c2 c3
    obtain ⟨c0, c1, c2, c3⟩ := HX3.cells
    dsimp only at c1 c2
    go_wp2_with fail
    go_ret
    exact ⟨rfl, HX3.2⟩
  have e0 : ((p.ts.length : Int) == 0) = false := by rw [beq_eq_false_iff_ne]; omega
  obtain ⟨t, htk⟩ : ∃ t, p.ts[p.ts.length - 1]? = some t := ⟨_, List.getElem?_eq_getElem (by omega)⟩
  obtain ⟨ad, hA, _⟩ := hR.2.1.tr htk
  dsimp only at hA
  subst hA
  have HT := Lib.hid htk
  have q2 : (0 : Int) ≤ (p.ts.length : Int) - 1 := by omega
  have q3 : (p.ts.length : Int) - 1 < (p.ts.length : Int) := by omega
  have Q4 := Lib.hid (show ((p.ts.length : Int) - 1).toNat = p.ts.length - 1 by omega)
  by_cases hge : t.at_ ≤ sec
  · clear hf hk hR hok hoz htk
    unfold plA at *
    dsimp only at HFI HOK ⊢
    have HX0 := HB0
    go_enter Try.func6, Try.ntmps6
    go_wp2_with fail
    refine (HFI.out _ HX0).mono ?_
    rintro e w1 ⟨rfl, HX1⟩
    clear c0 c1 c2 c3
    obtain ⟨c0, c1, c2, c3⟩ := HX1.cells
    dsimp only at c1 c2
    go_wp2_with fail
    refine (HOK.out _ HX1).mono ?_
    rintro e w2 ⟨rfl, HX2⟩
    clear c0 c1 c2 c3
    obtain ⟨c0, c1, c2, c3⟩ := HX2.cells
    dsimp only at c1 c2
    obtain ⟨ad', hA, _, e1, e2⟩ := (HRH.out.2.1.below HX2.2 (Nat.le_refl _)).tr HT.out
    dsimp only at hA
    injection hA with hA
    subst hA
    have q4 := Q4.out
    go_wp2_with fail
    refine (HFD.out _ HX2).mono ?_
    rintro e w3 ⟨rfl, HX3⟩
    clear c0 c1 c2 c3
    obtain ⟨c0, c1, c2, c3⟩ := HX3.cells
    dsimp only at c1 c2
    go_wp2_with fail
    go_ret
    exact ⟨rfl, HX3.2⟩
  have hlt : sec < t.at_ := by omega
  have hcn : cntT p.ts sec ≠ p.ts.length := by
    intro h
    have := cnt_lt p.ts sec (p.ts.length - 1) t (by omega) htk
    omega
  have hfx := (fits2_all p hf).2.2.2.1
  have HL1 := fun g => look_in2 (p := p) (g := g) p ⟨rfl, rfl⟩ hR hf (by omega) hok sec
  have HL2 : ∀ g W, In2 w p ⟨A1, k1, some ad, k2⟩ g W → Calls Try.prog 17 #[.agg #[.string (S p.nm), .slice A1 p.zs.length k1, .slice (some ad) p.ts.length k2, .string ⟨#[]⟩], .int .i64 sec] W fun e W' => e = .returned (foA (lookF (bare p) sec)) ∧ In2 w p ⟨A1, k1, some ad, k2⟩ g W' := fun g => look_in2 (p := p) (g := g) (bare p) ⟨rfl, rfl⟩ hR hf (Nat.zero_le _) (bare_ok hok) sec
  have HL2 := Lib.hid HL2
  rw [lookF_bare p sec (.inl hcn)] at HL1
  have HL1 := Lib.hid HL1
  have HFD2 := Lib.hid (fun g => finds_in2 (w := w) (p := p) (a := ⟨A1, k1, some ad, k2⟩) (g := g))
  generalize lookF (bare p) sec = F at *
  clear hf hk hR hok hoz htk hcn hge hfx
  unfold plA at *
  dsimp only at HFI HOK HL1 ⊢
  have HX0 := HB0
  go_enter Try.func6, Try.ntmps6
  go_wp2_with fail
  refine (HFI.out _ HX0).mono ?_
  rintro e w1 ⟨rfl, HX1⟩
  clear c0 c1 c2 c3
  obtain ⟨c0, c1, c2, c3⟩ := HX1.cells
  dsimp only at c1 c2
  go_wp2_with fail
  refine (HOK.out _ HX1).mono ?_
  rintro e w2 ⟨rfl, HX2⟩
  clear c0 c1 c2 c3
  obtain ⟨c0, c1, c2, c3⟩ := HX2.cells
  dsimp only at c1 c2
  obtain ⟨ad', hA, _, e1, e2⟩ := (HRH.out.2.1.below HX2.2 (Nat.le_refl _)).tr HT.out
  dsimp only at hA
  injection hA with hA
  subst hA
  have q4 := Q4.out
  go_upto_region 8 with fail
  clear q4 e1 e2
  have HI : In2 w p ⟨A1, k1, some ad, k2⟩ w2.heap.size (w2.alloc (.cells #[.string (S p.nm), .slice A1 p.zs.length k1, .slice (some ad) p.ts.length k2, .string ⟨#[]⟩] 25)) := ⟨HX2.alloc _, Blk.new w2 _ _ _ rfl⟩
  clear c0 c1 c2 c3
  obtain ⟨⟨⟨c0, c1, c2, c3⟩, ⟨d0, d1, d2, d3⟩⟩, _⟩ := HI.all
  generalize w2.heap.size = g at *
  unfold foA at HL1 HL2
  go_region_held3 (fun w' => ((w'.cell? ⟨w.heap.size, 0, none⟩ = some (.string (S p.nm)) ∧ w'.cell? ⟨w.heap.size, 1, none⟩ = some (.slice A1 p.zs.length k1) ∧ w'.cell? ⟨w.heap.size, 2, none⟩ = some (.slice (some ad) p.ts.length k2) ∧ w'.cell? ⟨w.heap.size, 3, none⟩ = some (.string (S p.ext))) ∧
     (w'.cell? ⟨g, 0, none⟩ = some (.string (S p.nm)) ∧ w'.cell? ⟨g, 1, none⟩ = some (.slice A1 p.zs.length k1) ∧ w'.cell? ⟨g, 2, none⟩ = some (.slice (some ad) p.ts.length k2) ∧ w'.cell? ⟨g, 3, none⟩ = some (.string ⟨#[]⟩))) ∧ In2 w p ⟨A1, k1, some ad, k2⟩ g w')
    (first | ((refine In2.all (In2.drew ?_)); (with_reducible assumption)) | ((refine In2.all ?_); (with_reducible assumption)))
    (first | (go_at_call 17; ((with_reducible refine (HL1.out g _ ?_).mono ?_); (first | (with_reducible assumption) | ((with_reducible refine In2.drew ?_); (with_reducible assumption))); rintro e w' ⟨rfl, hB'⟩)) | (go_at_call 17; ((refine (HL2.out g _ ?_).mono ?_); (first | (with_reducible assumption) | ((with_reducible refine In2.drew ?_); (with_reducible assumption))); rintro e w' ⟨rfl, hB'⟩)) | (go_at_call 15; ((with_reducible refine (HFD2.out g _ ?_).mono ?_); (first | (with_reducible assumption) | ((with_reducible refine In2.drew ?_); (with_reducible assumption))); rintro e w' ⟨rfl, hB'⟩)))
  all_goals
    go_wp2_with fail
    go_ret
    exact ⟨rfl, hB'.1.2⟩

end Go.Proofs.Ytjcmbghhlloejaa
