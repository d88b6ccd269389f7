/- FnLookupExtend: its walk. -/
import Derived.Test.YtjgidakfpdmfdaaLawPD
import Derived.Test.YtjgidakfpdmfdaaSpecLook
import Derived.Test.YtjgidakfpdmfdaaImplTz
import Derived.Deep.DeepCutAuto
import Derived.IntWalk
namespace Go.Proofs.Ytjgidakfpdmfdaa
open Go.RowKit

theorem cnt_all {ts : List Tr} (ha : asc ts) (t : Tr) (ht : ts[ts.length - 1]? = some t) (sec : Int) (h : t.at_ ≤ sec) : cntT ts sec = ts.length := by
  have h1 := (cnt_iff ha sec _ t ht).2 h
  have h2 := cntT_le ts sec
  omega
theorem tz_in {w : World} {p : Pl} {a : Ad} (he : p.ext.length ≤ 4294967296) (last sec : Int) (x : Fo) (ok : Bool) (hx : tzFo last sec (tzA p.ext) = (x, ok)) (W : World) (h : InP w p a W) : Calls Try.prog 15 #[.string (S p.ext), .int .i64 last, .int .i64 sec] W fun e W' => e = .returned (.tuple #[foA x, .bool ok]) ∧ InP w p a W' ∧ Below W.heap.size W W' := by
  have := implTzset_ret p.ext he last sec W
  rw [hx] at this
  exact this.mono fun _ _ ⟨he, hb⟩ => ⟨he, h.below hb, hb⟩
theorem bare_in {w : World} {p : Pl} {a : Ad} (hR : PlIn w w.heap.size p a) (hf : fits2 p = true) (hok : plOk p) (sec : Int) (W : World) (h : InP w p a W) : Calls Try.prog 12 #[plA (bare p) a, .int .i64 sec] W fun e W' => e = .returned (foA (lookF (bare p) sec)) ∧ InP w p a W' ∧ Below W.heap.size W W' := by
  obtain ⟨_, hz, ht, _, _⟩ := fits2_all p hf
  have hR' : PlIn w w.heap.size (bare p) a := hR
  exact (implLookup_ret (bare p) a W w.heap.size h.2.size (hR'.below h.2 (Nat.le_refl _)) (by show (p.zs.length : Int) ≤ _; omega) (by show (p.ts.length : Int) ≤ _; omega) (.inr (bare_ok hok)) (Nat.zero_le _) sec).mono fun _ _ ⟨he, hb⟩ => ⟨he, h.below hb, hb⟩

set_option maxRecDepth 100000 in
set_option maxHeartbeats 16000000 in
theorem fnLookupExtend_walk (p : Pl) (a : Ad) (hrg : ∀ t ∈ p.ts, -9223372036854775808 ≤ t.at_ ∧ t.at_ ≤ 9223372036854775807) (more : Int) (w : World) (hR : PlIn w w.heap.size p a) : Calls Try.prog 7 #[plA p a, .int .i64 more] w fun e w' => e = .returned (.bool true) ∧ Below w.heap.size w w' := by
  obtain ⟨A1, k1, A2, k2⟩ := a
  have HB0 := InP.new w p ⟨A1, k1, A2, k2⟩
  obtain ⟨c0, c1, c2, c3⟩ := HB0.cells
  have HFI := fits_at hR
  have HFD := Lib.hid (finds_at (w := w) (p := p) (a := ⟨A1, k1, A2, k2⟩))
  dsimp only at c1 c2 HB0
  cases hf : fits2 p
  · rw [hf] at HFI
    have HFI := Lib.hid HFI
    unfold plA at *
    dsimp only at HFI ⊢
    clear hf hR
    go_enter Try.func7, Try.ntmps7
    go_wp2_with fail
    refine (HFI.out _ HB0).mono ?_
    rintro e w1 ⟨rfl, HX1⟩
    go_wp2_with fail
    go_ret
    exact ⟨rfl, HX1.2⟩
  rw [hf] at HFI
  have HFI := Lib.hid HFI
  have HOK := ok_at hR hf
  cases hk : plOkB p
  · rw [hk] at HOK
    have HOK := Lib.hid HOK
    unfold plA at *
    dsimp only at HFI HOK ⊢
    clear hf hk hR
    have HX0 := HB0
    go_enter Try.func7, Try.ntmps7
    go_wp2_with fail
    refine (HFI.out _ HX0).mono ?_
    rintro e w1 ⟨rfl, HX1⟩
    clear c0 c1 c2 c3
    obtain ⟨c0, c1, c2, c3⟩ := HX1.cells
    dsimp only at c1 c2
    go_wp2_with fail
    refine (HOK.out _ HX1).mono ?_
    rintro e w2 ⟨rfl, HX2⟩
    clear c0 c1 c2 c3
    obtain ⟨c0, c1, c2, c3⟩ := HX2.cells
    dsimp only at c1 c2
    go_wp2_with fail
    refine (HFD.out _ HX2).mono ?_
    rintro e w3 ⟨rfl, HX3⟩
    clear c0 c1 c2 c3
    obtain ⟨c0, c1, c2, c3⟩ := HX3.cells
    dsimp only at c1 c2
    go_wp2_with fail
    go_ret
    exact ⟨rfl, HX3.2⟩
  rw [hk] at HOK
  have HOK := Lib.hid HOK
  have hok := (plOkB_iff p).1 hk
  have hoz := hok.2.2.1
  have hot := hok.2.2.2
  have HRH := Lib.hid hR
  by_cases hts : p.ts.length = 0
  · have e0 : ((p.ts.length : Int) == 0) = true := by rw [hts]; rfl
    clear hf hk hR hok hts hoz hot hrg
    unfold plA at *
    dsimp only at HFI HOK ⊢
    have HX0 := HB0
    go_enter Try.func7, Try.ntmps7
    go_wp2_with fail
    refine (HFI.out _ HX0).mono ?_
    rintro e w1 ⟨rfl, HX1⟩
    clear c0 c1 c2 c3
    obtain ⟨c0, c1, c2, c3⟩ := HX1.cells
    dsimp only at c1 c2
    go_wp2_with fail
    refine (HOK.out _ HX1).mono ?_
    rintro e w2 ⟨rfl, HX2⟩
    clear c0 c1 c2 c3
    obtain ⟨c0, c1, c2, c3⟩ := HX2.cells
    dsimp only at c1 c2
    go_wp2_with fail
    refine (HFD.out _ HX2).mono ?_
    rintro e w3 ⟨rfl, HX3⟩
    clear c0 c1 c2 c3
    obtain ⟨c0, c1, c2, c3⟩ := HX3.cells
    dsimp only at c1 c2
    go_wp2_with fail
    go_ret
    exact ⟨rfl, HX3.2⟩
  have e0 : ((p.ts.length : Int) == 0) = false := by rw [beq_eq_false_iff_ne]; omega
  by_cases hm0 : more < 0
  · have hm0' : decide (more < 0) = true := decide_eq_true hm0
    clear hf hk hR hok hts hoz hot hrg hm0
    unfold plA at *
    dsimp only at HFI HOK ⊢
    have HX0 := HB0
    go_enter Try.func7, Try.ntmps7
    go_wp2_with fail
    refine (HFI.out _ HX0).mono ?_
    rintro e w1 ⟨rfl, HX1⟩
    clear c0 c1 c2 c3
    obtain ⟨c0, c1, c2, c3⟩ := HX1.cells
    dsimp only at c1 c2
    go_wp2_with fail
    refine (HOK.out _ HX1).mono ?_
    rintro e w2 ⟨rfl, HX2⟩
    clear c0 c1 c2 c3
    obtain ⟨c0, c1, c2, c3⟩ := HX2.cells
    dsimp only at c1 c2
    go_wp2_with fail
    refine (HFD.out _ HX2).mono ?_
    rintro e w3 ⟨rfl, HX3⟩
    clear c0 c1 c2 c3
    obtain ⟨c0, c1, c2, c3⟩ := HX3.cells
    dsimp only at c1 c2
    go_wp2_with fail
    go_ret
    exact ⟨rfl, HX3.2⟩
  have hm0' : decide (more < 0) = false := decide_eq_false hm0
  obtain ⟨t, htk⟩ : ∃ t, p.ts[p.ts.length - 1]? = some t := ⟨_, List.getElem?_eq_getElem (by omega)⟩
  obtain ⟨ad, hA, _⟩ := hR.2.1.tr htk
  dsimp only at hA
  subst hA
  have hta := hrg t (List.mem_of_getElem? htk)
  have HT := Lib.hid htk
  have q2 : (0 : Int) ≤ (p.ts.length : Int) - 1 := by omega
  have q3 : (p.ts.length : Int) - 1 < (p.ts.length : Int) := by omega
  have Q4 := Lib.hid (show ((p.ts.length : Int) - 1).toNat = p.ts.length - 1 by omega)
  by_cases hl : 253402300799 < t.at_
  · have hl' : decide (253402300799 < t.at_) = true := decide_eq_true hl
    clear hf hk hR hok hts hoz hrg hm0 hl htk
    unfold plA at *
    dsimp only at HFI HOK ⊢
    have HX0 := HB0
    go_enter Try.func7, Try.ntmps7
    go_wp2_with fail
    refine (HFI.out _ HX0).mono ?_
    rintro e w1 ⟨rfl, HX1⟩
    clear c0 c1 c2 c3
    obtain ⟨c0, c1, c2, c3⟩ := HX1.cells
    dsimp only at c1 c2
    go_wp2_with fail
    refine (HOK.out _ HX1).mono ?_
    rintro e w2 ⟨rfl, HX2⟩
    clear c0 c1 c2 c3
    obtain ⟨c0, c1, c2, c3⟩ := HX2.cells
    dsimp only at c1 c2
    obtain ⟨ad', hA, _, e1, e2⟩ := (HRH.out.2.1.below HX2.2 (Nat.le_refl _)).tr HT.out
    dsimp only at hA
    injection hA with hA
    subst hA
    have q4 := Q4.out
    go_wp2_with fail
    refine (HFD.out _ HX2).mono ?_
    rintro e w3 ⟨rfl, HX3⟩
    clear c0 c1 c2 c3
    obtain ⟨c0, c1, c2, c3⟩ := HX3.cells
    dsimp only at c1 c2
    go_wp2_with fail
    go_ret
    exact ⟨rfl, HX3.2⟩
  have hl' : decide (253402300799 < t.at_) = false := decide_eq_false hl
  by_cases hm1 : 253402300799 < more
  · have hm1' : decide (253402300799 < more) = true := decide_eq_true hm1
    clear hf hk hR hok hts hoz hrg hm0 hl htk hm1
    unfold plA at *
    dsimp only at HFI HOK ⊢
    have HX0 := HB0
    go_enter Try.func7, Try.ntmps7
    go_wp2_with fail
    refine (HFI.out _ HX0).mono ?_
    rintro e w1 ⟨rfl, HX1⟩
    clear c0 c1 c2 c3
    obtain ⟨c0, c1, c2, c3⟩ := HX1.cells
    dsimp only at c1 c2
    go_wp2_with fail
    refine (HOK.out _ HX1).mono ?_
    rintro e w2 ⟨rfl, HX2⟩
    clear c0 c1 c2 c3
    obtain ⟨c0, c1, c2, c3⟩ := HX2.cells
    dsimp only at c1 c2
    obtain ⟨ad', hA, _, e1, e2⟩ := (HRH.out.2.1.below HX2.2 (Nat.le_refl _)).tr HT.out
    dsimp only at hA
    injection hA with hA
    subst hA
    have q4 := Q4.out
    go_wp2_with fail
    refine (HFD.out _ HX2).mono ?_
    rintro e w3 ⟨rfl, HX3⟩
    clear c0 c1 c2 c3
    obtain ⟨c0, c1, c2, c3⟩ := HX3.cells
    dsimp only at c1 c2
    go_wp2_with fail
    go_ret
    exact ⟨rfl, HX3.2⟩
  have hm1' : decide (253402300799 < more) = false := decide_eq_false hm1
  have hfx := (fits2_all p hf).2.2.2.1
  have hcn : cntT p.ts (t.at_ + more) = p.ts.length := cnt_all (asc_of hok) t htk _ (by omega)
  obtain ⟨x, ok, hx⟩ : ∃ x ok, tzFo t.at_ (t.at_ + more) (tzA p.ext) = (x, ok) := ⟨_, _, rfl⟩
  have HTZ := Lib.hid (fun W => tz_in (w := w) (p := p) (a := ⟨A1, k1, some ad, k2⟩) (by omega) t.at_ (t.at_ + more) x ok hx W)
  have HLB := bare_in hR hf hok (t.at_ + more)
  have HLO := Lib.hid (fun g F => look_inF (g := g) (F := F) hR hf hok (t.at_ + more))
  have HLX : p.ext = [] → lookF (bare p) (t.at_ + more) = lookF p (t.at_ + more) := fun h => (lookF_bare p _ (.inr h)).symm
  have HLY : p.ext ≠ [] → lookF p (t.at_ + more) = if ok then x else lookF (bare p) (t.at_ + more) := fun h => by
    rw [lookF_ext p (t.at_ + more) (p.ts.length - 1) t (fun h => by rw [h] at hoz; simp at hoz) htk (by omega) (by omega) h x ok hx, lookF_mid (bare p) _ (.inr rfl)]
    rfl
  have hlim : p.ts.length ≤ 1000 := hot
  clear hx
  have hcs : (p.ext.isEmpty = true ∧ Hid (lookF (bare p) (t.at_ + more) = lookF p (t.at_ + more))) ∨ (p.ext.isEmpty = false ∧ ok = false ∧ Hid (lookF (bare p) (t.at_ + more) = lookF p (t.at_ + more))) ∨ (p.ext.isEmpty = false ∧ ok = true ∧ Hid (x = lookF p (t.at_ + more))) := by
    cases hemp : p.ext.isEmpty
    · right
      have hne : p.ext ≠ [] := by intro h; rw [h] at hemp; cases hemp
      have h := HLY hne
      cases ok
      · left; exact ⟨rfl, rfl, h.symm⟩
      · right; exact ⟨rfl, rfl, h.symm⟩
    · left
      refine ⟨rfl, HLX ?_⟩
      cases h : p.ext with
      | nil => rfl
      | cons c l => rw [h] at hemp; cases hemp
  have hb0 : -9223372036854775808 ≤ t.at_ + more := by omega
  have hb1 : t.at_ + more ≤ 9223372036854775807 := by omega
  clear hf hk hR hok hts hoz hot hrg htk hfx hcn HLX HLY hm0 hl hm1 hta
  unfold plA bare at *
  dsimp only at HFI HOK HTZ HLB HLO hcs ⊢
  rcases hcs with ⟨hemp, HE⟩ | ⟨hemp, rfl, HE⟩ | ⟨hemp, rfl, HE⟩
  · rw [HE.out] at HLB
    clear HE
    generalize lookF p (t.at_ + more) = F at *
    have HLB2 : ∀ W, InP w p ⟨A1, k1, some ad, k2⟩ W → Calls Try.prog 12 #[.agg #[.string (S p.nm), .slice A1 p.zs.length k1, .slice (some ad) p.ts.length k2, .string ⟨#[]⟩], .int .i64 (t.at_ + more)] W fun e W' => e = .returned (foA F) ∧ InP w p ⟨A1, k1, some ad, k2⟩ W' ∧ Below W.heap.size W W' := HLB
    clear HLB
    unfold foA at HLB2
    have HLB := Lib.hid HLB2
    clear HLB2
    have HX0 := HB0
    go_enter Try.func7, Try.ntmps7
    go_wp2_with fail
    refine (HFI.out _ HX0).mono ?_
    rintro e w1 ⟨rfl, HX1⟩
    clear c0 c1 c2 c3
    obtain ⟨c0, c1, c2, c3⟩ := HX1.cells
    dsimp only at c1 c2
    go_wp2_with fail
    refine (HOK.out _ HX1).mono ?_
    rintro e w2 ⟨rfl, HX2⟩
    clear c0 c1 c2 c3
    obtain ⟨c0, c1, c2, c3⟩ := HX2.cells
    dsimp only at c1 c2
    obtain ⟨ad', hA, _, e1, e2⟩ := (HRH.out.2.1.below HX2.2 (Nat.le_refl _)).tr HT.out
    dsimp only at hA
    injection hA with hA
    subst hA
    have q4 := Q4.out
    go_wp2_with fail
    refine (HTZ.out _ HX2).mono ?_
    rintro e w3 ⟨rfl, HX3, hb3⟩
    unfold foA
    clear c0 c1 c2 c3
    obtain ⟨c0, c1, c2, c3⟩ := HX3.cells
    dsimp only at c1 c2
    have hlt0 := HX3.1.lt
    have hne : w.heap.size ≠ w3.heap.size := by omega
    go_wp2_with fail
    refine (HLB.out _ ((HX3.alloc _).alloc _)).mono ?_
    rintro e w4 ⟨rfl, HX4, hb4⟩
    have BF : Blk w4 w3.heap.size 34 #[.string (S x.nm), .int .i64 x.off, .int .i64 x.st, .int .i64 x.en, .bool x.dst] := ((Blk.new w3 _ _ _ rfl).alloc _).keep hb4
    obtain ⟨d0, d1, d2, d3, d4, df⟩ := BF.five
    have hlt := BF.lt
    have hsz4 := hb4.size
    clear hb4 e1 e2
    clear c0 c1 c2 c3
    obtain ⟨c0, c1, c2, c3⟩ := HX4.cells
    dsimp only at c1 c2
    go_upto_region 12 with fail
    have HI : InPF w p ⟨A1, k1, some ad, k2⟩ w3.heap.size F (((((w4.setCell ⟨w3.heap.size, 0, none⟩ (.string (S F.nm))).setCell ⟨w3.heap.size, 1, none⟩ (.int .i64 F.off)).setCell ⟨w3.heap.size, 2, none⟩ (.int .i64 F.st)).setCell ⟨w3.heap.size, 3, none⟩ (.int .i64 F.en)).setCell ⟨w3.heap.size, 4, none⟩ (.bool F.dst)) :=
      ⟨((((HX4.set _ hlt0 _).set _ hlt0 _).set _ hlt0 _).set _ hlt0 _).set _ hlt0 _, ((((BF.set 0 _).set 1 _).set 2 _).set 3 _).set 4 _⟩
    generalize ((((w4.setCell ⟨w3.heap.size, 0, none⟩ (.string (S F.nm))).setCell ⟨w3.heap.size, 1, none⟩ (.int .i64 F.off)).setCell ⟨w3.heap.size, 2, none⟩ (.int .i64 F.st)).setCell ⟨w3.heap.size, 3, none⟩ (.int .i64 F.en)).setCell ⟨w3.heap.size, 4, none⟩ (.bool F.dst) = W5 at *
    clear c0 c1 c2 c3 d0 d1 d2 d3 d4 df BF HX4 hlt hsz4
    clear HX0 HX1 HX2 HX3 HB0 hb3 hlt0 hne
    generalize w3.heap.size = g at *
    obtain ⟨⟨⟨c0, c1, c2, c3⟩, ⟨d0, d1, d2, d3, d4⟩⟩, _⟩ := HI.all
    have HLO3 := Lib.hid (HLO.out g F)
    unfold foA at HLO3
    have HFD2 := Lib.hid (finds_inF (w := w) (p := p) (a := ⟨A1, k1, some ad, k2⟩) (g := g) (F := F))
    have hwr : IntKind.i64.wrap (t.at_ + more) = t.at_ + more := IntWalk.i64_in _ (by omega)
    clear HLO HTZ HFD HFI HOK HRH
    go_region_held3 (fun w' => ((w'.cell? ⟨w.heap.size, 0, none⟩ = some (.string (S p.nm)) ∧ w'.cell? ⟨w.heap.size, 1, none⟩ = some (.slice A1 p.zs.length k1) ∧ w'.cell? ⟨w.heap.size, 2, none⟩ = some (.slice (some ad) p.ts.length k2) ∧ w'.cell? ⟨w.heap.size, 3, none⟩ = some (.string (S p.ext))) ∧ (w'.cell? ⟨g, 0, none⟩ = some (.string (S F.nm)) ∧ w'.cell? ⟨g, 1, none⟩ = some (.int .i64 F.off) ∧ w'.cell? ⟨g, 2, none⟩ = some (.int .i64 F.st) ∧ w'.cell? ⟨g, 3, none⟩ = some (.int .i64 F.en) ∧ w'.cell? ⟨g, 4, none⟩ = some (.bool F.dst))) ∧ InPF w p ⟨A1, k1, some ad, k2⟩ g F w')
      (first | ((refine InPF.all (InPF.drew ?_)); (with_reducible assumption)) | ((refine InPF.all ?_); (with_reducible assumption)))
      (first | (go_at_call 12; ((with_reducible refine (HLO3.out _ ?_).mono ?_); (first | (with_reducible assumption) | ((with_reducible refine InPF.drew ?_); (with_reducible assumption))); rintro e w' ⟨rfl, hB'⟩)) | (go_at_call 10; ((with_reducible refine (HFD2.out _ ?_).mono ?_); (first | (with_reducible assumption) | ((with_reducible refine InPF.drew ?_); (with_reducible assumption))); rintro e w' ⟨rfl, hB'⟩)))
    all_goals
      go_wp2_with fail
      go_ret
      exact ⟨rfl, hB'.1.2⟩
  · rw [HE.out] at HLB
    clear HE
    generalize lookF p (t.at_ + more) = F at *
    have HLB2 : ∀ W, InP w p ⟨A1, k1, some ad, k2⟩ W → Calls Try.prog 12 #[.agg #[.string (S p.nm), .slice A1 p.zs.length k1, .slice (some ad) p.ts.length k2, .string ⟨#[]⟩], .int .i64 (t.at_ + more)] W fun e W' => e = .returned (foA F) ∧ InP w p ⟨A1, k1, some ad, k2⟩ W' ∧ Below W.heap.size W W' := HLB
    clear HLB
    unfold foA at HLB2
    have HLB := Lib.hid HLB2
    clear HLB2
    have HX0 := HB0
    go_enter Try.func7, Try.ntmps7
    go_wp2_with fail
    refine (HFI.out _ HX0).mono ?_
    rintro e w1 ⟨rfl, HX1⟩
    clear c0 c1 c2 c3
    obtain ⟨c0, c1, c2, c3⟩ := HX1.cells
    dsimp only at c1 c2
    go_wp2_with fail
    refine (HOK.out _ HX1).mono ?_
    rintro e w2 ⟨rfl, HX2⟩
    clear c0 c1 c2 c3
    obtain ⟨c0, c1, c2, c3⟩ := HX2.cells
    dsimp only at c1 c2
    obtain ⟨ad', hA, _, e1, e2⟩ := (HRH.out.2.1.below HX2.2 (Nat.le_refl _)).tr HT.out
    dsimp only at hA
    injection hA with hA
    subst hA
    have q4 := Q4.out
    go_wp2_with fail
    refine (HTZ.out _ HX2).mono ?_
    rintro e w3 ⟨rfl, HX3, hb3⟩
    unfold foA
    clear c0 c1 c2 c3
    obtain ⟨c0, c1, c2, c3⟩ := HX3.cells
    dsimp only at c1 c2
    have hlt0 := HX3.1.lt
    have hne : w.heap.size ≠ w3.heap.size := by omega
    go_wp2_with fail
    refine (HLB.out _ ((HX3.alloc _).alloc _)).mono ?_
    rintro e w4 ⟨rfl, HX4, hb4⟩
    have BF : Blk w4 w3.heap.size 34 #[.string (S x.nm), .int .i64 x.off, .int .i64 x.st, .int .i64 x.en, .bool x.dst] := ((Blk.new w3 _ _ _ rfl).alloc _).keep hb4
    obtain ⟨d0, d1, d2, d3, d4, df⟩ := BF.five
    have hlt := BF.lt
    have hsz4 := hb4.size
    clear hb4 e1 e2
    clear c0 c1 c2 c3
    obtain ⟨c0, c1, c2, c3⟩ := HX4.cells
    dsimp only at c1 c2
    go_upto_region 12 with fail
    have HI : InPF w p ⟨A1, k1, some ad, k2⟩ w3.heap.size F (((((w4.setCell ⟨w3.heap.size, 0, none⟩ (.string (S F.nm))).setCell ⟨w3.heap.size, 1, none⟩ (.int .i64 F.off)).setCell ⟨w3.heap.size, 2, none⟩ (.int .i64 F.st)).setCell ⟨w3.heap.size, 3, none⟩ (.int .i64 F.en)).setCell ⟨w3.heap.size, 4, none⟩ (.bool F.dst)) :=
      ⟨((((HX4.set _ hlt0 _).set _ hlt0 _).set _ hlt0 _).set _ hlt0 _).set _ hlt0 _, ((((BF.set 0 _).set 1 _).set 2 _).set 3 _).set 4 _⟩
    generalize ((((w4.setCell ⟨w3.heap.size, 0, none⟩ (.string (S F.nm))).setCell ⟨w3.heap.size, 1, none⟩ (.int .i64 F.off)).setCell ⟨w3.heap.size, 2, none⟩ (.int .i64 F.st)).setCell ⟨w3.heap.size, 3, none⟩ (.int .i64 F.en)).setCell ⟨w3.heap.size, 4, none⟩ (.bool F.dst) = W5 at *
    clear c0 c1 c2 c3 d0 d1 d2 d3 d4 df BF HX4 hlt hsz4
    clear HX0 HX1 HX2 HX3 HB0 hb3 hlt0 hne
    generalize w3.heap.size = g at *
    obtain ⟨⟨⟨c0, c1, c2, c3⟩, ⟨d0, d1, d2, d3, d4⟩⟩, _⟩ := HI.all
    have HLO3 := Lib.hid (HLO.out g F)
    unfold foA at HLO3
    have HFD2 := Lib.hid (finds_inF (w := w) (p := p) (a := ⟨A1, k1, some ad, k2⟩) (g := g) (F := F))
    have hwr : IntKind.i64.wrap (t.at_ + more) = t.at_ + more := IntWalk.i64_in _ (by omega)
    clear HLO HTZ HFD HFI HOK HRH
    go_region_held3 (fun w' => ((w'.cell? ⟨w.heap.size, 0, none⟩ = some (.string (S p.nm)) ∧ w'.cell? ⟨w.heap.size, 1, none⟩ = some (.slice A1 p.zs.length k1) ∧ w'.cell? ⟨w.heap.size, 2, none⟩ = some (.slice (some ad) p.ts.length k2) ∧ w'.cell? ⟨w.heap.size, 3, none⟩ = some (.string (S p.ext))) ∧ (w'.cell? ⟨g, 0, none⟩ = some (.string (S F.nm)) ∧ w'.cell? ⟨g, 1, none⟩ = some (.int .i64 F.off) ∧ w'.cell? ⟨g, 2, none⟩ = some (.int .i64 F.st) ∧ w'.cell? ⟨g, 3, none⟩ = some (.int .i64 F.en) ∧ w'.cell? ⟨g, 4, none⟩ = some (.bool F.dst))) ∧ InPF w p ⟨A1, k1, some ad, k2⟩ g F w')
      (first | ((refine InPF.all (InPF.drew ?_)); (with_reducible assumption)) | ((refine InPF.all ?_); (with_reducible assumption)))
      (first | (go_at_call 12; ((with_reducible refine (HLO3.out _ ?_).mono ?_); (first | (with_reducible assumption) | ((with_reducible refine InPF.drew ?_); (with_reducible assumption))); rintro e w' ⟨rfl, hB'⟩)) | (go_at_call 10; ((with_reducible refine (HFD2.out _ ?_).mono ?_); (first | (with_reducible assumption) | ((with_reducible refine InPF.drew ?_); (with_reducible assumption))); rintro e w' ⟨rfl, hB'⟩)))
    all_goals
      go_wp2_with fail
      go_ret
      exact ⟨rfl, hB'.1.2⟩
  · have HE2 := HE.out
    subst HE2
    clear HE HLB
    generalize lookF p (t.at_ + more) = F at *
    have HX0 := HB0
    go_enter Try.func7, Try.ntmps7
    go_wp2_with fail
    refine (HFI.out _ HX0).mono ?_
    rintro e w1 ⟨rfl, HX1⟩
    clear c0 c1 c2 c3
    obtain ⟨c0, c1, c2, c3⟩ := HX1.cells
    dsimp only at c1 c2
    go_wp2_with fail
    refine (HOK.out _ HX1).mono ?_
    rintro e w2 ⟨rfl, HX2⟩
    clear c0 c1 c2 c3
    obtain ⟨c0, c1, c2, c3⟩ := HX2.cells
    dsimp only at c1 c2
    obtain ⟨ad', hA, _, e1, e2⟩ := (HRH.out.2.1.below HX2.2 (Nat.le_refl _)).tr HT.out
    dsimp only at hA
    injection hA with hA
    subst hA
    have q4 := Q4.out
    go_wp2_with fail
    refine (HTZ.out _ HX2).mono ?_
    rintro e w3 ⟨rfl, HX3, hb3⟩
    unfold foA
    clear c0 c1 c2 c3
    obtain ⟨c0, c1, c2, c3⟩ := HX3.cells
    dsimp only at c1 c2
    have hlt0 := HX3.1.lt
    have hne : w.heap.size ≠ w3.heap.size := by omega
    go_upto_region 12 with fail
    have HI : InPF w p ⟨A1, k1, some ad, k2⟩ w3.heap.size F (w3.alloc (.cells #[.string (S F.nm), .int .i64 F.off, .int .i64 F.st, .int .i64 F.en, .bool F.dst] 34)) := ⟨HX3.alloc _, Blk.new w3 _ _ _ rfl⟩
    generalize w3.alloc (.cells #[.string (S F.nm), .int .i64 F.off, .int .i64 F.st, .int .i64 F.en, .bool F.dst] 34) = W5 at *
    clear c0 c1 c2 c3
    clear HX0 HX1 HX2 HX3 HB0 hb3 hlt0 hne
    generalize w3.heap.size = g at *
    obtain ⟨⟨⟨c0, c1, c2, c3⟩, ⟨d0, d1, d2, d3, d4⟩⟩, _⟩ := HI.all
    have HLO3 := Lib.hid (HLO.out g F)
    unfold foA at HLO3
    have HFD2 := Lib.hid (finds_inF (w := w) (p := p) (a := ⟨A1, k1, some ad, k2⟩) (g := g) (F := F))
    have hwr : IntKind.i64.wrap (t.at_ + more) = t.at_ + more := IntWalk.i64_in _ (by omega)
    clear HLO HTZ HFD HFI HOK HRH
    go_region_held3 (fun w' => ((w'.cell? ⟨w.heap.size, 0, none⟩ = some (.string (S p.nm)) ∧ w'.cell? ⟨w.heap.size, 1, none⟩ = some (.slice A1 p.zs.length k1) ∧ w'.cell? ⟨w.heap.size, 2, none⟩ = some (.slice (some ad) p.ts.length k2) ∧ w'.cell? ⟨w.heap.size, 3, none⟩ = some (.string (S p.ext))) ∧ (w'.cell? ⟨g, 0, none⟩ = some (.string (S F.nm)) ∧ w'.cell? ⟨g, 1, none⟩ = some (.int .i64 F.off) ∧ w'.cell? ⟨g, 2, none⟩ = some (.int .i64 F.st) ∧ w'.cell? ⟨g, 3, none⟩ = some (.int .i64 F.en) ∧ w'.cell? ⟨g, 4, none⟩ = some (.bool F.dst))) ∧ InPF w p ⟨A1, k1, some ad, k2⟩ g F w')
      (first | ((refine InPF.all (InPF.drew ?_)); (with_reducible assumption)) | ((refine InPF.all ?_); (with_reducible assumption)))
      (first | (go_at_call 12; ((with_reducible refine (HLO3.out _ ?_).mono ?_); (first | (with_reducible assumption) | ((with_reducible refine InPF.drew ?_); (with_reducible assumption))); rintro e w' ⟨rfl, hB'⟩)) | (go_at_call 10; ((with_reducible refine (HFD2.out _ ?_).mono ?_); (first | (with_reducible assumption) | ((with_reducible refine InPF.drew ?_); (with_reducible assumption))); rintro e w' ⟨rfl, hB'⟩)))
    all_goals
      go_wp2_with fail
      go_ret
      exact ⟨rfl, hB'.1.2⟩
end Go.Proofs.Ytjgidakfpdmfdaa
