/- FnLookupBetween: its walk. -/
import Derived.Test.YtjgidakfpdmfdaaLawPW
import Derived.Test.YtjgidakfpdmfdaaPlB
import Derived.Deep.DeepCutAuto
import Derived.Deep.RegionWith
namespace Go.Proofs.Ytjgidakfpdmfdaa
open Go.RowKit

/-- the box of a place and that of an answer -/
def InPF (w : World) (p : Pl) (a : Ad) (g : Nat) (F : Fo) (W : World) : Prop := InP w p a W ∧ Blk W g 34 #[.string (S F.nm), .int .i64 F.off, .int .i64 F.st, .int .i64 F.en, .bool F.dst]
theorem InPF.drew {w W : World} {p : Pl} {a : Ad} {g : Nat} {F : Fo} (h : InPF w p a g F W) : InPF w p a g F W.drew := ⟨h.1.drew, h.2⟩
theorem InPF.below {w W W' : World} {p : Pl} {a : Ad} {g : Nat} {F : Fo} (h : InPF w p a g F W) (hb : Below W.heap.size W W') : InPF w p a g F W' := ⟨h.1.below hb, h.2.keep hb⟩
theorem InPF.all {w W : World} {p : Pl} {A1 A2 : Option Addr} {k1 k2 g : Nat} {F : Fo} (h : InPF w p ⟨A1, k1, A2, k2⟩ g F W) : ((W.cell? ⟨w.heap.size, 0, none⟩ = some (.string (S p.nm)) ∧ W.cell? ⟨w.heap.size, 1, none⟩ = some (.slice A1 p.zs.length k1) ∧ W.cell? ⟨w.heap.size, 2, none⟩ = some (.slice A2 p.ts.length k2) ∧ W.cell? ⟨w.heap.size, 3, none⟩ = some (.string (S p.ext))) ∧ (W.cell? ⟨g, 0, none⟩ = some (.string (S F.nm)) ∧ W.cell? ⟨g, 1, none⟩ = some (.int .i64 F.off) ∧ W.cell? ⟨g, 2, none⟩ = some (.int .i64 F.st) ∧ W.cell? ⟨g, 3, none⟩ = some (.int .i64 F.en) ∧ W.cell? ⟨g, 4, none⟩ = some (.bool F.dst))) ∧ InPF w p ⟨A1, k1, A2, k2⟩ g F W :=
  ⟨⟨h.1.cells, h.2.cell 0, h.2.cell 1, h.2.cell 2, h.2.cell 3, h.2.cell 4⟩, h⟩
theorem look_inF {w : World} {p : Pl} {a : Ad} {g : Nat} {F : Fo} (hR : PlIn w w.heap.size p a) (hf : fits2 p = true) (hok : plOk p) (sec : Int) (W : World) (h : InPF w p a g F W) : Calls Try.prog 12 #[plA p a, .int .i64 sec] W fun e W' => e = .returned (foA (lookF p sec)) ∧ InPF w p a g F W' := by
  obtain ⟨_, hz, ht, he, _⟩ := fits2_all p hf
  exact (implLookup_ret p a W w.heap.size h.1.2.size (hR.below h.1.2 (Nat.le_refl _)) (by omega) (by omega) (.inr hok) (by omega) sec).mono fun _ _ ⟨he, hb⟩ => ⟨he, h.below hb⟩
theorem finds_inF {w : World} {p : Pl} {a : Ad} {g : Nat} {F : Fo} (W : World) (h : InPF w p a g F W) : Calls Try.prog 10 #[] W fun e W' => e = .returned (.bool true) ∧ InPF w p a g F W' :=
  (finds_ret W).mono fun _ _ ⟨he, hb⟩ => ⟨he, h.below hb⟩

set_option maxRecDepth 100000 in
set_option maxHeartbeats 16000000 in
theorem fnLookupBetween_walk (p : Pl) (a : Ad) (sec : Int) (hs0 : -9223372036854775808 ≤ sec ∧ sec ≤ 9223372036854775807) (other : Int) (w : World) (hR : PlIn w w.heap.size p a) : Calls Try.prog 5 #[plA p a, .int .i64 sec, .int .i64 other] w fun e w' => e = .returned (.bool true) ∧ Below w.heap.size w w' := by
  have hs := hs0.1
  clear hs0
  obtain ⟨A1, k1, A2, k2⟩ := a
  have HB0 := InP.new w p ⟨A1, k1, A2, k2⟩
  obtain ⟨c0, c1, c2, c3⟩ := HB0.cells
  have HFI := fits_at hR
  have HFD := Lib.hid (finds_at (w := w) (p := p) (a := ⟨A1, k1, A2, k2⟩))
  dsimp only at c1 c2 HB0
  cases hf : fits2 p
  · rw [hf] at HFI
    have HFI := Lib.hid HFI
    unfold plA at *
    dsimp only at HFI ⊢
    clear hf hR
    go_enter Try.func5, Try.ntmps5
    go_wp2_with fail
    refine (HFI.out _ HB0).mono ?_
    rintro e w1 ⟨rfl, HX1⟩
    go_wp2_with fail
    go_ret
    exact ⟨rfl, HX1.2⟩
  rw [hf] at HFI
  have HFI := Lib.hid HFI
  have HOK := ok_at hR hf
  cases hk : plOkB p
  · rw [hk] at HOK
    have HOK := Lib.hid HOK
    unfold plA at *
    dsimp only at HFI HOK ⊢
    clear hf hk hR
    have HX0 := HB0
    go_enter Try.func5, Try.ntmps5
    go_wp2_with fail
    refine (HFI.out _ HX0).mono ?_
    rintro e w1 ⟨rfl, HX1⟩
    clear c0 c1 c2 c3
    obtain ⟨c0, c1, c2, c3⟩ := HX1.cells
    dsimp only at c1 c2
    go_wp2_with fail
    refine (HOK.out _ HX1).mono ?_
    rintro e w2 ⟨rfl, HX2⟩
    clear c0 c1 c2 c3
    obtain ⟨c0, c1, c2, c3⟩ := HX2.cells
    dsimp only at c1 c2
    go_wp2_with fail
    refine (HFD.out _ HX2).mono ?_
    rintro e w3 ⟨rfl, HX3⟩
    clear c0 c1 c2 c3
    obtain ⟨c0, c1, c2, c3⟩ := HX3.cells
    dsimp only at c1 c2
    go_wp2_with fail
    go_ret
    exact ⟨rfl, HX3.2⟩
  rw [hk] at HOK
  have HOK := Lib.hid HOK
  have hok := (plOkB_iff p).1 hk
  have hoz := hok.2.2.1
  have hot := hok.2.2.2
  have HRH := Lib.hid hR
  cases hemp : p.ext.isEmpty
  · clear hf hk hR hok hoz hot
    unfold plA at *
    dsimp only at HFI HOK ⊢
    have HX0 := HB0
    go_enter Try.func5, Try.ntmps5
    go_wp2_with fail
    refine (HFI.out _ HX0).mono ?_
    rintro e w1 ⟨rfl, HX1⟩
    clear c0 c1 c2 c3
    obtain ⟨c0, c1, c2, c3⟩ := HX1.cells
    dsimp only at c1 c2
    go_wp2_with fail
    refine (HOK.out _ HX1).mono ?_
    rintro e w2 ⟨rfl, HX2⟩
    clear c0 c1 c2 c3
    obtain ⟨c0, c1, c2, c3⟩ := HX2.cells
    dsimp only at c1 c2
    go_wp2_with fail
    refine (HFD.out _ HX2).mono ?_
    rintro e w3 ⟨rfl, HX3⟩
    clear c0 c1 c2 c3
    obtain ⟨c0, c1, c2, c3⟩ := HX3.cells
    dsimp only at c1 c2
    go_wp2_with fail
    go_ret
    exact ⟨rfl, HX3.2⟩
  have hex : p.ext = [] := by cases h : p.ext with
    | nil => rfl
    | cons c l => rw [h] at hemp; cases hemp
  have hzn : p.zs ≠ [] := by intro h; rw [h] at hoz; simp at hoz
  have HL := look_in hR hf hok sec
  rw [lookF_mid p sec (.inr hex)] at HL
  have hst := plainF_st p sec hzn hs
  have hen : sec < (plainF p sec).en ∨ (plainF p sec).en = 9223372036854775807 := by rw [plainF_en p sec hzn]; exact endT_cnt p.ts sec
  have HSM := Lib.hid (fun (h1 : (plainF p sec).st ≤ other) (h2 : other < (plainF p sec).en) => (lookF_mid p other (.inr hex)).trans (plainF_same p (asc_of hok) sec other hzn h1 h2))
  have HLO := Lib.hid (fun g F => look_inF (g := g) (F := F) hR hf hok other)
  generalize plainF p sec = F at *
  have HL := Lib.hid HL
  have HFD2 := Lib.hid (fun g => finds_inF (w := w) (p := p) (a := ⟨A1, k1, A2, k2⟩) (g := g) (F := F))
  have hst' : decide (sec < F.st) = false := by rw [decide_eq_false_iff_not]; omega
  have hcs : ((F.en != 9223372036854775807) = false) ∨ ((F.en != 9223372036854775807) = true ∧ decide (F.en ≤ sec) = false) := by
    by_cases h : F.en = 9223372036854775807
    · left; rw [h]; rfl
    · right; refine ⟨by rw [bne_iff_ne]; exact h, ?_⟩
      rw [decide_eq_false_iff_not]
      rcases hen with h' | h'
      · omega
      · exact absurd h' h
  have hot3 : (decide (other < F.st) = true) ∨ (decide (other < F.st) = false ∧ decide (F.en ≤ other) = true) ∨ (decide (other < F.st) = false ∧ decide (F.en ≤ other) = false ∧ Hid (lookF p other = F)) := by
    by_cases h1 : other < F.st
    · left; exact decide_eq_true h1
    · by_cases h2 : F.en ≤ other
      · right; left; exact ⟨decide_eq_false h1, decide_eq_true h2⟩
      · right; right; exact ⟨decide_eq_false h1, decide_eq_false h2, HSM.out (by omega) (by omega)⟩
  clear hf hk hR hok hoz hot hen hex hzn HSM hs hst
  unfold plA at *
  dsimp only at HFI HOK HL HLO ⊢
  rcases hcs with hc1 | ⟨hc1, hc2⟩
  all_goals
    have HX0 := HB0
    go_enter Try.func5, Try.ntmps5
    go_wp2_with fail
    refine (HFI.out _ HX0).mono ?_
    rintro e w1 ⟨rfl, HX1⟩
    clear c0 c1 c2 c3
    obtain ⟨c0, c1, c2, c3⟩ := HX1.cells
    dsimp only at c1 c2
    go_wp2_with fail
    refine (HOK.out _ HX1).mono ?_
    rintro e w2 ⟨rfl, HX2⟩
    clear c0 c1 c2 c3
    obtain ⟨c0, c1, c2, c3⟩ := HX2.cells
    dsimp only at c1 c2
    go_wp2_with fail
    refine (HL.out _ HX2).mono ?_
    rintro e w3 ⟨rfl, HX3⟩
    clear c0 c1 c2 c3
    obtain ⟨c0, c1, c2, c3⟩ := HX3.cells
    dsimp only at c1 c2
    unfold foA
    go_upto_region 8 with fail
    have HI : InPF w p ⟨A1, k1, A2, k2⟩ w3.heap.size F (w3.alloc (.cells #[.string (S F.nm), .int .i64 F.off, .int .i64 F.st, .int .i64 F.en, .bool F.dst] 34)) := ⟨HX3.alloc _, Blk.new w3 _ _ _ rfl⟩
    clear c0 c1 c2 c3
    obtain ⟨⟨⟨c0, c1, c2, c3⟩, ⟨d0, d1, d2, d3, d4⟩⟩, HI⟩ := HI.all
    generalize w3.alloc (.cells #[.string (S F.nm), .int .i64 F.off, .int .i64 F.st, .int .i64 F.en, .bool F.dst] 34) = W3 at *
    generalize w3.heap.size = g at *
    clear HX0 HX1 HX2 HX3 HB0
    rcases hot3 with ho1 | ⟨ho1, ho2⟩ | ⟨ho1, ho2, ho3⟩
    · refine wp_region_any (by kernel_rfl) ?_
      try (change wpAny _ _ _ _ _ _ _ (World.drew _))
      refine wpAny_take (i := 0) (v := ?_) rfl (by kernel_rfl) (by kernel_rfl) (by kernel_rfl) (fun _ _ _ h => h) (Or.inl ⟨by kernel_rfl, ?_⟩) ?_
      rotate_left
      · intro w; go_simp; try (with_reducible rfl)
      refine wpAny_take (i := 1) (v := ?_) rfl (by kernel_rfl) (by kernel_rfl) (by kernel_rfl) (fun _ _ _ h => h) (Or.inl ⟨by kernel_rfl, ?_⟩) ?_
      rotate_left
      · intro w; go_simp; try (with_reducible rfl)
      refine wpAny_ready (rs := [2]) (by kernel_rfl) (by simp) ?_
      refine AllReady.cons rfl (fun K hK => ?_) AllReady.nil
      go_simp
      refine hK _ _ ?_
      clear hK K
      refine wpAny_take (i := 3) (v := ?_) rfl (by kernel_rfl) (by kernel_rfl) (by kernel_rfl) (fun _ _ _ h => h) (Or.inl ⟨by kernel_rfl, ?_⟩) ?_
      rotate_left
      · intro w; go_simp; try (with_reducible rfl)
      refine wpAny_take (i := 4) (v := ?_) rfl (by kernel_rfl) (by kernel_rfl) (by kernel_rfl) (fun _ _ _ h => h) (Or.inl ⟨by kernel_rfl, ?_⟩) ?_
      rotate_left
      · intro w; go_simp; try (with_reducible rfl)
      refine wpAny_take (i := 5) (v := undef) rfl (by kernel_rfl) (by kernel_rfl) (by kernel_rfl) (fun _ _ _ h => h) (Or.inr ⟨by kernel_rfl, rfl⟩) ?_
      refine wpAny_take (i := 6) (v := undef) rfl (by kernel_rfl) (by kernel_rfl) (by kernel_rfl) (fun _ _ _ h => h) (Or.inr ⟨by kernel_rfl, rfl⟩) ?_
      refine wpAny_take (i := 7) (v := undef) rfl (by kernel_rfl) (by kernel_rfl) (by kernel_rfl) (fun _ _ _ h => h) (Or.inr ⟨by kernel_rfl, rfl⟩) ?_
      refine wpAny_take (i := 8) (v := undef) rfl (by kernel_rfl) (by kernel_rfl) (by kernel_rfl) (fun _ _ _ h => h) (Or.inr ⟨by kernel_rfl, rfl⟩) ?_
      refine wpAny_take (i := 9) (v := ?_) rfl (by kernel_rfl) (by kernel_rfl) (by kernel_rfl) (fun _ _ _ h => h) (Or.inl ⟨by kernel_rfl, ?_⟩) ?_
      rotate_left
      · intro w; go_simp; try (with_reducible rfl)
      refine wpAny_take (i := 10) (v := ?_) rfl (by kernel_rfl) (by kernel_rfl) (by kernel_rfl) (fun _ _ _ h => h) (Or.inl ⟨by kernel_rfl, ?_⟩) ?_
      rotate_left
      · intro w; go_simp; try (with_reducible rfl)
      refine wpAny_take (i := 11) (v := undef) rfl (by kernel_rfl) (by kernel_rfl) (by kernel_rfl) (fun _ _ _ h => h) (Or.inr ⟨by kernel_rfl, rfl⟩) ?_
      refine wpAny_take (i := 12) (v := undef) rfl (by kernel_rfl) (by kernel_rfl) (by kernel_rfl) (fun _ _ _ h => h) (Or.inr ⟨by kernel_rfl, rfl⟩) ?_
      refine wpAny_take (i := 13) (v := undef) rfl (by kernel_rfl) (by kernel_rfl) (by kernel_rfl) (fun _ _ _ h => h) (Or.inr ⟨by kernel_rfl, rfl⟩) ?_
      refine wpAny_take (i := 14) (v := undef) rfl (by kernel_rfl) (by kernel_rfl) (by kernel_rfl) (fun _ _ _ h => h) (Or.inr ⟨by kernel_rfl, rfl⟩) ?_
      refine wpAny_take (i := 15) (v := undef) rfl (by kernel_rfl) (by kernel_rfl) (by kernel_rfl) (fun _ _ _ h => h) (Or.inr ⟨by kernel_rfl, rfl⟩) ?_
      refine wpAny_take (i := 16) (v := ?_) rfl (by kernel_rfl) (by kernel_rfl) (by kernel_rfl) (fun _ _ _ h => h) (Or.inl ⟨by kernel_rfl, ?_⟩) ?_
      rotate_left
      · intro w; go_simp; try (with_reducible rfl)
      refine wpAny_take (i := 17) (v := ?_) rfl (by kernel_rfl) (by kernel_rfl) (by kernel_rfl) (fun _ _ _ h => h) (Or.inl ⟨by kernel_rfl, ?_⟩) ?_
      rotate_left
      · intro w; go_simp; try (with_reducible rfl)
      refine wpAny_ready (rs := [18]) (by kernel_rfl) (by simp) ?_
      refine AllReady.cons rfl (fun K hK => ?_) AllReady.nil
      go_simp
      go_wp2_with (go_at_call 10; refine (HFD2.out g _ (InPF.drew HI)).mono ?_; rintro e w' ⟨rfl, hB'⟩)
      try (refine hK _ _ ?_; clear hK K)
      refine wpAny_take (i := 19) (v := ?_) rfl (by kernel_rfl) (by kernel_rfl) (by kernel_rfl) (fun _ _ _ h => h) (Or.inl ⟨by kernel_rfl, ?_⟩) ?_
      rotate_left
      · intro w; go_simp; try (with_reducible rfl)
      refine wpAny_take (i := 20) (v := ?_) rfl (by kernel_rfl) (by kernel_rfl) (by kernel_rfl) (fun _ _ _ h => h) (Or.inl ⟨by kernel_rfl, ?_⟩) ?_
      rotate_left
      · intro w; go_simp; try (with_reducible rfl)
      refine wpAny_done (by kernel_rfl) ?_ _
      go_wp2_with fail
      go_ret
      exact ⟨rfl, hB'.1.2⟩
    · refine wp_region_any (by kernel_rfl) ?_
      try (change wpAny _ _ _ _ _ _ _ (World.drew _))
      refine wpAny_take (i := 0) (v := ?_) rfl (by kernel_rfl) (by kernel_rfl) (by kernel_rfl) (fun _ _ _ h => h) (Or.inl ⟨by kernel_rfl, ?_⟩) ?_
      rotate_left
      · intro w; go_simp; try (with_reducible rfl)
      refine wpAny_take (i := 1) (v := ?_) rfl (by kernel_rfl) (by kernel_rfl) (by kernel_rfl) (fun _ _ _ h => h) (Or.inl ⟨by kernel_rfl, ?_⟩) ?_
      rotate_left
      · intro w; go_simp; try (with_reducible rfl)
      refine wpAny_ready (rs := [2]) (by kernel_rfl) (by simp) ?_
      refine AllReady.cons rfl (fun K hK => ?_) AllReady.nil
      go_simp
      refine hK _ _ ?_
      clear hK K
      refine wpAny_take (i := 3) (v := ?_) rfl (by kernel_rfl) (by kernel_rfl) (by kernel_rfl) (fun _ _ _ h => h) (Or.inl ⟨by kernel_rfl, ?_⟩) ?_
      rotate_left
      · intro w; go_simp; try (with_reducible rfl)
      refine wpAny_take (i := 4) (v := ?_) rfl (by kernel_rfl) (by kernel_rfl) (by kernel_rfl) (fun _ _ _ h => h) (Or.inl ⟨by kernel_rfl, ?_⟩) ?_
      rotate_left
      · intro w; go_simp; try (with_reducible rfl)
      refine wpAny_take (i := 5) (v := ?_) rfl (by kernel_rfl) (by kernel_rfl) (by kernel_rfl) (fun _ _ _ h => h) (Or.inl ⟨by kernel_rfl, ?_⟩) ?_
      rotate_left
      · intro w; go_simp; try (with_reducible rfl)
      refine wpAny_take (i := 6) (v := ?_) rfl (by kernel_rfl) (by kernel_rfl) (by kernel_rfl) (fun _ _ _ h => h) (Or.inl ⟨by kernel_rfl, ?_⟩) ?_
      rotate_left
      · intro w; go_simp; try (with_reducible rfl)
      refine wpAny_ready (rs := [7]) (by kernel_rfl) (by simp) ?_
      refine AllReady.cons rfl (fun K hK => ?_) AllReady.nil
      go_simp
      refine hK _ _ ?_
      clear hK K
      refine wpAny_take (i := 8) (v := ?_) rfl (by kernel_rfl) (by kernel_rfl) (by kernel_rfl) (fun _ _ _ h => h) (Or.inl ⟨by kernel_rfl, ?_⟩) ?_
      rotate_left
      · intro w; go_simp; try (with_reducible rfl)
      refine wpAny_take (i := 9) (v := ?_) rfl (by kernel_rfl) (by kernel_rfl) (by kernel_rfl) (fun _ _ _ h => h) (Or.inl ⟨by kernel_rfl, ?_⟩) ?_
      rotate_left
      · intro w; go_simp; try (with_reducible rfl)
      refine wpAny_take (i := 10) (v := ?_) rfl (by kernel_rfl) (by kernel_rfl) (by kernel_rfl) (fun _ _ _ h => h) (Or.inl ⟨by kernel_rfl, ?_⟩) ?_
      rotate_left
      · intro w; go_simp; try (with_reducible rfl)
      refine wpAny_take (i := 11) (v := undef) rfl (by kernel_rfl) (by kernel_rfl) (by kernel_rfl) (fun _ _ _ h => h) (Or.inr ⟨by kernel_rfl, rfl⟩) ?_
      refine wpAny_take (i := 12) (v := undef) rfl (by kernel_rfl) (by kernel_rfl) (by kernel_rfl) (fun _ _ _ h => h) (Or.inr ⟨by kernel_rfl, rfl⟩) ?_
      refine wpAny_take (i := 13) (v := undef) rfl (by kernel_rfl) (by kernel_rfl) (by kernel_rfl) (fun _ _ _ h => h) (Or.inr ⟨by kernel_rfl, rfl⟩) ?_
      refine wpAny_take (i := 14) (v := undef) rfl (by kernel_rfl) (by kernel_rfl) (by kernel_rfl) (fun _ _ _ h => h) (Or.inr ⟨by kernel_rfl, rfl⟩) ?_
      refine wpAny_take (i := 15) (v := undef) rfl (by kernel_rfl) (by kernel_rfl) (by kernel_rfl) (fun _ _ _ h => h) (Or.inr ⟨by kernel_rfl, rfl⟩) ?_
      refine wpAny_take (i := 16) (v := ?_) rfl (by kernel_rfl) (by kernel_rfl) (by kernel_rfl) (fun _ _ _ h => h) (Or.inl ⟨by kernel_rfl, ?_⟩) ?_
      rotate_left
      · intro w; go_simp; try (with_reducible rfl)
      refine wpAny_take (i := 17) (v := ?_) rfl (by kernel_rfl) (by kernel_rfl) (by kernel_rfl) (fun _ _ _ h => h) (Or.inl ⟨by kernel_rfl, ?_⟩) ?_
      rotate_left
      · intro w; go_simp; try (with_reducible rfl)
      refine wpAny_ready (rs := [18]) (by kernel_rfl) (by simp) ?_
      refine AllReady.cons rfl (fun K hK => ?_) AllReady.nil
      go_simp
      go_wp2_with (go_at_call 10; refine (HFD2.out g _ (InPF.drew HI)).mono ?_; rintro e w' ⟨rfl, hB'⟩)
      try (refine hK _ _ ?_; clear hK K)
      refine wpAny_take (i := 19) (v := ?_) rfl (by kernel_rfl) (by kernel_rfl) (by kernel_rfl) (fun _ _ _ h => h) (Or.inl ⟨by kernel_rfl, ?_⟩) ?_
      rotate_left
      · intro w; go_simp; try (with_reducible rfl)
      refine wpAny_take (i := 20) (v := ?_) rfl (by kernel_rfl) (by kernel_rfl) (by kernel_rfl) (fun _ _ _ h => h) (Or.inl ⟨by kernel_rfl, ?_⟩) ?_
      rotate_left
      · intro w; go_simp; try (with_reducible rfl)
      refine wpAny_done (by kernel_rfl) ?_ _
      go_wp2_with fail
      go_ret
      exact ⟨rfl, hB'.1.2⟩
    · have HLO2 := HLO.out g F
      rw [ho3.out] at HLO2
      have HLO3 := Lib.hid HLO2
      clear HLO2
      unfold foA at HLO3
      go_region_held3 (fun w' => ((w'.cell? ⟨w.heap.size, 0, none⟩ = some (.string (S p.nm)) ∧ w'.cell? ⟨w.heap.size, 1, none⟩ = some (.slice A1 p.zs.length k1) ∧ w'.cell? ⟨w.heap.size, 2, none⟩ = some (.slice A2 p.ts.length k2) ∧ w'.cell? ⟨w.heap.size, 3, none⟩ = some (.string (S p.ext))) ∧ (w'.cell? ⟨g, 0, none⟩ = some (.string (S F.nm)) ∧ w'.cell? ⟨g, 1, none⟩ = some (.int .i64 F.off) ∧ w'.cell? ⟨g, 2, none⟩ = some (.int .i64 F.st) ∧ w'.cell? ⟨g, 3, none⟩ = some (.int .i64 F.en) ∧ w'.cell? ⟨g, 4, none⟩ = some (.bool F.dst))) ∧ InPF w p ⟨A1, k1, A2, k2⟩ g F w')
        (first | ((refine InPF.all (InPF.drew ?_)); (with_reducible assumption)) | ((refine InPF.all ?_); (with_reducible assumption)))
        (first | (go_at_call 12; ((with_reducible refine (HLO3.out _ ?_).mono ?_); (first | (with_reducible assumption) | ((with_reducible refine InPF.drew ?_); (with_reducible assumption))); rintro e w' ⟨rfl, hB'⟩)) | (go_at_call 10; ((with_reducible refine (HFD2.out g _ ?_).mono ?_); (first | (with_reducible assumption) | ((with_reducible refine InPF.drew ?_); (with_reducible assumption))); rintro e w' ⟨rfl, hB'⟩)))
      all_goals
        go_wp2_with fail
        go_ret
        exact ⟨rfl, hB'.1.2⟩
end Go.Proofs.Ytjgidakfpdmfdaa
