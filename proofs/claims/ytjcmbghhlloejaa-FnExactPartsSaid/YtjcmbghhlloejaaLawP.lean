/- Words for the laws on places; FnFirstStandard and FnFirstUnused: their walks. -/
import Derived.Test.YtjcmbghhlloejaaFinds
namespace Go.Proofs.Ytjcmbghhlloejaa
open Go.RowKit

section
variable {w : World} {p : Pl} {a : Ad}
theorem fits_at (hR : PlIn w w.heap.size p a) (W : World) (h : InP w p a W) : Calls Try.prog 13 #[plA p a] W fun e W' => e = .returned (.bool (fits2 p)) ∧ InP w p a W' :=
  (zzFits2_ret p a W w.heap.size h.2.size (hR.below h.2 (Nat.le_refl _))).mono fun _ _ ⟨he, hb⟩ => ⟨he, h.below hb⟩
theorem ok_at (hR : PlIn w w.heap.size p a) (hf : fits2 p = true) (W : World) (h : InP w p a W) : Calls Try.prog 14 #[plA p a] W fun e W' => e = .returned (.bool (plOkB p)) ∧ InP w p a W' := by
  obtain ⟨_, hz, ht, _⟩ := fits2_all p hf
  exact (PlaceOk_ret p a W w.heap.size h.2.size (hR.below h.2 (Nat.le_refl _)) (by omega) (by omega)).mono fun _ _ ⟨he, hb⟩ => ⟨he, h.below hb⟩
theorem finds_at (W : World) (h : InP w p a W) : Calls Try.prog 15 #[] W fun e W' => e = .returned (.bool true) ∧ InP w p a W' :=
  (finds_ret W).mono fun _ _ ⟨he, hb⟩ => ⟨he, h.below hb⟩
theorem first_in (hR : PlIn w w.heap.size p a) (hok : plOk p) (W : World) (h : InP w p a W) : Calls Try.prog 20 #[plA p a] W fun e W' => e = .returned (.int .i64 (firstZ p.zs p.ts : Int)) ∧ InP w p a W' :=
  (implFirst_ret p a W w.heap.size h.2.size (hR.below h.2 (Nat.le_refl _)) hok).mono fun _ _ ⟨he, hb⟩ => ⟨he, h.below hb⟩
theorem look_in (hR : PlIn w w.heap.size p a) (hf : fits2 p = true) (hok : plOk p) (sec : Int) (W : World) (h : InP w p a W) : Calls Try.prog 17 #[plA p a, .int .i64 sec] W fun e W' => e = .returned (foA (lookF p sec)) ∧ InP w p a W' := by
  obtain ⟨_, hz, ht, he, _⟩ := fits2_all p hf
  exact (implLookup_ret p a W w.heap.size h.2.size (hR.below h.2 (Nat.le_refl _)) (by omega) (by omega) (.inr hok) (by omega) sec).mono fun _ _ ⟨he, hb⟩ => ⟨he, h.below hb⟩
end

theorem dnF_dst : ∀ (zs : List Zo) (n k : Nat), dnF zs n = some k → (zoAt zs k).dst = false := by
  intro zs n
  induction n with
  | zero => intro k h; simp [dnF] at h
  | succ n ih =>
    intro k h
    rw [dnF] at h
    split at h
    · rename_i hd; injection h with h; subst h; exact hd
    · exact ih k h
theorem upF_dst : ∀ (zs : List Zo) (n m k : Nat), upF zs n m = some k → (zoAt zs k).dst = false := by
  intro zs n m
  induction m with
  | zero => intro k h; simp [upF] at h
  | succ m ih =>
    intro k h
    rw [upF] at h
    split at h
    · rename_i hd; injection h with h; subst h; exact hd
    · exact ih k h
theorem firstZ_dst (zs : List Zo) (ts : List Tr) (h0 : (zoAt zs 0).dst = false) : (zoAt zs (firstZ zs ts)).dst = false := by
  have hup : (zoAt zs (up0 zs)).dst = false := by
    unfold up0
    cases hu : upF zs zs.length zs.length with
    | none => exact h0
    | some k => exact upF_dst zs _ _ k hu
  unfold firstZ
  split
  · exact h0
  · cases ts with
    | nil => exact hup
    | cons t l =>
      simp only []
      split
      · cases hd : dnF zs t.ix with
        | none => exact hup
        | some k => exact dnF_dst zs _ k hd
      · exact hup

set_option maxRecDepth 100000 in
set_option maxHeartbeats 8000000 in
theorem fnFirstStandard_walk (p : Pl) (a : Ad) (w : World) (hR : PlIn w w.heap.size p a) : Calls Try.prog 10 #[plA p a] w fun e w' => e = .returned (.bool true) ∧ Below w.heap.size w w' := by
  obtain ⟨A1, k1, A2, k2⟩ := a
  have HB0 := InP.new w p ⟨A1, k1, A2, k2⟩
  obtain ⟨c0, c1, c2, c3⟩ := HB0.cells
  have HFI := fits_at hR
  have HFD := Lib.hid (finds_at (w := w) (p := p) (a := ⟨A1, k1, A2, k2⟩))
  dsimp only at c1 c2 HB0
  cases hf : fits2 p
  · rw [hf] at HFI
    have HFI := Lib.hid HFI
    unfold plA at *
    dsimp only at HFI ⊢
    clear hf hR
    go_enter Try.func10, Try.ntmps10
    go_wp2_with fail
    refine (HFI.out _ HB0).mono ?_
    rintro e w1 ⟨rfl, HX1⟩
    go_wp2_with fail
    go_ret
    exact ⟨rfl, HX1.2⟩
  rw [hf] at HFI
  have HFI := Lib.hid HFI
  have HOK := ok_at hR hf
  cases hk : plOkB p
  · rw [hk] at HOK
    have HOK := Lib.hid HOK
    unfold plA at *
    dsimp only at HFI HOK ⊢
    clear hf hk hR
    go_enter Try.func10, Try.ntmps10
    go_wp2_with fail
    refine (HFI.out _ HB0).mono ?_
    rintro e w1 ⟨rfl, HX1⟩
    clear c0 c1 c2 c3
    obtain ⟨c0, c1, c2, c3⟩ := HX1.cells
    dsimp only at c1 c2
    go_wp2_with fail
    refine (HOK.out _ HX1).mono ?_
    rintro e w2 ⟨rfl, HX2⟩
    clear c0 c1 c2 c3
    obtain ⟨c0, c1, c2, c3⟩ := HX2.cells
    dsimp only at c1 c2
    go_wp2_with fail
    refine (HFD.out _ HX2).mono ?_
    rintro e w3 ⟨rfl, HX3⟩
    go_wp2_with fail
    go_ret
    exact ⟨rfl, HX3.2⟩
  rw [hk] at HOK
  have HOK := Lib.hid HOK
  have hok := (plOkB_iff p).1 hk
  have h1 := hok.2.2.1
  obtain ⟨z, hz⟩ : ∃ z, p.zs[0]? = some z := ⟨_, List.getElem?_eq_getElem (by omega)⟩
  obtain ⟨ad, hA, _⟩ := hR.1.zo hz
  dsimp only at hA
  subst hA
  have hlen : (0 : Int) < (p.zs.length : Int) := by omega
  have HRH := Lib.hid hR
  have HZ := Lib.hid hz
  cases hd : z.dst
  · have hfl := firstZ_lt p.zs p.ts (by omega) (plOk_ix hok)
    have hfd : (zoAt p.zs (firstZ p.zs p.ts)).dst = false := firstZ_dst p.zs p.ts (by rw [zoAt_some hz]; exact hd)
    obtain ⟨y, hy⟩ : ∃ y, p.zs[firstZ p.zs p.ts]? = some y := ⟨_, List.getElem?_eq_getElem hfl⟩
    rw [zoAt_some hy] at hfd
    have HFZ := Lib.hid (first_in hR hok)
    generalize firstZ p.zs p.ts = fz at *
    have i0 : (0 : Int) ≤ (fz : Int) := by omega
    have i1 : (fz : Int) < (p.zs.length : Int) := by omega
    have HY := Lib.hid hy
    have HYD := Lib.hid hfd
    have HD := Lib.hid hd
    unfold plA at *
    dsimp only at HFI HOK HFZ ⊢
    clear hf hk hR hok h1 hz hd hy hfd
    go_enter Try.func10, Try.ntmps10
    go_wp2_with fail
    refine (HFI.out _ HB0).mono ?_
    rintro e w1 ⟨rfl, HX1⟩
    clear c0 c1 c2 c3
    obtain ⟨c0, c1, c2, c3⟩ := HX1.cells
    dsimp only at c1 c2
    go_wp2_with fail
    refine (HOK.out _ HX1).mono ?_
    rintro e w2 ⟨rfl, HX2⟩
    clear c0 c1 c2 c3
    obtain ⟨c0, c1, c2, c3⟩ := HX2.cells
    dsimp only at c1 c2
    obtain ⟨ad', hA, _, _, _, e2⟩ := (HRH.out.1.below HX2.2 (Nat.le_refl _)).zo HZ.out
    dsimp only at hA
    injection hA with hA
    subst hA
    rw [HD.out] at e2
    simp only [Nat.zero_mul, show ∀ a : Addr, a.add 0 = a from fun a => by simp [Addr.add]] at e2
    go_upto_region 5 with fail
    clear e2
    have hall : ∀ W, InP w p ⟨some ad, k1, A2, k2⟩ W → (W.cell? ⟨w.heap.size, 0, none⟩ = some (.string (S p.nm)) ∧ W.cell? ⟨w.heap.size, 1, none⟩ = some (.slice (some ad) p.zs.length k1) ∧ W.cell? ⟨w.heap.size, 2, none⟩ = some (.slice A2 p.ts.length k2) ∧ W.cell? ⟨w.heap.size, 3, none⟩ = some (.string (S p.ext)) ∧ W.cell? ⟨(ad.add (fz * 3)).block, (ad.add (fz * 3)).off + 2, none⟩ = some (.bool false)) ∧ InP w p ⟨some ad, k1, A2, k2⟩ W := by
      intro W hW
      obtain ⟨d0, d1, d2, d3⟩ := hW.cells
      obtain ⟨ad', hA, _, _, _, e2⟩ := (HRH.out.1.below hW.2 (Nat.le_refl _)).zo HY.out
      dsimp only at hA
      injection hA with hA
      subst hA
      rw [HYD.out] at e2
      exact ⟨⟨d0, d1, d2, d3, e2⟩, hW⟩
    have HALL := Lib.hid hall
    clear hall
    go_region_held3 (fun w' => (w'.cell? ⟨w.heap.size, 0, none⟩ = some (.string (S p.nm)) ∧ w'.cell? ⟨w.heap.size, 1, none⟩ = some (.slice (some ad) p.zs.length k1) ∧ w'.cell? ⟨w.heap.size, 2, none⟩ = some (.slice A2 p.ts.length k2) ∧ w'.cell? ⟨w.heap.size, 3, none⟩ = some (.string (S p.ext)) ∧ w'.cell? ⟨(ad.add (fz * 3)).block, (ad.add (fz * 3)).off + 2, none⟩ = some (.bool false)) ∧ InP w p ⟨some ad, k1, A2, k2⟩ w')
      (first | ((refine HALL.out _ (InP.drew ?_)); (with_reducible assumption)) | ((refine HALL.out _ ?_); (with_reducible assumption)))
      (first | (go_at_call 20; ((with_reducible refine (HFZ.out _ ?_).mono ?_); (first | (with_reducible assumption) | ((with_reducible refine InP.drew ?_); (with_reducible assumption))); rintro e w' ⟨rfl, hB'⟩)) | (go_at_call 15; ((with_reducible refine (HFD.out _ ?_).mono ?_); (first | (with_reducible assumption) | ((with_reducible refine InP.drew ?_); (with_reducible assumption))); rintro e w' ⟨rfl, hB'⟩)))
    all_goals
      go_wp2_with fail
      go_ret
      exact ⟨rfl, hB'.2⟩
  · have HD := Lib.hid hd
    unfold plA at *
    dsimp only at HFI HOK ⊢
    clear hf hk hR hok h1 hz hd
    go_enter Try.func10, Try.ntmps10
    go_wp2_with fail
    refine (HFI.out _ HB0).mono ?_
    rintro e w1 ⟨rfl, HX1⟩
    clear c0 c1 c2 c3
    obtain ⟨c0, c1, c2, c3⟩ := HX1.cells
    dsimp only at c1 c2
    go_wp2_with fail
    refine (HOK.out _ HX1).mono ?_
    rintro e w2 ⟨rfl, HX2⟩
    clear c0 c1 c2 c3
    obtain ⟨c0, c1, c2, c3⟩ := HX2.cells
    dsimp only at c1 c2
    obtain ⟨ad', hA, _, _, _, e2⟩ := (HRH.out.1.below HX2.2 (Nat.le_refl _)).zo HZ.out
    dsimp only at hA
    injection hA with hA
    subst hA
    rw [HD.out] at e2
    simp only [Nat.zero_mul, show ∀ a : Addr, a.add 0 = a from fun a => by simp [Addr.add]] at e2
    go_wp2_with fail
    refine (HFD.out _ HX2).mono ?_
    rintro e w3 ⟨rfl, HX3⟩
    go_wp2_with fail
    go_ret
    exact ⟨rfl, HX3.2⟩

end Go.Proofs.Ytjcmbghhlloejaa
