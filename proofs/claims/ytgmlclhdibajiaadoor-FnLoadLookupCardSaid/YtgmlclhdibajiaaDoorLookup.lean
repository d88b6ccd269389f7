/- The method lookup of a location. -/
import Derived.Test.YtgmlclhdibajiaaDoorFirst
import Derived.Test.YtgmlclhdibajiaaDoorPlL
import Derived.Deep.RegionHeld3
namespace Go.Proofs.YtgmlclhdibajiaaDoor
open Go.RowKit

theorem results_five {fn : Func} {a b c d e : Tmp} (h : fn.results = #[.tmp a, .tmp b, .tmp c, .tmp d, .tmp e]) (tmps : Array Value) (P : Program) (w : World) :
    (results fn tmps).run P w = .ok (.tuple #[tmps.getD a undef, tmps.getD b undef, tmps.getD c undef, tmps.getD d undef, tmps.getD e undef]) w := by simp [results, h]
def fiveV (f : Fo) : Value := .tuple #[.string (S f.nm), .int .i64 f.off, .int .i64 f.st, .int .i64 f.en, .bool f.dst]
theorem get_ret (g : Nat) (w : World) : Calls Tryd.prog 38 #[.pointer (some ⟨g, 0, none⟩)] w fun e w' => e = .returned (.pointer (some ⟨g, 0, none⟩)) ∧ w = w' := by
  go_enter Tryd.func38, Tryd.ntmps38
  go_wp2
  go_ret
  exact ⟨rfl, rfl⟩
/-- a location, and all that was there before -/
def LocB (w : World) (g : Nat) (p : Pl) (a : Ad) (W : World) : Prop := Loc W g p a ∧ Below w.heap.size w W
theorem LocB.cell2 {w W : World} {g : Nat} {p : Pl} {A1 A2 : Option Addr} {k1 k2 : Nat} (h : LocB w g p ⟨A1, k1, A2, k2⟩ W) : W.cell? ⟨g, 2, none⟩ = some (.slice A1 p.zs.length k1) ∧ LocB w g p ⟨A1, k1, A2, k2⟩ W := ⟨h.1.1.cell 2, h⟩
theorem LocB.drew {w W : World} {g : Nat} {p : Pl} {a : Ad} (h : LocB w g p a W) : LocB w g p a W.drew := ⟨⟨h.1.1, h.1.2.1, h.1.2.2.1, h.1.2.2.2⟩, h.2.drew⟩
theorem first_at (w : World) (g : Nat) (p : Pl) (a : Ad) (hz : (p.zs.length : Int) ≤ 2147483647) (ht : (p.ts.length : Int) ≤ 2147483647) (hix : ∀ t ∈ p.ts, t.ix < p.zs.length) (W : World) (h : LocB w g p a W) :
    Calls Tryd.prog 39 #[.pointer (some ⟨g, 0, none⟩)] W fun e W' => e = .returned (.int .i64 (firstZ p.zs p.ts : Int)) ∧ LocB w g p a W' :=
  (lookupFirstZone_ret p a g W h.1 hz ht hix).mono fun _ _ ⟨he, hb⟩ => ⟨he, h.1.below hb, h.2.trans (hb.mono h.2.size)⟩

set_option maxRecDepth 1000000 in
set_option maxHeartbeats 4000000 in
theorem lookup_none (p : Pl) (a : Ad) (g : Nat) (w : World) (hL : Loc w g p a) (hzs : p.zs = []) (sec : Int) :
    Calls Tryd.prog 36 #[.pointer (some ⟨g, 0, none⟩), .int .i64 sec] w fun e w' => e = .returned (fiveV (lookF p sec)) ∧ Below w.heap.size w w' := by
  obtain ⟨A1, k1, A2, k2⟩ := a
  obtain ⟨c1, c2, c3, c4, c7⟩ := hL.1.loc
  dsimp only at c2 c3
  have HF := Lib.hid (show fiveV (lookF p sec) = .tuple #[.string (S [85, 84, 67]), .int .i64 0, .int .i64 (-9223372036854775808), .int .i64 9223372036854775807, .bool false] by
    unfold lookF; rw [if_neg (fun h => h.1 hzs)]; unfold plainF; rw [if_pos hzs]; rfl)
  have e0 : p.zs.length = 0 := by rw [hzs]; rfl
  rw [e0] at c2
  have HG := Lib.hid (get_ret g w)
  clear hzs e0 hL
  go_enter Tryd.func36, Tryd.ntmps36
  go_wp2_with fail
  refine HG.out.mono ?_
  rintro e w1 ⟨rfl, rfl⟩
  go_wp2_with fail
  refine bodyPost_ret (results_five rfl _ _ _) rfl ?_
  rw [HF.out]
  exact ⟨rfl, Below.refl _ _⟩

set_option maxRecDepth 1000000 in
set_option maxHeartbeats 16000000 in
theorem lookup_first (p : Pl) (a : Ad) (g : Nat) (w : World) (hL : Loc w g p a) (hz0 : 0 < p.zs.length) (hz : (p.zs.length : Int) ≤ 2147483647) (ht : (p.ts.length : Int) ≤ 2147483647) (hix : ∀ t ∈ p.ts, t.ix < p.zs.length) (sec : Int) (hc : cntT p.ts sec = 0) :
    Calls Tryd.prog 36 #[.pointer (some ⟨g, 0, none⟩), .int .i64 sec] w fun e w' => e = .returned (fiveV (lookF p sec)) ∧ Below w.heap.size w w' := by
  obtain ⟨A1, k1, A2, k2⟩ := a
  have hfl := firstZ_lt p.zs p.ts hz0 hix
  obtain ⟨z, hzk⟩ : ∃ z, p.zs[firstZ p.zs p.ts]? = some z := ⟨_, List.getElem?_eq_getElem hfl⟩
  have HF := Lib.hid (show fiveV (lookF p sec) = .tuple #[.string (S z.nm), .int .i64 z.off, .int .i64 (-9223372036854775808), .int .i64 (endT p.ts 0), .bool z.dst] by rw [lookF_first p sec z hzk hc]; rfl)
  have HC := Lib.hid (first_at w g p ⟨A1, k1, A2, k2⟩ hz ht hix)
  obtain ⟨ad1, hA1, _⟩ := hL.2.1.zo hzk
  dsimp only at hA1
  subst hA1
  have HZ := Lib.hid hzk
  clear hzk
  generalize firstZ p.zs p.ts = fz at *
  have HLB : LocB w g p ⟨some ad1, k1, A2, k2⟩ w := ⟨hL, Below.refl _ _⟩
  have HL := Lib.hid hL
  clear hL
  obtain ⟨c1, c2, c3, c4, c7⟩ := HL.out.1.loc
  dsimp only at c2 c3
  have HG := Lib.hid (get_ret g w)
  have hn : ((p.zs.length : Int) == 0) = false := by rw [beq_eq_false_iff_ne]; omega
  have i0 : (0 : Int) ≤ (fz : Int) := by omega
  have i1 : (fz : Int) < (p.zs.length : Int) := by omega
  by_cases hts : p.ts = []
  · have e0 : p.ts.length = 0 := by rw [hts]; rfl
    have HE := Lib.hid (show endT p.ts 0 = 9223372036854775807 from endT_none (by omega))
    rw [e0] at c3
    have E0 := Lib.hid e0
    clear hts e0 hc hix
    go_enter Tryd.func36, Tryd.ntmps36
    go_wp2_with fail
    refine HG.out.mono ?_
    rintro e w1 ⟨rfl, rfl⟩
    go_upto_region 16 with fail
    go_region_held3 (fun w' => w'.cell? ⟨g, 2, none⟩ = some (.slice (some ad1) p.zs.length k1) ∧ LocB w g p ⟨some ad1, k1, A2, k2⟩ w')
      (first | ((refine LocB.cell2 (LocB.drew ?_)); (with_reducible assumption)) | ((refine LocB.cell2 ?_); (with_reducible assumption)))
      (first | (go_at_call 39; ((with_reducible refine (HC.out _ ?_).mono ?_); (first | (with_reducible assumption) | ((with_reducible refine LocB.drew ?_); (with_reducible assumption))); rintro e w' ⟨rfl, hB'⟩)))
    clear c1 c2 c3 c4 c7
    obtain ⟨c1, c2, c3, c4, c7⟩ := hB'.1.1.loc
    dsimp only at c2 c3
    rw [E0.out] at c3
    obtain ⟨ad', hA1, _, f0, f1, f2⟩ := hB'.1.2.1.zo HZ.out
    dsimp only at hA1
    injection hA1 with hA1
    subst hA1
    go_wp2_with fail
    refine bodyPost_ret (results_five rfl _ _ _) rfl ?_
    rw [HF.out, HE.out]
    exact ⟨rfl, hB'.2⟩
  · obtain ⟨t, htk⟩ : ∃ t, p.ts[0]? = some t := by
      cases h : p.ts with
      | nil => exact absurd h hts
      | cons t l => exact ⟨t, rfl⟩
    have hlt := (cnt_zero htk).1 hc
    have hpos : 0 < p.ts.length := (List.getElem?_eq_some_iff.1 htk).1
    have HE := Lib.hid (show endT p.ts 0 = t.at_ from endT_some htk)
    obtain ⟨ad2, hA2, _, e0, e1, _⟩ := HL.out.2.2.1.tt htk
    dsimp only at hA2
    subst hA2
    have HT := Lib.hid htk
    have hm : ((p.ts.length : Int) == 0) = false := by rw [beq_eq_false_iff_ne]; omega
    have hm1 : (0 : Int) < (p.ts.length : Int) := by omega
    simp only [Nat.zero_mul, show ∀ a : Addr, a.add 0 = a from fun a => by simp [Addr.add]] at e0 e1
    clear hts hc hix htk
    go_enter Tryd.func36, Tryd.ntmps36
    go_wp2_with fail
    refine HG.out.mono ?_
    rintro e w1 ⟨rfl, rfl⟩
    go_upto_region 16 with fail
    go_region_held3 (fun w' => w'.cell? ⟨g, 2, none⟩ = some (.slice (some ad1) p.zs.length k1) ∧ LocB w g p ⟨some ad1, k1, some ad2, k2⟩ w')
      (first | ((refine LocB.cell2 (LocB.drew ?_)); (with_reducible assumption)) | ((refine LocB.cell2 ?_); (with_reducible assumption)))
      (first | (go_at_call 39; ((with_reducible refine (HC.out _ ?_).mono ?_); (first | (with_reducible assumption) | ((with_reducible refine LocB.drew ?_); (with_reducible assumption))); rintro e w' ⟨rfl, hB'⟩)))
    clear c1 c2 c3 c4 c7 e0 e1
    obtain ⟨c1, c2, c3, c4, c7⟩ := hB'.1.1.loc
    dsimp only at c2 c3
    obtain ⟨ad', hA1, _, f0, f1, f2⟩ := hB'.1.2.1.zo HZ.out
    dsimp only at hA1
    injection hA1 with hA1
    subst hA1
    obtain ⟨ad', hA2, _, e0, e1, _⟩ := hB'.1.2.2.1.tt HT.out
    dsimp only at hA2
    injection hA2 with hA2
    subst hA2
    simp only [Nat.zero_mul, show ∀ a : Addr, a.add 0 = a from fun a => by simp [Addr.add]] at e0 e1
    go_wp2_with fail
    refine bodyPost_ret (results_five rfl _ _ _) rfl ?_
    rw [HF.out, HE.out]
    exact ⟨rfl, hB'.2⟩

end Go.Proofs.YtgmlclhdibajiaaDoor
