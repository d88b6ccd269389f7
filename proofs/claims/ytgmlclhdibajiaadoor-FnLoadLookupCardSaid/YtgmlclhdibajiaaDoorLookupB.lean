/- The method lookup of a location, from the first transition on: the search by halves, and the rule behind the last one. -/
import Derived.Test.YtgmlclhdibajiaaDoorLookup
import Derived.Test.YtgmlclhdibajiaaDoorTzset
namespace Go.Proofs.YtgmlclhdibajiaaDoor
open Go.RowKit

theorem tzset_five (s : Bs) (hs : s.length ≤ 4294967296) (last sec : Int) (x : Fo) (ok : Bool) (hx : tzFo last sec (tzA s) = (x, ok)) : Ret 40 #[.string (S s), .int .i64 last, .int .i64 sec] (.tuple #[.string (S x.nm), .int .i64 x.off, .int .i64 x.st, .int .i64 x.en, .bool x.dst, .bool ok]) := by
  have := tzset_ret s hs last sec
  rw [tzEval_fo, hx] at this
  exact this

set_option maxRecDepth 1000000 in
set_option maxHeartbeats 16000000 in
theorem lookup_at (p : Pl) (a : Ad) (g : Nat) (w : World) (hL : Loc w g p a) (hz0 : 0 < p.zs.length) (hz : (p.zs.length : Int) ≤ 2147483647) (ht : (p.ts.length : Int) ≤ 2147483647) (hix : ∀ t ∈ p.ts, t.ix < p.zs.length) (hasc : asc p.ts) (hext : p.ext.length ≤ 4294967296) (sec : Int) (hc : 0 < cntT p.ts sec) :
    Calls Tryd.prog 36 #[.pointer (some ⟨g, 0, none⟩), .int .i64 sec] w fun e w' => e = .returned (fiveV (lookF p sec)) ∧ Below w.heap.size w w' := by
  obtain ⟨A1, k1, A2, k2⟩ := a
  have hcl := cntT_le p.ts sec
  have hpos : 0 < p.ts.length := by omega
  obtain ⟨t0, ht0⟩ : ∃ t, p.ts[0]? = some t := ⟨_, List.getElem?_eq_getElem hpos⟩
  have hge : ¬ sec < t0.at_ := fun h => by have := (cnt_zero (sec := sec) ht0).2 h; omega
  obtain ⟨ad2, hA2, _, e0, e1, _⟩ := hL.2.2.1.tt ht0
  dsimp only at hA2
  subst hA2
  simp only [Nat.zero_mul, show ∀ a : Addr, a.add 0 = a from fun a => by simp [Addr.add]] at e0 e1
  have HI := Lib.hid (fun m t => cnt_iff hasc sec m t)
  have HL := Lib.hid hL
  obtain ⟨c1, c2, c3, c4, c7⟩ := HL.out.1.loc
  dsimp only at c2 c3
  have HG := Lib.hid (get_ret g w)
  have hn : ((p.zs.length : Int) == 0) = false := by rw [beq_eq_false_iff_ne]; omega
  have hm : ((p.ts.length : Int) == 0) = false := by rw [beq_eq_false_iff_ne]; omega
  have hm1 : (0 : Int) < (p.ts.length : Int) := by omega
  have HIX := Lib.hid hix
  have HE := Lib.hid (show endT p.ts p.ts.length = 9223372036854775807 from endT_none (Nat.le_refl _))
  have HC := Lib.hid (show cntT p.ts sec = cntT p.ts sec from rfl)
  clear hL ht0 hasc hix
  generalize hcn : cntT p.ts sec = cn at *
  have HCN := Lib.hid hcn
  clear hcn HC
  go_enter Tryd.func36, Tryd.ntmps36
  go_wp2_with fail
  refine HG.out.mono ?_
  rintro e w1 ⟨rfl, rfl⟩
  go_wp2_with fail
  clear e0 e1 hge
  go_loop [7, 12, 13] (fun en l h => ∃ (lo hi : Nat) (x : Int), l = .int .i64 lo ∧ h = .int .i64 hi ∧ en = .int .i64 x ∧ lo < cn ∧ cn ≤ hi ∧ hi ≤ p.ts.length ∧ Hid (x = endT p.ts hi)) (fun _ l h => (intOf h - intOf l).toNat)
  case atStart => exact ⟨0, p.ts.length, _, rfl, rfl, rfl, by omega, by omega, Nat.le_refl _, HE.out.symm⟩
  case round =>
    obtain ⟨lo, hi, x, rfl, rfl, rfl, hlo, hhi, hhl, HX⟩ := hrel
    by_cases hgt : (1 : Int) < (hi : Int) - (lo : Int)
    · obtain ⟨t, htk⟩ : ∃ t, p.ts[(lo + hi) / 2]? = some t := ⟨_, List.getElem?_eq_getElem (by omega)⟩
      obtain ⟨ad', hA2, _, e0, e1, _⟩ := HL.out.2.2.1.tt htk
      dsimp only at hA2
      injection hA2 with hA2
      subst hA2
      have HM := Lib.hid (HI.out _ t htk)
      have HT := Lib.hid htk
      clear htk
      have hmid : Hid ((lo : Int) + (hi : Int) = ((lo + hi : Nat) : Int)) := by show _ = _; omega
      by_cases hs : sec < t.at_
      · have hcm : cn ≤ (lo + hi) / 2 := by
          rcases Nat.lt_or_ge ((lo + hi) / 2) cn with h | h
          · have := HM.out.1 h; omega
          · exact h
        have HX' := Lib.hid (show t.at_ = endT p.ts ((lo + hi) / 2) from (endT_some HT.out).symm)
        clear HX HM HT
        go_wp2_with fail
        refine ⟨⟨lo, (lo + hi) / 2, t.at_, rfl, by congr 1, rfl, hlo, hcm, by omega, HX'⟩, ?_⟩
        simp [intOf]; omega
      · have hcm : (lo + hi) / 2 < cn := HM.out.2 (by omega)
        clear HM HT
        go_wp2_with fail
        refine ⟨⟨(lo + hi) / 2, hi, x, by congr 1, rfl, rfl, hcm, hhi, hhl, HX⟩, ?_⟩
        simp [intOf]; omega
    · obtain rfl : hi = lo + 1 := by omega
      obtain rfl : cn = lo + 1 := by omega
      obtain ⟨t, htk⟩ : ∃ t, p.ts[lo]? = some t := ⟨_, List.getElem?_eq_getElem (by omega)⟩
      have hti := HIX.out t (List.mem_of_getElem? htk)
      have ht256 := HL.out.2.2.2 t (List.mem_of_getElem? htk)
      obtain ⟨z, hzk⟩ : ∃ z, p.zs[t.ix]? = some z := ⟨_, List.getElem?_eq_getElem hti⟩
      obtain ⟨ad', hA2, _, e0, e1, _⟩ := HL.out.2.2.1.tt htk
      dsimp only at hA2
      injection hA2 with hA2
      subst hA2
      obtain ⟨ad1, hA1, _, f0, f1, f2⟩ := HL.out.2.1.zo hzk
      dsimp only at hA1
      subst hA1
      have HP := Lib.hid (plainF_at p sec lo t z htk hzk HCN.out)
      have HT := Lib.hid htk
      have HZ := Lib.hid hzk
      clear htk hzk hlo hhi hgt
      have i0 : (0 : Int) ≤ (lo : Int) := by omega
      have i1 : (lo : Int) < (p.ts.length : Int) := by omega
      have j0 : (0 : Int) ≤ (t.ix : Int) := by omega
      have j1 : (t.ix : Int) < (p.zs.length : Int) := by omega
      by_cases hlast : p.ts.length = lo + 1
      · have hq : ((lo : Int) == (p.ts.length : Int) - 1) = true := by rw [beq_iff_eq]; omega
        cases hemp : p.ext.isEmpty
        · have hne : p.ext ≠ [] := by intro h; rw [h] at hemp; cases hemp
          obtain ⟨y, ok, hy⟩ : ∃ y ok, tzFo t.at_ sec (tzA p.ext) = (y, ok) := ⟨_, _, rfl⟩
          have HY := Lib.hid (tzset_five p.ext hext t.at_ sec y ok hy)
          have HE2 := Lib.hid (lookF_ext p sec lo t (fun h => by rw [h] at hz0; simp at hz0) HT.out hlast HCN.out hne y ok hy)
          clear hne hy
          have HLA := Lib.hid hlast
          clear hlast
          cases ok
          · have HF := Lib.hid (show fiveV (lookF p sec) = .tuple #[.string (S z.nm), .int .i64 z.off, .int .i64 t.at_, .int .i64 x, .bool z.dst] by rw [HE2.out, HX.out]; simp only [Bool.false_eq_true, if_false]; rw [HP.out]; rfl)
            clear HE2 HP HX
            go_upto_region 35 with fail
            go_quiet (fail)
            go_wp2_with fail
            refine (HY.out _).mono ?_
            rintro e w2 ⟨rfl, hb2⟩
            go_wp2_with fail
            refine bodyPost_ret (results_five rfl _ _ _) rfl ?_
            rw [HF.out]
            exact ⟨rfl, (below_drewN (Below.refl _ _) _).trans hb2⟩
          · have HF := Lib.hid (show fiveV (lookF p sec) = fiveV y by rw [HE2.out]; rfl)
            clear HE2 HP HX
            go_upto_region 35 with fail
            go_quiet (fail)
            go_wp2_with fail
            refine (HY.out _).mono ?_
            rintro e w2 ⟨rfl, hb2⟩
            go_wp2_with fail
            refine bodyPost_ret (results_five rfl _ _ _) rfl ?_
            rw [HF.out]
            exact ⟨rfl, (below_drewN (Below.refl _ _) _).trans hb2⟩
        · have hex : p.ext = [] := by cases h : p.ext with
            | nil => rfl
            | cons c l => rw [h] at hemp; cases hemp
          have HF := Lib.hid (show fiveV (lookF p sec) = .tuple #[.string (S z.nm), .int .i64 z.off, .int .i64 t.at_, .int .i64 x, .bool z.dst] by rw [lookF_mid p sec (.inr hex), HX.out, HP.out]; rfl)
          clear HP HX hex hlast
          go_upto_region 35 with fail
          go_quiet (fail)
          go_wp2_with fail
          refine bodyPost_ret (results_five rfl _ _ _) rfl ?_
          rw [HF.out]
          exact ⟨rfl, below_drewN (Below.refl _ _) _⟩
      · have hq : ((lo : Int) == (p.ts.length : Int) - 1) = false := by rw [beq_eq_false_iff_ne]; omega
        have HF := Lib.hid (show fiveV (lookF p sec) = .tuple #[.string (S z.nm), .int .i64 z.off, .int .i64 t.at_, .int .i64 x, .bool z.dst] by rw [lookF_mid p sec (.inl (by rw [HCN.out]; omega)), HX.out, HP.out]; rfl)
        clear HP HX hlast
        go_upto_region 35 with fail
        go_quiet (fail)
        go_wp2_with fail
        refine bodyPost_ret (results_five rfl _ _ _) rfl ?_
        rw [HF.out]
        exact ⟨rfl, below_drewN (Below.refl _ _) _⟩

end Go.Proofs.YtgmlclhdibajiaaDoor
