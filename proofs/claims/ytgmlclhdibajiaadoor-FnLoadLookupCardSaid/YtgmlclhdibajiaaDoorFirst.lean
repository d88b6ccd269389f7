/- firstZoneUsed and lookupFirstZone. -/
import Derived.Test.YtgmlclhdibajiaaDoorLoc
import Derived.BigQuiet
import Derived.Deep.DeepCutAuto
namespace Go.Proofs.YtgmlclhdibajiaaDoor
open Go.RowKit

set_option maxHeartbeats 1000000 in
theorem firstZoneUsed_ret (p : Pl) (a : Ad) (g : Nat) (w : World) (hL : Loc w g p a) (ht : (p.ts.length : Int) ≤ 2147483647) :
    Calls Tryd.prog 42 #[.pointer (some ⟨g, 0, none⟩)] w fun e w' => e = .returned (.bool (usedB p.ts)) ∧ Below w.heap.size w w' := by
  obtain ⟨A1, k1, A2, k2⟩ := a
  obtain ⟨c1, c2, c3, c4, c7⟩ := hL.1.loc
  dsimp only at c2 c3
  have HL := Lib.hid hL
  clear hL
  go_enter Tryd.func42, Tryd.ntmps42
  go_wp2_with fail
  go_loopw [10] (fun i W => ∃ k : Nat, k ≤ p.ts.length ∧ i = .int .i64 k ∧ Below w.heap.size w W ∧ Hid (∀ t ∈ p.ts.take k, (fun t : Tr => !decide (t.ix = 0)) t = true)) (fun i _ => p.ts.length - (intOf i).toNat)
  case atStart => exact ⟨0, Nat.zero_le _, rfl, Below.refl _ _, by simp [Hid]⟩
  case round =>
    clear c1 c2 c3 c4 c7
    obtain ⟨k, hk, rfl, hb, HA⟩ := hrel
    have hsz := hb.size
    by_cases hlt : k < p.ts.length
    · obtain ⟨t, htk⟩ : ∃ t, p.ts[k]? = some t := ⟨_, List.getElem?_eq_getElem hlt⟩
      obtain ⟨ad, rfl, hadB, e0, e1, e2, e3⟩ := (HL.out.2.2.1.below hb (Nat.le_refl _)).tt htk
      have HT := Lib.hid htk
      clear htk
      by_cases h0 : t.ix = 0
      · have hq : ((t.ix : Int) == 0) = true := by rw [h0]; rfl
        have HF := Lib.hid (show usedB p.ts = true by
          unfold usedB; rw [List.any_eq_true]; exact ⟨t, List.mem_of_getElem? HT.out, by simp [h0]⟩)
        clear h0
        go_wp2_with fail
        go_ret
        rw [HF.out]
        exact ⟨rfl, hb.alloc hsz _⟩
      · have hq : ((t.ix : Int) == 0) = false := by rw [beq_eq_false_iff_ne]; omega
        have HA' := Lib.hid (all_take_step (fun t : Tr => !decide (t.ix = 0)) p.ts k t HT.out HA.out (by simp [h0]))
        clear h0 HA
        go_wp2_with fail
        go_roundw
        case rel => exact ⟨k + 1, by omega, by go_num, hb.alloc hsz _, HA'⟩
        case measure => simp [intOf]; omega
    · have HF := Lib.hid (show usedB p.ts = false by
        have := HA.out
        rw [List.take_of_length_le (by omega)] at this
        unfold usedB; rw [List.any_eq_false]
        intro t ht
        have := this t ht
        simpa using this)
      go_wp2_with fail
      go_ret
      rw [HF.out]
      exact ⟨rfl, hb⟩

theorem getD_of {α : Type} {l : List α} {k : Nat} {x d : α} (h : l[k]? = some x) : l.getD k d = x := by simp [List.getD, h]
theorem upF_step (zs : List Zo) (k : Nat) (z : Zo) (h : zs[k]? = some z) : upF zs zs.length (zs.length - k) = if z.dst = false then some k else upF zs zs.length (zs.length - (k + 1)) := by
  have hk : k < zs.length := (List.getElem?_eq_some_iff.1 h).1
  obtain ⟨m, hm⟩ : ∃ m, zs.length - k = m + 1 := ⟨zs.length - k - 1, by omega⟩
  have e1 : zs.length - (m + 1) = k := by omega
  have e2 : zs.length - (k + 1) = m := by omega
  rw [hm, e2, upF, e1, getD_of h]

set_option maxRecDepth 100000 in
set_option maxHeartbeats 4000000 in
theorem lookupFirstZone_ret (p : Pl) (a : Ad) (g : Nat) (w : World) (hL : Loc w g p a) (hz : (p.zs.length : Int) ≤ 2147483647) (ht : (p.ts.length : Int) ≤ 2147483647) (hix : ∀ t ∈ p.ts, t.ix < p.zs.length) :
    Calls Tryd.prog 39 #[.pointer (some ⟨g, 0, none⟩)] w fun e w' => e = .returned (.int .i64 (firstZ p.zs p.ts : Int)) ∧ Below w.heap.size w w' := by
  obtain ⟨A1, k1, A2, k2⟩ := a
  have HU := firstZoneUsed_ret p ⟨A1, k1, A2, k2⟩ g w hL ht
  cases hu : usedB p.ts
  · rw [hu] at HU
    have HU := Lib.hid HU
    have HF := Lib.hid (show firstZ p.zs p.ts = 0 by unfold firstZ; rw [if_pos hu])
    clear hu
    go_enter Tryd.func39, Tryd.ntmps39
    go_wp2_with fail
    refine HU.out.mono ?_
    rintro e w1 ⟨rfl, hb1⟩
    go_wp2_with fail
    go_ret
    rw [HF.out]
    exact ⟨rfl, hb1⟩
  rw [hu] at HU
  have HU := Lib.hid HU
  obtain ⟨t, htk⟩ : ∃ t, p.ts[0]? = some t := by
    cases h : p.ts with
    | nil => rw [h] at hu; simp [usedB] at hu
    | cons t l => exact ⟨t, rfl⟩
  obtain ⟨z, hzk⟩ : ∃ z, p.zs[t.ix]? = some z := ⟨_, List.getElem?_eq_getElem (hix t (List.mem_of_getElem? htk))⟩
  have h256 : t.ix < 256 := hL.2.2.2 t (List.mem_of_getElem? htk)
  have hixl : (t.ix : Int) < (p.zs.length : Int) := by have := hix t (List.mem_of_getElem? htk); omega
  have HF : Hid (firstZ p.zs p.ts = if z.dst then (dnF p.zs t.ix).getD (up0 p.zs) else up0 p.zs) := by
    show firstZ p.zs p.ts = _
    unfold firstZ
    rw [if_neg (by rw [hu]; simp)]
    cases h : p.ts with
    | nil => rw [h] at htk; simp at htk
    | cons t' l =>
      rw [h] at htk
      simp at htk
      subst htk
      simp only []
      rw [getD_of hzk]
  have hpos : 0 < p.ts.length := (List.getElem?_eq_some_iff.1 htk).1
  obtain ⟨ad2, hA2, _⟩ := hL.2.2.1.tt htk
  obtain ⟨ad1, hA1, _⟩ := hL.2.1.zo hzk
  dsimp only at hA1 hA2
  subst hA1 hA2
  have HL := Lib.hid hL
  have HT := Lib.hid htk
  have HZ := Lib.hid hzk
  clear hL htk hzk hu hix
  have hd0 : decide ((0 : Int) < (p.ts.length : Int)) = true := decide_eq_true (by omega)
  have hd0' : decide (0 < p.ts.length) = true := decide_eq_true hpos
  have hn0 : (0 : Int) ≤ (t.ix : Int) := by omega
  go_enter Tryd.func39, Tryd.ntmps39
  go_wp2_with fail
  refine HU.out.mono ?_
  rintro e w1 ⟨rfl, hb1⟩
  have HL1 := Lib.hid (HL.out.below hb1)
  obtain ⟨c1, c2, c3, c4, c7⟩ := HL1.out.1.loc
  dsimp only at c2 c3
  obtain ⟨ad', hA2, _, e0, e1, _⟩ := HL1.out.2.2.1.tt HT.out
  dsimp only at hA2
  injection hA2 with hA2
  subst hA2
  obtain ⟨ad', hA1, _, f0, f1, f2⟩ := HL1.out.2.1.zo HZ.out
  dsimp only at hA1
  injection hA1 with hA1
  subst hA1
  simp only [Nat.zero_mul, show ∀ a : Addr, a.add 0 = a from fun a => by simp [Addr.add]] at e0 e1
  go_upto_region 3 with fail
  go_quiet (fail)
  go_upto_if 29 with fail
  go_cut [2] from 28 (fun _s2 W => Loc W g p ⟨some ad1, k1, some ad2, k2⟩ ∧ Below w.heap.size w W ∧ Hid (firstZ p.zs p.ts = up0 p.zs))
  case first =>
    cases hd : z.dst
    · have HF' : Hid (firstZ p.zs p.ts = up0 p.zs) := by show firstZ p.zs p.ts = _; rw [HF.out, hd]; rfl
      clear HF
      rw [hd] at f2
      go_wp2_with fail
      go_meet
      case rel => exact ⟨HL1.out.drewN _, below_drewN hb1 _, HF'⟩
    · have HF' : Hid (firstZ p.zs p.ts = (dnF p.zs t.ix).getD (up0 p.zs)) := by show firstZ p.zs p.ts = _; rw [HF.out, hd]; rfl
      clear HF
      rw [hd] at f2
      go_wp2_with fail
      go_loop [3] (fun i => ∃ (j : Nat) (q : Int), j ≤ t.ix ∧ q = (j : Int) - 1 ∧ i = .int .i64 q ∧ Hid (dnF p.zs t.ix = dnF p.zs j)) (fun i => (intOf i + 1).toNat)
      case atStart => exact ⟨t.ix, _, Nat.le_refl _, rfl, rfl, rfl⟩
      case round =>
        clear e0 e1 f0 f1 f2
        obtain ⟨j, q, hj, hq, rfl, HA⟩ := hrel
        rcases j with _ | m
        · obtain rfl : q = -1 := by omega
          have HG : Hid (firstZ p.zs p.ts = up0 p.zs) := by show firstZ p.zs p.ts = _; rw [HF'.out, HA.out]; rfl
          clear hq HA
          go_wp2_with fail
          go_meet
          case rel => exact ⟨HL1.out.drewN _, below_drewN hb1 _, HG⟩
        · obtain rfl : q = (m : Int) := by omega
          clear hq
          obtain ⟨y, hyk⟩ : ∃ y, p.zs[m]? = some y := ⟨_, List.getElem?_eq_getElem (by omega)⟩
          obtain ⟨ad', hA1, _, f0, f1, f2⟩ := HL1.out.2.1.zo hyk
          dsimp only at hA1
          injection hA1 with hA1
          subst hA1
          have HS : Hid (dnF p.zs (m + 1) = if y.dst = false then some m else dnF p.zs m) := by show dnF p.zs (m + 1) = _; rw [dnF, getD_of hyk]
          clear hyk
          have hm0 : (0 : Int) ≤ (m : Int) := by omega
          have hm1 : (m : Int) < (p.zs.length : Int) := by omega
          cases hyd : y.dst
          · have HG : Hid (firstZ p.zs p.ts = m) := by show firstZ p.zs p.ts = m; rw [HF'.out, HA.out, HS.out, hyd]; rfl
            rw [hyd] at f2
            clear HA HS hyd
            go_wp2_with fail
            go_ret
            rw [HG.out]
            exact ⟨rfl, below_drewN hb1 _⟩
          · have HA' : Hid (dnF p.zs t.ix = dnF p.zs m) := by show dnF p.zs t.ix = _; rw [HA.out, HS.out, hyd]; rfl
            rw [hyd] at f2
            clear HA HS hyd
            go_wp2_with fail
            go_round
            case rel => exact ⟨m, _, by omega, rfl, rfl, HA'⟩
            case measure => simp [intOf]
  case rest =>
    clear c1 c2 c3 c4 c7 e0 e1 f0 f1 f2 HL1 hb1 HF
    obtain ⟨HLc, hbc, HF⟩ := hcut
    obtain ⟨c1, c2, c3, c4, c7⟩ := HLc.1.loc
    dsimp only at c2 c3
    go_wp2_with fail
    go_loop [58] (fun i => ∃ k : Nat, k ≤ p.zs.length ∧ i = .int .i64 k ∧ Hid (up0 p.zs = (upF p.zs p.zs.length (p.zs.length - k)).getD 0)) (fun i => p.zs.length - (intOf i).toNat)
    case atStart => exact ⟨0, Nat.zero_le _, rfl, by show up0 p.zs = _; rw [Nat.sub_zero, up0]⟩
    case round =>
      obtain ⟨k, hk, rfl, HA⟩ := hrel
      by_cases hlt : k < p.zs.length
      · obtain ⟨y, hyk⟩ : ∃ y, p.zs[k]? = some y := ⟨_, List.getElem?_eq_getElem hlt⟩
        obtain ⟨ad', hA1, _, f0, f1, f2⟩ := HLc.2.1.zo hyk
        dsimp only at hA1
        injection hA1 with hA1
        subst hA1
        have HS := Lib.hid (upF_step p.zs k y hyk)
        clear hyk
        cases hd : y.dst
        · have HG : Hid (firstZ p.zs p.ts = k) := by show firstZ p.zs p.ts = k; rw [HF.out, HA.out, HS.out, hd]; rfl
          rw [hd] at f2
          clear HA HS hd
          go_wp2_with fail
          go_ret
          rw [HG.out]
          exact ⟨rfl, hbc⟩
        · have HA' : Hid (up0 p.zs = (upF p.zs p.zs.length (p.zs.length - (k + 1))).getD 0) := by
            show up0 p.zs = _
            rw [HA.out, HS.out, hd]; rfl
          rw [hd] at f2
          clear HA HS hd
          go_wp2_with fail
          go_round
          case rel => exact ⟨k + 1, by omega, by go_num, HA'⟩
          case measure => simp [intOf]; omega
      · have HG : Hid (firstZ p.zs p.ts = 0) := by
          show firstZ p.zs p.ts = 0
          rw [HF.out, HA.out, show p.zs.length - k = 0 by omega]; rfl
        clear HA
        go_wp2_with fail
        go_ret
        rw [HG.out]
        exact ⟨rfl, hbc⟩

end Go.Proofs.YtgmlclhdibajiaaDoor
