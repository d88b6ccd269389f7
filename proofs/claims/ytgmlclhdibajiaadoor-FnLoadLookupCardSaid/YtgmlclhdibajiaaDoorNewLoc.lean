/- NewLocation: a location in memory. -/
import Derived.Test.YtgmlclhdibajiaaDoorLoc
namespace Go.Proofs.YtgmlclhdibajiaaDoor
open Go.RowKit

set_option maxRecDepth 100000 in
set_option maxHeartbeats 40000000 in
theorem NewLocation_ret (p : Pl) (a : Ad) (w : World) (B : Nat) (hB : B ≤ w.heap.size) (hR : PlIn w B p a) (hz : (p.zs.length : Int) ≤ 2147483647) (ht : (p.ts.length : Int) ≤ 2147483647) :
    Calls Tryd.prog 35 #[.string (S p.nm), .slice a.A1 p.zs.length a.c1, .slice a.A2 p.ts.length a.c2, .string (S p.ext)] w fun e w' => ∃ v, e = .returned v ∧ IsLoc w p v w' := by
  obtain ⟨A1, k1, A2, k2⟩ := a
  dsimp only
  obtain ⟨i0, hi0, hz0, hz1, hz2⟩ := info_parts info_zone
  obtain ⟨j0, hj0, hj1, hj2, hj3⟩ := info_parts info_zoneTrans
  have I0 := Lib.hid hi0
  have I1 := Lib.hid hz0
  have I2 := Lib.hid hz1
  have I3 := Lib.hid hz2
  have J0 := Lib.hid hj0
  have J1 := Lib.hid hj1
  have J2 := Lib.hid hj2
  have J3 := Lib.hid hj3
  clear hi0 hz0 hz1 hz2 hj0 hj1 hj2 hj3
  have HR := Lib.hid hR
  clear hR
  have BL : Blk (w.alloc (.cells #[.bool false, .string (S p.nm), .slice none 0 0, .slice none 0 0, .string (S p.ext), .int .i64 0, .int .i64 0, .pointer none] 80)) w.heap.size 80 (locC p.nm p.ext (.slice none 0 0) (.slice none 0 0)) := Blk.new w _ _ _ rfl
  go_enter Tryd.func35, Tryd.ntmps35
  go_wp2_with fail
  go_loopw [20] (fun i W => ∃ (k : Nat) (v : Value), k ≤ p.zs.length ∧ i = .int .i64 k ∧ Blk W w.heap.size 80 (locC p.nm p.ext v (.slice none 0 0)) ∧ Below w.heap.size w W ∧ W.ownsRow (w.heap.size + 1) 68 3 v k (zosC (p.zs.take k))) (fun i _ => p.zs.length - (intOf i).toNat)
  case atStart => exact ⟨0, _, Nat.zero_le _, rfl, BL, (Below.refl _ _).alloc (Nat.le_refl _) _, World.ownsRow_nil _ _ _ _⟩
  case round =>
    clear BL
    obtain ⟨k, v, hk, rfl, BL, hb, hown⟩ := hrel
    obtain ⟨c1, c2, c3, c4, c7⟩ := BL.loc
    have hf2 := BL.frozen 2
    have hsz := hb.size
    have hlt0 := BL.lt
    by_cases hlt : k < p.zs.length
    · obtain ⟨z, hzk⟩ : ∃ z, p.zs[k]? = some z := ⟨_, List.getElem?_eq_getElem hlt⟩
      obtain ⟨ad, rfl, hadB, e0, e1, e2⟩ := (HR.out.1.below hb hB).zo hzk
      have HF := Lib.hid (flat_snoc zoC p.zs k z hzk)
      clear hzk
      have HO := Lib.hid hown
      clear hown
      have hne := own_ne HO.out (Nat.lt_succ_self _)
      go_upto_region 5 with fail
      go_region_law ((refine step_append_lies _ rfl (.tmp 28) (.tmp 36) 66 rfl (w.heap.size + 1) 68 i0 _ 3 32 Tryd.underlying66 I0.out I1.out I2.out I3.out rfl (by decide) v k (zosC (p.zs.take k)) (by simp [Act.eval]) ((HO.out.alloc _).alloc _).drew ⟨wr.heap.size + 1, 0, none⟩ 1 1 [.string (S z.nm), .int .i64 z.off, .bool z.dst] (by simp [Act.eval]) rfl (news3 _ _ (by simp) _ _ _ _) (by simp [Value.oneCell']) (by decide) (by unfold maxLen; omega) (by omega) (by simp; omega) (wr.heap.size + 1 + 1) (by simp) ?_; intro g' cap' w1 hown1 hgrow hat hltg; have k0 := (hgrow.cell_far ⟨w.heap.size, 2, none⟩ (by simp; omega) (Ne.symm hne)); have k1 := (hgrow.frozen_far ⟨w.heap.size, 2, none⟩ (by simp; omega) (Ne.symm hne))))
      all_goals
        have hgr2 := hgrow.block w.heap.size (by show w.heap.size < ((wr.alloc _).alloc _).heap.size; simp; omega) (Ne.symm hne)
        have B1 : Blk w1 w.heap.size 80 (locC p.nm p.ext v (.slice none 0 0)) := hgr2.trans ((BL.alloc _).alloc _)
        have BL2 : Blk (w1.setCell ⟨w.heap.size, 2, none⟩ (.slice (some ⟨g', 0, none⟩) (k + 1) cap')) w.heap.size 80 (locC p.nm p.ext (.slice (some ⟨g', 0, none⟩) (k + 1) cap') (.slice none 0 0)) := B1.set 2 _
        have hb2 : Below w.heap.size w (w1.setCell ⟨w.heap.size, 2, none⟩ (.slice (some ⟨g', 0, none⟩) (k + 1) cap')) := ((((hb.alloc hsz _).alloc (by simp; omega) _).drew).grown hgrow (by show w.heap.size ≤ ((wr.alloc _).alloc _).heap.size; simp; omega) (fun j hj => by have := (HO.out.lt j hj).1; omega)).setCell (Nat.le_refl _) _
        have hown2 : (w1.setCell ⟨w.heap.size, 2, none⟩ (.slice (some ⟨g', 0, none⟩) (k + 1) cap')).ownsRow (w.heap.size + 1) 68 3 (.slice (some ⟨g', 0, none⟩) (k + 1) cap') (k + 1) (zosC (p.zs.take (k + 1))) := by
          have e : zosC (p.zs.take (k + 1)) = zosC (p.zs.take k) ++ [.string (S z.nm), .int .i64 z.off, .bool z.dst] := HF.out
          rw [e]; exact own_set hown1 _ (by simp) _
        clear hown1 hgrow hat B1 hgr2 k0 k1 c1 c2 c3 c4 c7 hf2 BL hb
        generalize w1.setCell ⟨w.heap.size, 2, none⟩ (.slice (some ⟨g', 0, none⟩) (k + 1) cap') = w2 at *
        go_wp2_with fail
        go_roundw
        case rel => exact ⟨k + 1, _, by omega, by go_num, BL2, hb2, hown2⟩
        case measure => simp [intOf]; omega
    · obtain rfl : k = p.zs.length := by omega
      rw [List.take_of_length_le (Nat.le_refl _)] at hown
      have HO := Lib.hid hown
      clear hown
      obtain ⟨wo, rfl⟩ : ∃ wo : World, wo = wr := ⟨_, rfl⟩
      go_wp2_with fail
      go_loopw [43] (fun i W => ∃ (k : Nat) (v2 : Value), k ≤ p.ts.length ∧ i = .int .i64 k ∧ Blk W w.heap.size 80 (locC p.nm p.ext v v2) ∧ Below w.heap.size w W ∧ wo.grownBy W (some w.heap.size) ∧ W.ownsRow wo.heap.size 77 4 v2 k (ttsC (p.ts.take k))) (fun i _ => p.ts.length - (intOf i).toNat)
      case atStart => exact ⟨0, _, Nat.zero_le _, rfl, BL, hb, World.grownBy.refl _ _, World.ownsRow_nil _ _ _ _⟩
      case round =>
        clear c1 c2 c3 c4 c7 hf2 BL hb hsz hlt hk
        obtain ⟨k, v2, hk, rfl, BL, hb, hgo, hown⟩ := hrel
        obtain ⟨c1, c2, c3, c4, c7⟩ := BL.loc
        have hf2 := BL.frozen 3
        have hsz := hb.size
        have hszo := hgo.size
        have hlt1 := BL.lt
        by_cases hlt : k < p.ts.length
        · obtain ⟨t, htk⟩ : ∃ t, p.ts[k]? = some t := ⟨_, List.getElem?_eq_getElem hlt⟩
          obtain ⟨ad, rfl, hadB, e0, e1⟩ := (HR.out.2.1.below hb hB).tr htk
          have HF := Lib.hid (flat_snoc ttC p.ts k t htk)
          clear htk
          have HO2 := Lib.hid hown
          clear hown
          have hne := own_ne HO2.out hlt0
          go_upto_region 10 with fail
          go_region_law ((refine step_append_lies _ rfl (.tmp 51) (.tmp 57) 72 rfl wo.heap.size 77 j0 _ 4 16 Tryd.underlying72 J0.out J1.out J2.out J3.out rfl (by decide) v2 k (ttsC (p.ts.take k)) (by simp [Act.eval]) ((HO2.out.alloc _).alloc _).drew ⟨wr.heap.size + 1, 0, none⟩ 1 1 [.int .i64 t.at_, .int .u8 (t.ix : Int), .bool false, .bool false] (by simp [Act.eval]) rfl (news4 _ _ (by simp) _ _ _ _ _) (by simp [Value.oneCell']) (by decide) (by unfold maxLen; omega) (by omega) (by simp; omega) (wr.heap.size + 1 + 1) (by simp) ?_; intro g' cap' w1 hown1 hgrow hat hltg; have k0 := (hgrow.cell_far ⟨w.heap.size, 3, none⟩ (by simp; omega) (Ne.symm hne)); have k1 := (hgrow.frozen_far ⟨w.heap.size, 3, none⟩ (by simp; omega) (Ne.symm hne))))
          all_goals
            have hgr2 := hgrow.block w.heap.size (by show w.heap.size < ((wr.alloc _).alloc _).heap.size; simp; omega) (Ne.symm hne)
            have B1 : Blk w1 w.heap.size 80 (locC p.nm p.ext v v2) := hgr2.trans ((BL.alloc _).alloc _)
            have BL2 : Blk (w1.setCell ⟨w.heap.size, 3, none⟩ (.slice (some ⟨g', 0, none⟩) (k + 1) cap')) w.heap.size 80 (locC p.nm p.ext v (.slice (some ⟨g', 0, none⟩) (k + 1) cap')) := B1.set 3 _
            have hb2 : Below w.heap.size w (w1.setCell ⟨w.heap.size, 3, none⟩ (.slice (some ⟨g', 0, none⟩) (k + 1) cap')) := ((((hb.alloc hsz _).alloc (by simp; omega) _).drew).grown hgrow (by show w.heap.size ≤ ((wr.alloc _).alloc _).heap.size; simp; omega) (fun j hj => by have := (HO2.out.lt j hj).1; omega)).setCell (Nat.le_refl _) _
            have hgo2 := only_step hgo hgrow (fun j hj => (HO2.out.lt j hj).1) (.slice (some ⟨g', 0, none⟩) (k + 1) cap') 3
            have hown2 : (w1.setCell ⟨w.heap.size, 3, none⟩ (.slice (some ⟨g', 0, none⟩) (k + 1) cap')).ownsRow wo.heap.size 77 4 (.slice (some ⟨g', 0, none⟩) (k + 1) cap') (k + 1) (ttsC (p.ts.take (k + 1))) := by
              have e : ttsC (p.ts.take (k + 1)) = ttsC (p.ts.take k) ++ [.int .i64 t.at_, .int .u8 (t.ix : Int), .bool false, .bool false] := HF.out
              rw [e]; exact own_set hown1 _ hlt0 _
            clear hown1 hgrow hat B1 hgr2 k0 k1 c1 c2 c3 c4 c7 hf2 BL hb hgo
            generalize w1.setCell ⟨w.heap.size, 3, none⟩ (.slice (some ⟨g', 0, none⟩) (k + 1) cap') = w2 at *
            go_wp2_with fail
            go_roundw
            case rel => exact ⟨k + 1, _, by omega, by go_num, BL2, hb2, hgo2, hown2⟩
            case measure => simp [intOf]; omega
        · obtain rfl : k = p.ts.length := by omega
          rw [List.take_of_length_le (Nat.le_refl _)] at hown
          obtain ⟨Q1, q1, hv1, R1⟩ := own_rd (HO.out.kept hgo (.inr (own_ne HO.out (Nat.lt_succ_self _))))
          obtain ⟨Q2, q2, hv2, R2⟩ := own_rd hown
          subst hv1 hv2
          have HL : Hid (IsLoc w p (.pointer (some ⟨w.heap.size, 0, none⟩)) wr) := ⟨_, ⟨Q1, q1, Q2, q2⟩, rfl, ⟨BL, R1, R2, HR.out.2.2⟩, hb⟩
          clear hown R1 R2 BL hb hgo
          go_wp2_with fail
          go_ret
          exact ⟨_, rfl, HL.out⟩

/-- the thin package's place, whole -/
theorem place_loc (p : Pl) (a : Ad) (w : World) (B : Nat) (hB : B ≤ w.heap.size) (hR : PlIn w B p a) (hz : (p.zs.length : Int) ≤ 2147483647) (ht : (p.ts.length : Int) ≤ 2147483647) :
    Calls Tryd.prog 23 #[plA p a] w fun e w' => ∃ v, e = .returned v ∧ IsLoc w p v w' := by
  refine place_ret p a w B hB hR hz ht (IsLoc w p) ?_
  intro W A hA hb
  refine (NewLocation_ret p A W W.heap.size (Nat.le_refl _) hA hz ht).mono ?_
  rintro e W' ⟨v, rfl, g, a', rfl, hL, hb'⟩
  exact ⟨_, rfl, g, a', rfl, hL, hb.trans (hb'.mono hb.size)⟩

end Go.Proofs.YtgmlclhdibajiaaDoor
