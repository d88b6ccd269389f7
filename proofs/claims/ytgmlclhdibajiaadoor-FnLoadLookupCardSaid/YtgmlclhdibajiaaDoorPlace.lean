/- The thin package's place: rows of zones and transitions are made anew, and handed to NewLocation. -/
import Derived.Test.YtgmlclhdibajiaaDoorPlaceOk
import Derived.Deep.AppendLies
import Derived.OwnWalk
import Derived.WalkKit
namespace Go.Proofs.YtgmlclhdibajiaaDoor
open Go.RowKit

theorem info_Zone : (Tryd.prog.info? 85).map (fun i => (i.zero, i.size, i.bytes)) = some (some (.agg #[.string ⟨#[]⟩, .int .i64 0, .bool false]), 3, 32) := by kernel_rfl
theorem info_Transition : (Tryd.prog.info? 86).map (fun i => (i.zero, i.size, i.bytes)) = some (some (.agg #[.int .i64 0, .int .u8 0]), 2, 16) := by kernel_rfl

/-- a row of the call's own, as a slice that reads as its cells -/
theorem Rd.own {w : World} {base : Nat} {e : TypeId} {size g n cap : Nat} {xs : List Value} (h : w.ownsRow base e size (.slice (some ⟨g, 0, none⟩) n cap) n xs) : Rd w w.heap.size (some ⟨g, 0, none⟩) n xs := fun _ =>
  ⟨_, rfl, (h.lt g rfl).2, h.cells rfl⟩
theorem own_below {w w' : World} {B base : Nat} {e : TypeId} {size g n cap : Nat} {xs : List Value} (h : w.ownsRow base e size (.slice (some ⟨g, 0, none⟩) n cap) n xs) (hb : Below B w w') (hg : g < B) : w'.ownsRow base e size (.slice (some ⟨g, 0, none⟩) n cap) n xs := by
  refine ⟨h.1, ?_⟩
  rcases h.2 with ⟨h1, _⟩ | ⟨g', cap', cur, h1, h2, h3, h4⟩
  · cases h1
  · have : g' = g := by injection h1 with h1; injection h1 with h1; injection h1 with h1; exact h1.symm
    subst this
    exact .inr ⟨g', cap', cur, h1, h2, (hb.block g' hg).trans h3, h4⟩

theorem InP.grown {w W W' : World} {p : Pl} {a : Ad} {row : Option Nat} (h : InP w p a W) (hg : W.grownBy W' row) (hr : ∀ j, row = some j → w.heap.size + 1 ≤ j) : InP w p a W' :=
  ⟨(hg.block w.heap.size h.1.lt (fun e => by have := hr _ e.symm; omega)).trans h.1, h.2.grown hg h.2.size (fun j hj => by have := hr j hj; omega)⟩
theorem own_row {base g k cap : Nat} {w : World} {e : TypeId} {size : Nat} {xs : List Value} (h : w.ownsRow base e size (.slice (some ⟨g, 0, none⟩) k cap) k xs) : ∀ j, (Value.slice (some ⟨g, 0, none⟩) k cap).ownBlock = some j → base ≤ j := by
  intro j hj
  exact (h.lt j hj).1
theorem news3 (w : World) (H : Nat) (hH : w.heap.size = H) (t : TypeId) (u v x : Value) : ∀ (j : Nat) (y : Value), [u, v, x][j]? = some y → (w.alloc (.cells #[u, v, x] t)).cell? ((⟨H, 0, none⟩ : Addr).add j) = some y := by
  subst hH
  exact World.news_of_block (cs := #[u, v, x]) (t := t) (fr := (0, 0)) (heap_alloc_new w _)
theorem news2 (w : World) (H : Nat) (hH : w.heap.size = H) (t : TypeId) (u v : Value) : ∀ (j : Nat) (y : Value), [u, v][j]? = some y → (w.alloc (.cells #[u, v] t)).cell? ((⟨H, 0, none⟩ : Addr).add j) = some y := by
  subst hH
  exact World.news_of_block (cs := #[u, v]) (t := t) (fr := (0, 0)) (heap_alloc_new w _)
theorem own_lit0 (w : World) (e : TypeId) (size base : Nat) (hb : base ≤ w.heap.size) (H : Nat) (hH : w.heap.size = H) : (w.alloc (.cells #[] e)).ownsRow base e size (.slice (some ⟨H, 0, none⟩) 0 0) 0 [] := by
  subst hH
  refine ⟨by simp, .inr ⟨w.heap.size, 0, #[], rfl, hb, heap_alloc_new w _, Nat.le_refl _, by simp [maxLen], by simp, by simp⟩⟩

set_option maxRecDepth 100000 in
set_option maxHeartbeats 8000000 in
theorem place_ret (p : Pl) (a : Ad) (w : World) (B : Nat) (hB : B ≤ w.heap.size) (hR : PlIn w B p a) (hz : (p.zs.length : Int) ≤ 2147483647) (ht : (p.ts.length : Int) ≤ 2147483647)
    (R : Value → World → Prop) (HN : Hid (∀ (W : World) (A : Ad), PlIn W W.heap.size p A → Below w.heap.size w W → Calls Tryd.prog 35 #[.string (S p.nm), .slice A.A1 p.zs.length A.c1, .slice A.A2 p.ts.length A.c2, .string (S p.ext)] W fun e W' => ∃ v, e = .returned v ∧ R v W')) :
    Calls Tryd.prog 23 #[plA p a] w fun e w' => ∃ v, e = .returned v ∧ R v w' := by
  obtain ⟨A1, k1, A2, k2⟩ := a
  obtain ⟨i0, hi0, hz0, hz1, hz2⟩ := info_parts info_Zone
  obtain ⟨j0, hj0, hj1, hj2, hj3⟩ := info_parts info_Transition
  have I0 := Lib.hid hi0
  have I1 := Lib.hid hz0
  have I2 := Lib.hid hz1
  have I3 := Lib.hid hz2
  have J0 := Lib.hid hj0
  have J1 := Lib.hid hj1
  have J2 := Lib.hid hj2
  have J3 := Lib.hid hj3
  clear hi0 hz0 hz1 hz2 hj0 hj1 hj2 hj3
  have HB0 := InP.new w p ⟨A1, k1, A2, k2⟩
  have HR := Lib.hid hR
  clear hR
  obtain ⟨c0, c1, c2, c3⟩ := HB0.cells
  unfold plA
  dsimp only at c1 c2 HB0 ⊢
  go_enter Tryd.func23, Tryd.ntmps23
  go_wp2_with fail
  go_loopw [3, 13] (fun v i W => ∃ k g cap : Nat, k ≤ p.zs.length ∧ i = .int .i64 k ∧ v = .slice (some ⟨g, 0, none⟩) k cap ∧ InP w p ⟨A1, k1, A2, k2⟩ W ∧ W.ownsRow (w.heap.size + 1) 85 3 (.slice (some ⟨g, 0, none⟩) k cap) k (zosC (p.zs.take k))) (fun _ i _ => p.zs.length - (intOf i).toNat)
  case atStart => exact ⟨0, w.heap.size + 1, 0, Nat.zero_le _, rfl, rfl, HB0.alloc _, own_lit0 _ _ _ _ (by simp) _ (by simp)⟩
  case round =>
    clear c0 c1 c2 c3 HB0
    obtain ⟨k, g, cap, hk, rfl, rfl, HX, hown⟩ := hrel
    obtain ⟨c0, c1, c2, c3⟩ := HX.cells
    dsimp only at c1 c2
    have hsz := HX.2.size
    have hlt0 := HX.1.lt
    by_cases hlt : k < p.zs.length
    · obtain ⟨z, hzk⟩ : ∃ z, p.zs[k]? = some z := ⟨_, List.getElem?_eq_getElem hlt⟩
      obtain ⟨ad, rfl, hadB, e0, e1, e2⟩ := (HR.out.1.below HX.2 hB).zo hzk
      have HF := Lib.hid (flat_snoc zoC p.zs k z hzk)
      clear hzk
      have HO := Lib.hid hown
      clear hown
      go_wp2_with (at_builtin; refine wpList_append_lies _ rfl (.tmp 17) (.tmp 25) 81 rfl (w.heap.size + 1) 85 i0 _ 3 32 Tryd.underlying81 I0.out I1.out I2.out I3.out rfl (by decide) (.slice (some ⟨g, 0, none⟩) k cap) k (zosC (p.zs.take k)) rfl ((HO.out.alloc _).alloc _) ⟨wr.heap.size + 1, 0, none⟩ 1 1 [.string (S z.nm), .int .i64 z.off, .bool z.dst] rfl rfl (news3 _ _ (by simp) _ _ _ _) (by simp [Value.oneCell']) (by decide) (by unfold maxLen; omega) (by omega) (by simp; omega) (wr.heap.size + 1 + 1) (by simp) ?_; intro g' cap' w1 hown1 hgrow hat hltg)
      have HX1 := ((HX.alloc _).alloc _).grown hgrow (own_row HO.out)
      have hown2 : w1.ownsRow (w.heap.size + 1) 85 3 (.slice (some ⟨g', 0, none⟩) (k + 1) cap') (k + 1) (zosC (p.zs.take (k + 1))) := by
        have e : zosC (p.zs.take (k + 1)) = zosC (p.zs.take k) ++ [.string (S z.nm), .int .i64 z.off, .bool z.dst] := HF.out
        rw [e]; exact hown1
      clear hown1 hgrow hat HX
      go_wp2_with fail
      go_roundw
      case rel => exact ⟨k + 1, g', cap', by omega, by go_num, rfl, HX1, hown2⟩
      case measure => simp [intOf]; omega
    · obtain rfl : k = p.zs.length := by omega
      rw [List.take_of_length_le (Nat.le_refl _)] at hown
      have HO := Lib.hid hown
      clear hown
      obtain ⟨wo, rfl⟩ : ∃ wo : World, wo = wr := ⟨_, rfl⟩
      go_wp2_with fail
      go_loopw [6, 32] (fun v i W => ∃ k g cap : Nat, k ≤ p.ts.length ∧ i = .int .i64 k ∧ v = .slice (some ⟨g, 0, none⟩) k cap ∧ InP w p ⟨A1, k1, A2, k2⟩ W ∧ Below wo.heap.size wo W ∧ W.ownsRow wo.heap.size 86 2 (.slice (some ⟨g, 0, none⟩) k cap) k (trsC (p.ts.take k))) (fun _ i _ => p.ts.length - (intOf i).toNat)
      case atStart => exact ⟨0, wo.heap.size, 0, Nat.zero_le _, rfl, rfl, HX.alloc _, (Below.refl _ _).alloc (Nat.le_refl _) _, own_lit0 _ _ _ _ (Nat.le_refl _) _ rfl⟩
      case round =>
        clear c0 c1 c2 c3 HX hsz hlt0 hlt hk
        obtain ⟨k, g2, cap2, hk, rfl, rfl, HX, hbo, hown⟩ := hrel
        obtain ⟨c0, c1, c2, c3⟩ := HX.cells
        dsimp only at c1 c2
        have hsz := HX.2.size
        have hlt0 := HX.1.lt
        have hszo := hbo.size
        have hg1 := (HO.out.lt g rfl).2
        have hg0 := (HO.out.lt g rfl).1
        by_cases hlt : k < p.ts.length
        · obtain ⟨t, htk⟩ : ∃ t, p.ts[k]? = some t := ⟨_, List.getElem?_eq_getElem hlt⟩
          obtain ⟨ad, rfl, hadB, e0, e1⟩ := (HR.out.2.1.below HX.2 hB).tr htk
          have HF := Lib.hid (flat_snoc trC p.ts k t htk)
          clear htk
          have HO2 := Lib.hid hown
          clear hown
          go_wp2_with (at_builtin; refine wpList_append_lies _ rfl (.tmp 36) (.tmp 42) 82 rfl wo.heap.size 86 j0 _ 2 16 Tryd.underlying82 J0.out J1.out J2.out J3.out rfl (by decide) (.slice (some ⟨g2, 0, none⟩) k cap2) k (trsC (p.ts.take k)) rfl ((HO2.out.alloc _).alloc _) ⟨wr.heap.size + 1, 0, none⟩ 1 1 [.int .i64 t.at_, .int .u8 (t.ix : Int)] rfl rfl (news2 _ _ (by simp) _ _ _) (by simp [Value.oneCell']) (by decide) (by unfold maxLen; omega) (by omega) (by simp; omega) (wr.heap.size + 1 + 1) (by simp) ?_; intro g' cap' w1 hown1 hgrow hat hltg)
          have hrow := own_row HO2.out
          have HX1 := ((HX.alloc _).alloc _).grown hgrow (fun j hj => by have := hrow j hj; omega)
          have hbo1 : Below wo.heap.size wo w1 := ((hbo.alloc hszo _).alloc (by simp; omega) _).grown hgrow (by simp; omega) hrow
          have hown2 : w1.ownsRow wo.heap.size 86 2 (.slice (some ⟨g', 0, none⟩) (k + 1) cap') (k + 1) (trsC (p.ts.take (k + 1))) := by
            have e : trsC (p.ts.take (k + 1)) = trsC (p.ts.take k) ++ [.int .i64 t.at_, .int .u8 (t.ix : Int)] := HF.out
            rw [e]; exact hown1
          clear hown1 hgrow hat HX hbo
          go_wp2_with fail
          go_roundw
          case rel => exact ⟨k + 1, g', cap', by omega, by go_num, rfl, HX1, hbo1, hown2⟩
          case measure => simp [intOf]; omega
        · obtain rfl : k = p.ts.length := by omega
          rw [List.take_of_length_le (Nat.le_refl _)] at hown
          have HP := HN.out wr ⟨some ⟨g, 0, none⟩, cap, some ⟨g2, 0, none⟩, cap2⟩ ⟨Rd.own (own_below HO.out hbo hg1), Rd.own hown, HR.out.2.2⟩ HX.2
          have HP := Lib.hid HP
          clear hown
          go_wp2_with fail
          refine HP.out.mono ?_
          rintro e w1 ⟨v, rfl, hv⟩
          go_wp2_with fail
          go_ret
          exact ⟨v, rfl, hv⟩

end Go.Proofs.YtgmlclhdibajiaaDoor
