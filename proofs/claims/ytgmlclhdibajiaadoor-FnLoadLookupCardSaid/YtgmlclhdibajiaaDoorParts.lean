/- Data of a location; parts and Parts of the thin package. -/
import Derived.Test.YtgmlclhdibajiaaDoorImplLook
namespace Go.Proofs.YtgmlclhdibajiaaDoor
open Go.RowKit

theorem info_iZone : (Tryd.prog.info? 45).map (fun i => (i.zero, i.size, i.bytes)) = some (some (.agg #[.string ⟨#[]⟩, .int .i64 0, .bool false]), 3, 32) := by kernel_rfl
theorem info_iTransition : (Tryd.prog.info? 40).map (fun i => (i.zero, i.size, i.bytes)) = some (some (.agg #[.int .i64 0, .int .u8 0]), 2, 16) := by kernel_rfl
theorem results_four {fn : Func} {a b c d : Tmp} (h : fn.results = #[.tmp a, .tmp b, .tmp c, .tmp d]) (tmps : Array Value) (P : Program) (w : World) :
    (results fn tmps).run P w = .ok (.tuple #[tmps.getD a undef, tmps.getD b undef, tmps.getD c undef, tmps.getD d undef]) w := by simp [results, h]
theorem own_at {w : World} {base n : Nat} {e : TypeId} {size : Nat} {v : Value} {xs : List Value} (h : w.ownsRow base e size v n xs) {W : World} (hb : Below w.heap.size w W) : W.ownsRow base e size v n xs := by
  refine h.kept (row := none) ⟨hb.os, hb.tape, hb.output, hb.size, fun i hi _ => hb.block i hi⟩ ?_
  cases hv : v.ownBlock
  · exact .inl rfl
  · exact .inr (by simp)

set_option maxRecDepth 100000 in
set_option maxHeartbeats 8000000 in
theorem Data_ret (p : Pl) (a : Ad) (g : Nat) (w : World) (hL : Loc w g p a) (hz : (p.zs.length : Int) ≤ 2147483647) (ht : (p.ts.length : Int) ≤ 2147483647) :
    Calls Tryd.prog 33 #[.pointer (some ⟨g, 0, none⟩)] w fun e w' => ∃ A : Ad, e = .returned (.tuple #[.string (S p.nm), .slice A.A1 p.zs.length A.c1, .slice A.A2 p.ts.length A.c2, .string (S p.ext)]) ∧ PlIn w' w'.heap.size p A ∧ Below w.heap.size w w' := by
  obtain ⟨A1, k1, A2, k2⟩ := a
  obtain ⟨i0, hi0, hz0, hz1, hz2⟩ := info_parts info_Zone
  obtain ⟨j0, hj0, hj1, hj2, hj3⟩ := info_parts info_Transition
  have I0 := Lib.hid hi0
  have I1 := Lib.hid hz0
  have I2 := Lib.hid hz1
  have I3 := Lib.hid hz2
  have J0 := Lib.hid hj0
  have J1 := Lib.hid hj1
  have J2 := Lib.hid hj2
  have J3 := Lib.hid hj3
  clear hi0 hz0 hz1 hz2 hj0 hj1 hj2 hj3
  have HL := Lib.hid hL
  clear hL
  obtain ⟨c1, c2, c3, c4, c7⟩ := HL.out.1.loc
  dsimp only at c2 c3
  go_enter Tryd.func33, Tryd.ntmps33
  go_wp2_with fail
  go_loopw [3, 15] (fun v i W => ∃ k : Nat, k ≤ p.zs.length ∧ i = .int .i64 k ∧ Below w.heap.size w W ∧ W.ownsRow w.heap.size 85 3 v k (zosC (p.zs.take k))) (fun _ i _ => p.zs.length - (intOf i).toNat)
  case atStart => exact ⟨0, Nat.zero_le _, rfl, Below.refl _ _, World.ownsRow_nil _ _ _ _⟩
  case round =>
    clear c1 c2 c3 c4 c7
    rename_i v _
    obtain ⟨k, hk, rfl, hb, hown⟩ := hrel
    have hsz := hb.size
    by_cases hlt : k < p.zs.length
    · obtain ⟨z, hzk⟩ : ∃ z, p.zs[k]? = some z := ⟨_, List.getElem?_eq_getElem hlt⟩
      obtain ⟨ad, rfl, hadB, e0, e1, e2⟩ := (HL.out.2.1.below hb (Nat.le_refl _)).zo hzk
      have HF := Lib.hid (flat_snoc zoC p.zs k z hzk)
      clear hzk
      have HO := Lib.hid hown
      clear hown
      go_wp2_with (at_builtin; refine wpList_append_lies _ rfl (.tmp 19) (.tmp 27) 81 rfl w.heap.size 85 i0 _ 3 32 Tryd.underlying81 I0.out I1.out I2.out I3.out rfl (by decide) _ k (zosC (p.zs.take k)) rfl ((HO.out.alloc _).alloc _) ⟨wr.heap.size + 1, 0, none⟩ 1 1 [.string (S z.nm), .int .i64 z.off, .bool z.dst] rfl rfl (news3 _ _ (by simp) _ _ _ _) (by simp [Value.oneCell']) (by decide) (by unfold maxLen; omega) (by omega) (by simp; omega) (wr.heap.size + 1 + 1) (by simp) ?_; intro g' cap' w1 hown1 hgrow hat hltg)
      have hb1 : Below w.heap.size w w1 := ((hb.alloc hsz _).alloc (by simp; omega) _).grown hgrow (by simp; omega) (fun j hj => (HO.out.lt j hj).1)
      have hown2 : w1.ownsRow w.heap.size 85 3 (.slice (some ⟨g', 0, none⟩) (k + 1) cap') (k + 1) (zosC (p.zs.take (k + 1))) := by
        have e : zosC (p.zs.take (k + 1)) = zosC (p.zs.take k) ++ [.string (S z.nm), .int .i64 z.off, .bool z.dst] := HF.out
        rw [e]; exact hown1
      clear hown1 hgrow hat hb
      go_wp2_with fail
      go_roundw
      case rel => exact ⟨k + 1, by omega, by go_num, hb1, hown2⟩
      case measure => simp [intOf]; omega
    · obtain rfl : k = p.zs.length := by omega
      rw [List.take_of_length_le (Nat.le_refl _)] at hown
      have HO := Lib.hid hown
      clear hown
      obtain ⟨wo, rfl⟩ : ∃ wo : World, wo = wr := ⟨_, rfl⟩
      have HLo := Lib.hid (HL.out.below hb)
      obtain ⟨c1, c2, c3, c4, c7⟩ := HLo.out.1.loc
      dsimp only at c2 c3
      go_wp2_with fail
      go_loopw [4, 35] (fun v i W => ∃ k : Nat, k ≤ p.ts.length ∧ i = .int .i64 k ∧ Below wo.heap.size wo W ∧ W.ownsRow wo.heap.size 86 2 v k (trsC (p.ts.take k))) (fun _ i _ => p.ts.length - (intOf i).toNat)
      case atStart => exact ⟨0, Nat.zero_le _, rfl, Below.refl _ _, World.ownsRow_nil _ _ _ _⟩
      case round =>
        clear c1 c2 c3 c4 c7
        obtain ⟨k, hk2, rfl, hbo, hown⟩ := hrel
        have hszo := hbo.size
        by_cases hlt2 : k < p.ts.length
        · obtain ⟨t, htk⟩ : ∃ t, p.ts[k]? = some t := ⟨_, List.getElem?_eq_getElem hlt2⟩
          obtain ⟨ad, rfl, hadB, e0, e1, e2, e3⟩ := (HLo.out.2.2.1.below hbo (Nat.le_refl _)).tt htk
          have HF := Lib.hid (flat_snoc trC p.ts k t htk)
          clear htk
          have HO2 := Lib.hid hown
          clear hown
          go_wp2_with (at_builtin; refine wpList_append_lies _ rfl (.tmp 39) (.tmp 45) 82 rfl wo.heap.size 86 j0 _ 2 16 Tryd.underlying82 J0.out J1.out J2.out J3.out rfl (by decide) _ k (trsC (p.ts.take k)) rfl ((HO2.out.alloc _).alloc _) ⟨wr.heap.size + 1, 0, none⟩ 1 1 [.int .i64 t.at_, .int .u8 (t.ix : Int)] rfl rfl (news2 _ _ (by simp) _ _ _) (by simp [Value.oneCell']) (by decide) (by unfold maxLen; omega) (by omega) (by simp; omega) (wr.heap.size + 1 + 1) (by simp) ?_; intro g' cap' w1 hown1 hgrow hat hltg)
          have hbo1 : Below wo.heap.size wo w1 := ((hbo.alloc hszo _).alloc (by simp; omega) _).grown hgrow (by simp; omega) (fun j hj => (HO2.out.lt j hj).1)
          have hown2 : w1.ownsRow wo.heap.size 86 2 (.slice (some ⟨g', 0, none⟩) (k + 1) cap') (k + 1) (trsC (p.ts.take (k + 1))) := by
            have e : trsC (p.ts.take (k + 1)) = trsC (p.ts.take k) ++ [.int .i64 t.at_, .int .u8 (t.ix : Int)] := HF.out
            rw [e]; exact hown1
          clear hown1 hgrow hat hbo
          go_wp2_with fail
          go_roundw
          case rel => exact ⟨k + 1, by omega, by go_num, hbo1, hown2⟩
          case measure => simp [intOf]; omega
        · obtain rfl : k = p.ts.length := by omega
          rw [List.take_of_length_le (Nat.le_refl _)] at hown
          obtain ⟨Q1, q1, hv1, R1⟩ := own_rd (own_at HO.out hbo)
          obtain ⟨Q2, q2, hv2, R2⟩ := own_rd hown
          subst hv1 hv2
          have hb2 := hb.trans (hbo.mono hsz)
          have HP : Hid (PlIn wr wr.heap.size p ⟨Q1, q1, Q2, q2⟩) := ⟨R1, R2, HL.out.2.2.2⟩
          obtain ⟨c1, c2, c3, c4, c7⟩ := (HLo.out.below hbo).1.loc
          dsimp only at c2 c3
          clear hown R1 R2 hbo
          go_wp2_with fail
          go_quiet (fail)
          go_wp2_with fail
          refine bodyPost_ret (results_four rfl _ _ _) rfl ?_
          exact ⟨⟨Q1, q1, Q2, q2⟩, rfl, HP.out, below_drewN hb2 _⟩

theorem own_setv {w : World} {base n : Nat} {e : TypeId} {size : Nat} {v : Value} {xs : List Value} (h : w.ownsRow base e size v n xs) (q : Addr) (hp : q.block < base) (u : Value) : (w.setCell q u).ownsRow base e size v n xs := by
  refine ⟨h.1, ?_⟩
  rcases h.2 with h1 | ⟨g', cap', cur, h1, h2, h3, h4⟩
  · exact .inl h1
  · exact .inr ⟨g', cap', cur, h1, h2, (Below.heap_setCell w q u g' (by omega)).trans h3, h4⟩
theorem only_step' {a W W' : World} {g : Nat} {row : Option Nat} {o1 o2 : Obj} (h : a.grownBy W (some g)) (hg : ((W.alloc o1).alloc o2).grownBy W' row) (hr : ∀ j, row = some j → a.heap.size ≤ j) (u : Value) (i : Nat) : a.grownBy (W'.setCell ⟨g, i, none⟩ u) (some g) := by
  have hs : W.heap.size ≤ W'.heap.size := by have := hg.size; simp at this; omega
  refine ⟨hg.os.trans h.os, hg.tape.trans h.tape, hg.output.trans h.output, Nat.le_trans h.size (Nat.le_trans hs (by simp [World.setCell])), ?_⟩
  intro j hj hne
  have hjg : j ≠ g := fun e => hne (by rw [e])
  have h1 := h.block j hj hne
  have hjW : j < W.heap.size := Nat.lt_of_lt_of_le hj h.size
  have h2 : ((W.alloc o1).alloc o2).heap[j]? = W.heap[j]? := (Below.heap_alloc (W.alloc o1) o2 j (by simp; omega)).trans (Below.heap_alloc W o1 j hjW)
  have h3 := hg.block j (by simp; omega) (fun e => by have := hr j e.symm; omega)
  exact ((Below.heap_setCell W' ⟨g, i, none⟩ u j hjg).trans h3).trans (h2.trans h1)
theorem own_rdb {w : World} {base n : Nat} {e : TypeId} {size : Nat} {v : Value} {xs : List Value} (h : w.ownsRow base e size v n xs) : ∃ (A : Option Addr) (c : Nat), v = .slice A n c ∧ Rd w w.heap.size A n xs ∧ ∀ ad, A = some ad → base ≤ ad.block := by
  rcases h.2 with ⟨h1, h2⟩ | ⟨g, cap, cur, h1, h2, _⟩
  · exact ⟨none, 0, by rw [h1, h2], (fun hn => by omega), fun _ h => by cases h⟩
  · exact ⟨some ⟨g, 0, none⟩, cap, h1, (fun _ => ⟨_, rfl, (h.lt g (by rw [h1]; rfl)).2, h.cells (by rw [h1]; rfl)⟩), fun ad h => by injection h with h; rw [← h]; exact h2⟩
theorem Rd.far {w : World} {B : Nat} {A : Option Addr} {n : Nat} {xs : List Value} (h : Rd w B A n xs) (q : Addr) (hq : ∀ ad, A = some ad → ad.block ≠ q.block) (u : Value) : Rd (w.setCell q u) B A n xs := fun hn => by
  obtain ⟨ad, e, hb, hc⟩ := h hn
  refine ⟨ad, e, hb, fun j y hy => ?_⟩
  rw [← hc j y hy]
  refine World.cell?_of_block (Below.heap_setCell w q u _ ?_)
  rw [add_block]
  exact hq ad e
def NewAt (b : Nat) (a : Ad) : Prop := (∀ ad, a.A1 = some ad → b ≤ ad.block) ∧ ∀ ad, a.A2 = some ad → b ≤ ad.block
def outC (nm ext : Bs) (z t : Value) : Array Value := #[.string (S nm), z, t, .string (S ext)]
theorem Blk.out {w : World} {g : Nat} {nm ext : Bs} {z t : Value} (h : Blk w g 25 (outC nm ext z t)) :
    w.cell? ⟨g, 0, none⟩ = some (.string (S nm)) ∧ w.cell? ⟨g, 1, none⟩ = some z ∧ w.cell? ⟨g, 2, none⟩ = some t ∧ w.cell? ⟨g, 3, none⟩ = some (.string (S ext)) ∧ ∀ i, w.frozen? ⟨g, i, none⟩ = false :=
  ⟨h.cell 0, h.cell 1, h.cell 2, h.cell 3, fun i => h.frozen i⟩

set_option maxRecDepth 100000 in
set_option maxHeartbeats 8000000 in
theorem parts_ret (p : Pl) (a : Ad) (g : Nat) (w : World) (hL : Loc w g p a) (hz : (p.zs.length : Int) ≤ 2147483647) (ht : (p.ts.length : Int) ≤ 2147483647) :
    Calls Tryd.prog 21 #[.pointer (some ⟨g, 0, none⟩)] w fun e w' => ∃ A : Ad, e = .returned (plA p A) ∧ PlIn w' w'.heap.size p A ∧ Below w.heap.size w w' ∧ NewAt w.heap.size A := by
  obtain ⟨i0, hi0, hz0, hz1, hz2⟩ := info_parts info_iZone
  obtain ⟨j0, hj0, hj1, hj2, hj3⟩ := info_parts info_iTransition
  have I0 := Lib.hid hi0
  have I1 := Lib.hid hz0
  have I2 := Lib.hid hz1
  have I3 := Lib.hid hz2
  have J0 := Lib.hid hj0
  have J1 := Lib.hid hj1
  have J2 := Lib.hid hj2
  have J3 := Lib.hid hj3
  clear hi0 hz0 hz1 hz2 hj0 hj1 hj2 hj3
  have hba : Below w.heap.size w (w.alloc (.cells #[.string ⟨#[]⟩, .slice none 0 0, .slice none 0 0, .string ⟨#[]⟩] 25)) := (Below.refl _ _).alloc (Nat.le_refl _) _
  have BA := Blk.new w 25 #[.string ⟨#[]⟩, .slice none 0 0, .slice none 0 0, .string ⟨#[]⟩] _ rfl
  have HD := Lib.hid (Data_ret p a g _ (hL.alloc (.cells #[.string ⟨#[]⟩, .slice none 0 0, .slice none 0 0, .string ⟨#[]⟩] 25)) hz ht)
  clear hL
  go_enter Tryd.func21, Tryd.ntmps21
  go_wp2_with fail
  refine HD.out.mono ?_
  rintro e w1 ⟨⟨A1, k1, A2, k2⟩, rfl, HP, hb1⟩
  dsimp only
  have hb2 := hba.trans (hb1.mono hba.size)
  have B2 := BA.keep hb1
  clear HD BA hba hb1
  have hsz1 := hb2.size
  have hlt1 := B2.lt
  have BO : Blk (w1.alloc (.cells #[.string (S p.nm), .slice none 0 0, .slice none 0 0, .string (S p.ext)] 25)) w1.heap.size 25 (outC p.nm p.ext (.slice none 0 0) (.slice none 0 0)) := Blk.new w1 _ _ _ rfl
  have HPH := Lib.hid HP
  clear HP
  go_wp2_with fail
  go_loopw [24] (fun i W => ∃ (k : Nat) (v : Value), k ≤ p.zs.length ∧ i = .int .i64 k ∧ Blk W w1.heap.size 25 (outC p.nm p.ext v (.slice none 0 0)) ∧ Below w1.heap.size w1 W ∧ W.ownsRow (w1.heap.size + 1) 45 3 v k (zosC (p.zs.take k))) (fun i _ => p.zs.length - (intOf i).toNat)
  case atStart => exact ⟨0, _, Nat.zero_le _, rfl, BO, (Below.refl _ _).alloc (Nat.le_refl _) _, World.ownsRow_nil _ _ _ _⟩
  case round =>
    clear BO
    obtain ⟨k, v, hk, rfl, BL, hb, hown⟩ := hrel
    obtain ⟨c0, c1, c2, c3, cf⟩ := BL.out
    have hsz := hb.size
    have hlt0 := BL.lt
    by_cases hlt : k < p.zs.length
    · obtain ⟨z, hzk⟩ : ∃ z, p.zs[k]? = some z := ⟨_, List.getElem?_eq_getElem hlt⟩
      obtain ⟨ad, hA, hadB, e0, e1, e2⟩ := (HPH.out.1.below hb (Nat.le_refl _)).zo hzk
      dsimp only at hA
      subst hA
      have HF := Lib.hid (flat_snoc zoC p.zs k z hzk)
      clear hzk
      have HO := Lib.hid hown
      clear hown
      have hne := own_ne HO.out (Nat.lt_succ_self _)
      go_wp2_with (at_builtin; refine wpList_append_lies _ rfl (.tmp 29) (.tmp 37) 22 rfl (w1.heap.size + 1) 45 i0 _ 3 32 Tryd.underlying22 I0.out I1.out I2.out I3.out rfl (by decide) v k (zosC (p.zs.take k)) rfl ((HO.out.alloc _).alloc _) ⟨wr.heap.size + 1, 0, none⟩ 1 1 [.string (S z.nm), .int .i64 z.off, .bool z.dst] rfl rfl (news3 _ _ (by simp) _ _ _ _) (by simp [Value.oneCell']) (by decide) (by unfold maxLen; omega) (by omega) (by simp; omega) (wr.heap.size + 1 + 1) (by simp) ?_; intro g' cap' u1 hown1 hgrow hat hltg; have k0 := (hgrow.cell_far ⟨w1.heap.size, 1, none⟩ (by simp; omega) (Ne.symm hne)); have k1' := (hgrow.frozen_far ⟨w1.heap.size, 1, none⟩ (by simp; omega) (Ne.symm hne)))
      have B1 : Blk u1 w1.heap.size 25 (outC p.nm p.ext v (.slice none 0 0)) := ((BL.alloc _).alloc _).grown hgrow (Ne.symm hne)
      have hbu : Below w1.heap.size w1 u1 := ((hb.alloc hsz _).alloc (by simp; omega) _).grown hgrow (by simp; omega) (fun j hj => by have := (HO.out.lt j hj).1; omega)
      have BL2 := B1.set 1 (.slice (some ⟨g', 0, none⟩) (k + 1) cap')
      have hb3 : Below w1.heap.size w1 (u1.setCell ⟨w1.heap.size, 1, none⟩ (.slice (some ⟨g', 0, none⟩) (k + 1) cap')) := hbu.setCell (Nat.le_refl _) _
      have hown2 : (u1.setCell ⟨w1.heap.size, 1, none⟩ (.slice (some ⟨g', 0, none⟩) (k + 1) cap')).ownsRow (w1.heap.size + 1) 45 3 (.slice (some ⟨g', 0, none⟩) (k + 1) cap') (k + 1) (zosC (p.zs.take (k + 1))) := by
        have e : zosC (p.zs.take (k + 1)) = zosC (p.zs.take k) ++ [.string (S z.nm), .int .i64 z.off, .bool z.dst] := HF.out
        rw [e]; exact own_set hown1 _ (by simp) _
      clear hown1 hgrow hat BL hb hbu B1 k0 k1' c0 c1 c2 c3 cf
      try go_wp2_with fail
      go_roundw
      case rel => exact ⟨k + 1, _, by omega, by go_num, BL2, hb3, hown2⟩
      case measure => simp [intOf]; omega
    · obtain rfl : k = p.zs.length := by omega
      rw [List.take_of_length_le (Nat.le_refl _)] at hown
      have HO := Lib.hid hown
      clear hown
      obtain ⟨wo, rfl⟩ : ∃ wo : World, wo = wr := ⟨_, rfl⟩
      go_wp2_with fail
      go_loopw [43] (fun i W => ∃ (k : Nat) (v2 : Value), k ≤ p.ts.length ∧ i = .int .i64 k ∧ Blk W w1.heap.size 25 (outC p.nm p.ext v v2) ∧ Below w1.heap.size w1 W ∧ wo.grownBy W (some w1.heap.size) ∧ W.ownsRow wo.heap.size 40 2 v2 k (trsC (p.ts.take k))) (fun i _ => p.ts.length - (intOf i).toNat)
      case atStart => exact ⟨0, _, Nat.zero_le _, rfl, BL, hb, World.grownBy.refl _ _, World.ownsRow_nil _ _ _ _⟩
      case round =>
        clear c0 c1 c2 c3 cf BL hb hsz hlt hk
        obtain ⟨k, v2, hk, rfl, BL, hb, hgo, hown⟩ := hrel
        obtain ⟨c0, c1, c2, c3, cf⟩ := BL.out
        have hsz := hb.size
        have hszo := hgo.size
        have hltw := BL.lt
        by_cases hlt : k < p.ts.length
        · obtain ⟨t, htk⟩ : ∃ t, p.ts[k]? = some t := ⟨_, List.getElem?_eq_getElem hlt⟩
          obtain ⟨ad, hA, hadB, e0, e1⟩ := (HPH.out.2.1.below hb (Nat.le_refl _)).tr htk
          dsimp only at hA
          subst hA
          have HF := Lib.hid (flat_snoc trC p.ts k t htk)
          clear htk
          have HO2 := Lib.hid hown
          clear hown
          have hne := own_ne HO2.out hlt0
          go_wp2_with (at_builtin; refine wpList_append_lies _ rfl (.tmp 48) (.tmp 54) 23 rfl wo.heap.size 40 j0 _ 2 16 Tryd.underlying23 J0.out J1.out J2.out J3.out rfl (by decide) v2 k (trsC (p.ts.take k)) rfl ((HO2.out.alloc _).alloc _) ⟨wr.heap.size + 1, 0, none⟩ 1 1 [.int .i64 t.at_, .int .u8 (t.ix : Int)] rfl rfl (news2 _ _ (by simp) _ _ _) (by simp [Value.oneCell']) (by decide) (by unfold maxLen; omega) (by omega) (by simp; omega) (wr.heap.size + 1 + 1) (by simp) ?_; intro g' cap' u1 hown1 hgrow hat hltg; have k0 := (hgrow.cell_far ⟨w1.heap.size, 2, none⟩ (by simp; omega) (Ne.symm hne)); have k1' := (hgrow.frozen_far ⟨w1.heap.size, 2, none⟩ (by simp; omega) (Ne.symm hne)))
          have B1 : Blk u1 w1.heap.size 25 (outC p.nm p.ext v v2) := ((BL.alloc _).alloc _).grown hgrow (Ne.symm hne)
          have hbu : Below w1.heap.size w1 u1 := ((hb.alloc hsz _).alloc (by simp; omega) _).grown hgrow (by simp; omega) (fun j hj => by have := (HO2.out.lt j hj).1; omega)
          have BL2 := B1.set 2 (.slice (some ⟨g', 0, none⟩) (k + 1) cap')
          have hb3 : Below w1.heap.size w1 (u1.setCell ⟨w1.heap.size, 2, none⟩ (.slice (some ⟨g', 0, none⟩) (k + 1) cap')) := hbu.setCell (Nat.le_refl _) _
          have hgo2 := only_step' hgo hgrow (fun j hj => (HO2.out.lt j hj).1) (.slice (some ⟨g', 0, none⟩) (k + 1) cap') 2
          have hown2 : (u1.setCell ⟨w1.heap.size, 2, none⟩ (.slice (some ⟨g', 0, none⟩) (k + 1) cap')).ownsRow wo.heap.size 40 2 (.slice (some ⟨g', 0, none⟩) (k + 1) cap') (k + 1) (trsC (p.ts.take (k + 1))) := by
            have e : trsC (p.ts.take (k + 1)) = trsC (p.ts.take k) ++ [.int .i64 t.at_, .int .u8 (t.ix : Int)] := HF.out
            rw [e]; exact own_set hown1 _ hlt0 _
          clear hown1 hgrow hat BL hb hbu B1 hgo k0 k1' c0 c1 c2 c3 cf
          try go_wp2_with fail
          go_roundw
          case rel => exact ⟨k + 1, _, by omega, by go_num, BL2, hb3, hgo2, hown2⟩
          case measure => simp [intOf]; omega
        · obtain rfl : k = p.ts.length := by omega
          rw [List.take_of_length_le (Nat.le_refl _)] at hown
          have hk1 := HO.out.kept hgo (.inr (own_ne HO.out (Nat.lt_succ_self _)))
          obtain ⟨Q1, q1, hv1, _⟩ := own_rd hk1
          obtain ⟨Q2, q2, hv2, _⟩ := own_rd hown
          subst hv1 hv2
          have O1 := own_setv (own_setv (own_setv (own_setv hk1 ⟨w.heap.size, 0, none⟩ (by simp; omega) (.string (S p.nm))) ⟨w.heap.size, 1, none⟩ (by simp; omega) (.slice Q1 p.zs.length q1)) ⟨w.heap.size, 2, none⟩ (by simp; omega) (.slice Q2 p.ts.length q2)) ⟨w.heap.size, 3, none⟩ (by simp; omega) (.string (S p.ext))
          have O2 := own_setv (own_setv (own_setv (own_setv hown ⟨w.heap.size, 0, none⟩ (by simp; omega) (.string (S p.nm))) ⟨w.heap.size, 1, none⟩ (by simp; omega) (.slice Q1 p.zs.length q1)) ⟨w.heap.size, 2, none⟩ (by simp; omega) (.slice Q2 p.ts.length q2)) ⟨w.heap.size, 3, none⟩ (by simp; omega) (.string (S p.ext))
          obtain ⟨_, _, h1, R1, N1⟩ := own_rdb O1
          injection h1 with h1 _ h1'
          subst h1 h1'
          obtain ⟨_, _, h2, R2, N2⟩ := own_rdb O2
          injection h2 with h2 _ h2'
          subst h2 h2'
          have HNA : Hid (NewAt w.heap.size ⟨Q1, q1, Q2, q2⟩) := ⟨fun ad h => by have := N1 ad h; omega, fun ad h => by have := N2 ad h; omega⟩
          clear N1 N2
          have HQ := Lib.hid R1
          have HQ2 := Lib.hid R2
          have BW := B2.below hb hlt1
          obtain ⟨r0, r1, r2, r3, rf⟩ := BW.out
          have hbW := hb2.trans (hb.mono hsz1)
          have hltW := BW.lt
          have hneq : w.heap.size ≠ w1.heap.size := by omega
          clear hown R1 R2 hgo hk1 O1 O2
          go_wp2_with fail
          refine bodyPost_ret (v := .agg #[.string (S p.nm), .slice Q1 p.zs.length q1, .slice Q2 p.ts.length q2, .string (S p.ext)]) (by simp only [results, Tryd.results21]; go_simp) rfl ?_
          exact ⟨⟨Q1, q1, Q2, q2⟩, rfl, ⟨HQ.out, HQ2.out, HPH.out.2.2⟩, by go_grown, HNA.out⟩


end Go.Proofs.YtgmlclhdibajiaaDoor
