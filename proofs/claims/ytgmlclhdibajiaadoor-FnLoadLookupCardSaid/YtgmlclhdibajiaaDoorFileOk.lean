/- The reference's FileOk. -/
import Derived.Test.YtgmlclhdibajiaaDoorPlaceOk
import Derived.Test.YtgmlclhdibajiaaDoorFilP
namespace Go.Proofs.YtgmlclhdibajiaaDoor
open Go.RowKit

def nzB (c : UInt8) : Bool := decide (c ≠ 0)
def nlB (c : UInt8) : Bool := decide (c ≠ 10)
def nmB (z : Zo) : Bool := z.nm.all nzB
def smB (small : Bool) (t : Tr) : Bool := !small || (decide (-2147483648 ≤ t.at_) && decide (t.at_ ≤ 2147483647))
/-- a place can be told by a file -/
def fileOkB (p : Pl) (small : Bool) : Bool := p.zs.all nmB && p.ts.all (smB small) && p.ext.all nlB && decide ((charsB p.zs).length ≤ 255) && plOkB p
theorem nzB_cases (c : UInt8) : (nzB c = true ∧ ((c.toNat : Int) == 0) = false) ∨ (nzB c = false ∧ ((c.toNat : Int) == 0) = true) := by
  by_cases h : c = 0
  · right; subst h; exact ⟨by decide, by decide⟩
  · left; refine ⟨by simp [nzB, h], ?_⟩
    rw [beq_eq_false_iff_ne]; intro e; exact h (UInt8.toNat_inj.1 (by show c.toNat = 0; omega))
theorem nlB_cases (c : UInt8) : (nlB c = true ∧ ((c.toNat : Int) == 10) = false) ∨ (nlB c = false ∧ ((c.toNat : Int) == 10) = true) := by
  by_cases h : c = 10
  · right; subst h; exact ⟨by decide, by decide⟩
  · left; refine ⟨by simp [nlB, h], ?_⟩
    rw [beq_eq_false_iff_ne]; intro e; exact h (UInt8.toNat_inj.1 (by show c.toNat = 10; omega))
theorem all_succ' {α : Type} (f : α → Bool) (l : List α) (k : Nat) (a : α) (h : l[k]? = some a) (ha : (l.take k).all f = true) (hf : f a = true) : (l.take (k + 1)).all f = true := by
  obtain ⟨hk, rfl⟩ := List.getElem?_eq_some_iff.1 h
  rw [List.take_succ_eq_append_getElem hk, List.all_append, ha]; simp [hf]
theorem all_end {α : Type} (f : α → Bool) (l : List α) (h : (l.take l.length).all f = true) : l.all f = true := by rwa [List.take_length] at h
theorem fileOk_no1 (p : Pl) (small : Bool) (h : p.zs.all nmB = false) : fileOkB p small = false := by unfold fileOkB; rw [h]; rfl
theorem fileOk_no2 (p : Pl) (small : Bool) (h : p.ts.all (smB small) = false) : fileOkB p small = false := by unfold fileOkB; rw [h, Bool.and_false]; rfl
theorem fileOk_no3 (p : Pl) (small : Bool) (h : p.ext.all nlB = false) : fileOkB p small = false := by unfold fileOkB; rw [h, Bool.and_false]; rfl
theorem fileOk_no4 (p : Pl) (small : Bool) (h : ¬ (charsB p.zs).length ≤ 255) : fileOkB p small = false := by unfold fileOkB; rw [decide_eq_false h, Bool.and_false]; rfl
theorem fileOk_yes (p : Pl) (small : Bool) (h1 : p.zs.all nmB = true) (h2 : p.ts.all (smB small) = true) (h3 : p.ext.all nlB = true) (h4 : (charsB p.zs).length ≤ 255) : fileOkB p small = plOkB p := by unfold fileOkB; rw [h1, h2, h3, decide_eq_true h4]; rfl
theorem charsB_take_le (zs : List Zo) (M : Nat) (hn : ∀ z ∈ zs, z.nm.length + 1 ≤ M) : ∀ k, (charsB (zs.take k)).length ≤ k * M := by
  intro k
  induction k with
  | zero => simp [charsB]
  | succ k ih =>
    rw [Nat.succ_mul]
    by_cases h : k < zs.length
    · rw [chars_snoc zs k zs[k] (List.getElem?_eq_getElem h), List.length_append, List.length_append, List.length_singleton]
      have := hn zs[k] (List.getElem_mem h)
      omega
    · rw [List.take_of_length_le (by omega)] at *
      omega
/-- the box of a place, and that of a zone, a transition -/
def InB (w : World) (p : Pl) (a : Ad) (g : Nat) (T : TypeId) (cs : Array Value) (W : World) : Prop := InP w p a W ∧ Blk W g T cs

set_option maxRecDepth 100000 in
set_option maxHeartbeats 8000000 in
theorem FileOk_ret (p : Pl) (small : Bool) (a : Ad) (w : World) (B : Nat) (hB : B ≤ w.heap.size) (hR : PlIn w B p a) (hz : p.zs.length ≤ 2147483647) (ht : p.ts.length ≤ 2147483647) (he : p.ext.length ≤ 2147483647) (hn : ∀ z ∈ p.zs, z.nm.length ≤ 2147483647) :
    Calls Tryd.prog 11 #[plA p a, .bool small] w fun e w' => e = .returned (.bool (fileOkB p small)) ∧ Below w.heap.size w w' := by
  obtain ⟨A1, k1, A2, k2⟩ := a
  have HB0 := InP.new w p ⟨A1, k1, A2, k2⟩
  have HR := Lib.hid hR
  have HPO := Lib.hid (fun (W : World) (hb : Below w.heap.size w W) => PlaceOk_ret p ⟨A1, k1, A2, k2⟩ W B (Nat.le_trans hB hb.size) (hR.below hb hB) (by omega) (by omega))
  have HN := Lib.hid hn
  have HCT := Lib.hid (charsB_take_le p.zs 2147483648 (fun z h => Nat.succ_le_succ (hn z h)))
  clear hR hn
  obtain ⟨c0, c1, c2, c3⟩ := HB0.cells
  unfold plA at *
  dsimp only at c1 c2 HB0 HPO ⊢
  go_enter Tryd.func11, Tryd.ntmps11
  go_wp2_with fail
  go_loopw [5, 15] (fun n i W => ∃ k : Nat, k ≤ p.zs.length ∧ i = .int .i64 k ∧ n = .int .i64 ((charsB (p.zs.take k)).length : Int) ∧ InP w p ⟨A1, k1, A2, k2⟩ W ∧ Hid ((p.zs.take k).all nmB = true)) (fun _ i _ => p.zs.length - (intOf i).toNat)
  case atStart => exact ⟨0, Nat.zero_le _, rfl, rfl, HB0, by simp [Hid]⟩
  case round =>
    clear c0 c1 c2 c3 HB0
    obtain ⟨k, hk, rfl, rfl, HX, HA⟩ := hrel
    obtain ⟨c0, c1, c2, c3⟩ := HX.cells
    dsimp only at c1 c2
    have hsz := HX.2.size
    have hlt0 := HX.1.lt
    by_cases hlt : k < p.zs.length
    · obtain ⟨z, hzk⟩ : ∃ z, p.zs[k]? = some z := ⟨_, List.getElem?_eq_getElem hlt⟩
      obtain ⟨ad, rfl, hadB, e0, e1, e2⟩ := (HR.out.1.below HX.2 hB).zo hzk
      have HZ := Lib.hid hzk
      have hnl := HN.out z (List.mem_of_getElem? hzk)
      have hcl := HCT.out k
      have HCN := Lib.hid (show ((charsB (p.zs.take (k + 1))).length : Int) = ((charsB (p.zs.take k)).length : Int) + ((z.nm.length : Int) + 1) by
        rw [chars_snoc p.zs k z hzk, List.length_append, List.length_append, List.length_singleton]; omega)
      have hkk : k * 2147483648 ≤ 2147483647 * 2147483648 := Nat.mul_le_mul_right _ (Nat.le_trans hk hz)
      have hcl2 : (charsB (p.zs.take k)).length ≤ 4611686016279904256 := by omega
      generalize (charsB (p.zs.take k)).length = cl at *
      clear hzk hcl hkk
      have HY0 := HX.alloc (.cells #[.string (S z.nm), .int .i64 z.off, .bool z.dst] 45)
      have HBz : Blk (wr.alloc (.cells #[.string (S z.nm), .int .i64 z.off, .bool z.dst] 45)) wr.heap.size 45 #[.string (S z.nm), .int .i64 z.off, .bool z.dst] := Blk.new wr _ _ _ rfl
      go_wp2_with fail
      go_loop [8] (fun i => ∃ j : Nat, j ≤ z.nm.length ∧ i = .int .i64 j ∧ Hid ((z.nm.take j).all nzB = true)) (fun i => z.nm.length - (intOf i).toNat)
      case atStart => exact ⟨0, Nat.zero_le _, rfl, by simp [Hid]⟩
      case round =>
        obtain ⟨j, hj, rfl, HJ⟩ := hrel
        by_cases hjl : j < z.nm.length
        · have hj? : z.nm[j]? = some z.nm[j] := List.getElem?_eq_getElem hjl
          rcases nzB_cases z.nm[j] with ⟨hc, hq⟩ | ⟨hc, hq⟩
          · have HJ' := Lib.hid (all_succ' nzB z.nm j _ hj? HJ.out hc)
            clear HJ hc hj?
            go_wp2_with fail
            go_round
            case rel => exact ⟨j + 1, by omega, by go_num, HJ'⟩
            case measure => simp [intOf]; omega
          · have HF := Lib.hid (fileOk_no1 p small (not_all nmB p.zs k z HZ.out (not_all nzB z.nm j _ hj? hc)))
            clear HJ hc hj?
            go_wp2_with fail
            go_ret
            rw [HF.out]
            exact ⟨rfl, HY0.2⟩
        · obtain rfl : j = z.nm.length := by omega
          have HA' := Lib.hid (all_succ' nmB p.zs k z HZ.out HA.out (all_end nzB z.nm HJ.out))
          clear HJ HA
          go_wp2_with fail
          go_roundw
          case rel => exact ⟨k + 1, by omega, by go_num, by rw [HCN.out], HY0, HA'⟩
          case measure => simp [intOf]; omega
    · obtain rfl : k = p.zs.length := by omega
      have HA1 := Lib.hid (all_end nmB p.zs HA.out)
      rw [List.take_length]
      have hcl := HCT.out p.zs.length
      rw [List.take_length] at hcl
      have hkk : p.zs.length * 2147483648 ≤ 2147483647 * 2147483648 := Nat.mul_le_mul_right _ hz
      have HFN := Lib.hid (fileOk_no4 p small)
      have HFY := Lib.hid (fileOk_yes p small HA1.out)
      generalize (charsB p.zs).length = cl at *
      clear HA hcl hkk HCT HN
      cases small
      · go_wp2_with fail
        go_loopw [41] (fun i W => ∃ k : Nat, k ≤ p.ts.length ∧ i = .int .i64 k ∧ InP w p ⟨A1, k1, A2, k2⟩ W ∧ Hid ((p.ts.take k).all (smB false) = true)) (fun i _ => p.ts.length - (intOf i).toNat)
        case atStart => exact ⟨0, Nat.zero_le _, rfl, HX, by simp [Hid]⟩
        case round =>
          clear c0 c1 c2 c3 HX hsz hlt0
          obtain ⟨k, hk, rfl, HX, HA⟩ := hrel
          obtain ⟨c0, c1, c2, c3⟩ := HX.cells
          dsimp only at c1 c2
          have hsz := HX.2.size
          have hlt0 := HX.1.lt
          by_cases hltk : k < p.ts.length
          · obtain ⟨t, htk⟩ : ∃ t, p.ts[k]? = some t := ⟨_, List.getElem?_eq_getElem hltk⟩
            obtain ⟨ad, rfl, hadB, e0, e1⟩ := (HR.out.2.1.below HX.2 hB).tr htk
            have HT := Lib.hid htk
            clear htk
            have HY0 := HX.alloc (.cells #[.int .i64 t.at_, .int .u8 (t.ix : Int)] 40)
            have HA' := Lib.hid (all_succ' (smB false) p.ts k t HT.out HA.out (by rfl))
            clear HA HT
            go_wp2_with fail
            go_roundw
            case rel => exact ⟨k + 1, by omega, by go_num, HY0, HA'⟩
            case measure => simp [intOf]; omega
          · obtain rfl : k = p.ts.length := by omega
            have HA2 := Lib.hid (all_end (smB false) p.ts HA.out)
            clear HA
            go_wp2_with fail
            go_loop [11] (fun i => ∃ j : Nat, j ≤ p.ext.length ∧ i = .int .i64 j ∧ Hid ((p.ext.take j).all nlB = true)) (fun i => p.ext.length - (intOf i).toNat)
            case atStart => exact ⟨0, Nat.zero_le _, rfl, by simp [Hid]⟩
            case round =>
              obtain ⟨j, hj, rfl, HJ⟩ := hrel
              by_cases hjl : j < p.ext.length
              · have hj? : p.ext[j]? = some p.ext[j] := List.getElem?_eq_getElem hjl
                rcases nlB_cases p.ext[j] with ⟨hc, hq⟩ | ⟨hc, hq⟩
                · have HJ' := Lib.hid (all_succ' nlB p.ext j _ hj? HJ.out hc)
                  clear HJ hc hj?
                  go_wp2_with fail
                  go_round
                  case rel => exact ⟨j + 1, by omega, by go_num, HJ'⟩
                  case measure => simp [intOf]; omega
                · have HF := Lib.hid (fileOk_no3 p false (not_all nlB p.ext j _ hj? hc))
                  clear HJ hc hj?
                  go_wp2_with fail
                  go_ret
                  rw [HF.out]
                  exact ⟨rfl, HX.2⟩
              · obtain rfl : j = p.ext.length := by omega
                have HA3 := Lib.hid (all_end nlB p.ext HJ.out)
                clear HJ
                by_cases hcc : cl ≤ 255
                · have HF := Lib.hid (HFY.out HA2.out HA3.out hcc)
                  have q1 : decide ((cl : Int) ≤ 255) = true := decide_eq_true (by omega)
                  have q1' : decide (cl ≤ 255) = true := decide_eq_true hcc
                  have HC := Lib.hid (HPO.out _ HX.2)
                  clear HFN HFY
                  go_wp2_with fail
                  refine HC.out.mono ?_
                  rintro e w1 ⟨rfl, hb1⟩
                  have HY := (HX.below hb1).2
                  go_wp2_with fail
                  go_ret
                  rw [HF.out]
                  exact ⟨rfl, HY⟩
                · have HF := Lib.hid (HFN.out hcc)
                  have q1 : decide ((cl : Int) ≤ 255) = false := decide_eq_false (by omega)
                  have q1' : decide (cl ≤ 255) = false := decide_eq_false hcc
                  clear HFN HFY
                  go_wp2_with fail
                  go_ret
                  rw [HF.out]
                  exact ⟨rfl, HX.2⟩
      · go_wp2_with fail
        go_loopw [41] (fun i W => ∃ k : Nat, k ≤ p.ts.length ∧ i = .int .i64 k ∧ InP w p ⟨A1, k1, A2, k2⟩ W ∧ Hid ((p.ts.take k).all (smB true) = true)) (fun i _ => p.ts.length - (intOf i).toNat)
        case atStart => exact ⟨0, Nat.zero_le _, rfl, HX, by simp [Hid]⟩
        case round =>
          clear c0 c1 c2 c3 HX hsz hlt0
          obtain ⟨k, hk, rfl, HX, HA⟩ := hrel
          obtain ⟨c0, c1, c2, c3⟩ := HX.cells
          dsimp only at c1 c2
          have hsz := HX.2.size
          have hlt0 := HX.1.lt
          by_cases hltk : k < p.ts.length
          · obtain ⟨t, htk⟩ : ∃ t, p.ts[k]? = some t := ⟨_, List.getElem?_eq_getElem hltk⟩
            obtain ⟨ad, rfl, hadB, e0, e1⟩ := (HR.out.2.1.below HX.2 hB).tr htk
            have HT := Lib.hid htk
            clear htk
            have HY0 := HX.alloc (.cells #[.int .i64 t.at_, .int .u8 (t.ix : Int)] 40)
            by_cases h1 : t.at_ < -2147483648
            · have q1 : decide (t.at_ < -2147483648) = true := decide_eq_true h1
              have HF := Lib.hid (fileOk_no2 p true (not_all (smB true) p.ts k t HT.out (by simp [smB]; omega)))
              clear HA HT
              go_wp2_with fail
              go_ret
              rw [HF.out]
              exact ⟨rfl, HY0.2⟩
            have q1 : decide (t.at_ < -2147483648) = false := decide_eq_false h1
            by_cases h2 : 2147483647 < t.at_
            · have q2 : decide (2147483647 < t.at_) = true := decide_eq_true h2
              have HF := Lib.hid (fileOk_no2 p true (not_all (smB true) p.ts k t HT.out (by simp [smB]; omega)))
              clear HA HT
              go_wp2_with fail
              go_ret
              rw [HF.out]
              exact ⟨rfl, HY0.2⟩
            have q2 : decide (2147483647 < t.at_) = false := decide_eq_false h2
            have HA' := Lib.hid (all_succ' (smB true) p.ts k t HT.out HA.out (by simp [smB]; omega))
            clear HA HT
            go_wp2_with fail
            go_roundw
            case rel => exact ⟨k + 1, by omega, by go_num, HY0, HA'⟩
            case measure => simp [intOf]; omega
          · obtain rfl : k = p.ts.length := by omega
            have HA2 := Lib.hid (all_end (smB true) p.ts HA.out)
            clear HA
            go_wp2_with fail
            go_loop [11] (fun i => ∃ j : Nat, j ≤ p.ext.length ∧ i = .int .i64 j ∧ Hid ((p.ext.take j).all nlB = true)) (fun i => p.ext.length - (intOf i).toNat)
            case atStart => exact ⟨0, Nat.zero_le _, rfl, by simp [Hid]⟩
            case round =>
              obtain ⟨j, hj, rfl, HJ⟩ := hrel
              by_cases hjl : j < p.ext.length
              · have hj? : p.ext[j]? = some p.ext[j] := List.getElem?_eq_getElem hjl
                rcases nlB_cases p.ext[j] with ⟨hc, hq⟩ | ⟨hc, hq⟩
                · have HJ' := Lib.hid (all_succ' nlB p.ext j _ hj? HJ.out hc)
                  clear HJ hc hj?
                  go_wp2_with fail
                  go_round
                  case rel => exact ⟨j + 1, by omega, by go_num, HJ'⟩
                  case measure => simp [intOf]; omega
                · have HF := Lib.hid (fileOk_no3 p true (not_all nlB p.ext j _ hj? hc))
                  clear HJ hc hj?
                  go_wp2_with fail
                  go_ret
                  rw [HF.out]
                  exact ⟨rfl, HX.2⟩
              · obtain rfl : j = p.ext.length := by omega
                have HA3 := Lib.hid (all_end nlB p.ext HJ.out)
                clear HJ
                by_cases hcc : cl ≤ 255
                · have HF := Lib.hid (HFY.out HA2.out HA3.out hcc)
                  have q1 : decide ((cl : Int) ≤ 255) = true := decide_eq_true (by omega)
                  have q1' : decide (cl ≤ 255) = true := decide_eq_true hcc
                  have HC := Lib.hid (HPO.out _ HX.2)
                  clear HFN HFY
                  go_wp2_with fail
                  refine HC.out.mono ?_
                  rintro e w1 ⟨rfl, hb1⟩
                  have HY := (HX.below hb1).2
                  go_wp2_with fail
                  go_ret
                  rw [HF.out]
                  exact ⟨rfl, HY⟩
                · have HF := Lib.hid (HFN.out hcc)
                  have q1 : decide ((cl : Int) ≤ 255) = false := decide_eq_false (by omega)
                  have q1' : decide (cl ≤ 255) = false := decide_eq_false hcc
                  clear HFN HFY
                  go_wp2_with fail
                  go_ret
                  rw [HF.out]
                  exact ⟨rfl, HX.2⟩
end Go.Proofs.YtgmlclhdibajiaaDoor
