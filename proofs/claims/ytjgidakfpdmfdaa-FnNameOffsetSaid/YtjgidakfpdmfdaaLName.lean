/- LookupName of the package and of the thin package. -/
import Derived.Test.YtjgidakfpdmfdaaImplLook
import Derived.Test.YtjgidakfpdmfdaaPlN
namespace Go.Proofs.Ytjgidakfpdmfdaa
open Go.RowKit

def nmV (x : Option Int) : Value := .tuple #[.int .i64 (x.getD 0), .bool x.isSome]

set_option maxRecDepth 1000000 in
set_option maxHeartbeats 16000000 in
theorem lookupName_ret (p : Pl) (a : Ad) (g : Nat) (w : World) (hL : Loc w g p a) (hok : plOk p) (hext : p.ext.length ≤ 4294967296) (name : Bs) (unix : Int) (hu0 : -1152921504606846976 ≤ unix) (hu1 : unix ≤ 1152921504606846976) :
    Calls Try.prog 27 #[.pointer (some ⟨g, 0, none⟩), .string (S name), .int .i64 unix] w fun e w' => e = .returned (nmV (nmF p name unix)) ∧ Below w.heap.size w w' := by
  obtain ⟨A1, k1, A2, k2⟩ := a
  have h1 := hok.2.2.1
  have HLK := Lib.hid (fun (W : World) (hb : Below w.heap.size w W) (sec : Int) => lookup_ret p ⟨A1, k1, A2, k2⟩ g W (hL.below hb) (.inr hok) hext sec)
  have HL := Lib.hid hL
  have HOF := Lib.hid hok.1
  have HG := Lib.hid (get_ret g w)
  have HA0 := Lib.hid (show nmA p name unix p.zs = nmA p name unix (p.zs.drop 0) from rfl)
  have HF := Lib.hid (show nmF p name unix = match nmA p name unix p.zs with
    | some o => some o
    | none => nmB name p.zs from rfl)
  generalize nmF p name unix = F at *
  obtain ⟨c1, c2, c3, c4, c7⟩ := HL.out.1.loc
  dsimp only at c2 c3
  clear hL hok hext
  go_enter Try.func27, Try.ntmps27
  go_wp2_with fail
  refine HG.out.mono ?_
  rintro e w1 ⟨rfl, rfl⟩
  go_wp2_with fail
  go_loopw [6, 7, 24] (fun va vb i W => ∃ k : Nat, k ≤ p.zs.length ∧ i = .int .i64 k ∧ va = .int .i64 0 ∧ vb = .bool false ∧ Below w.heap.size w W ∧ Hid (nmA p name unix p.zs = nmA p name unix (p.zs.drop k))) (fun _ _ i _ => p.zs.length - (intOf i).toNat)
  case atStart => exact ⟨0, Nat.zero_le _, rfl, rfl, rfl, Below.refl _ _, HA0.out⟩
  case round =>
    clear c1 c2 c3 c4 c7 HA0
    obtain ⟨k, hk, rfl, rfl, rfl, hb, HA⟩ := hrel
    have hsz := hb.size
    obtain ⟨c1, c2, c3, c4, c7⟩ := (HL.out.below hb).1.loc
    dsimp only at c2 c3
    by_cases hlt : k < p.zs.length
    · obtain ⟨z, hzk⟩ : ∃ z, p.zs[k]? = some z := ⟨_, List.getElem?_eq_getElem hlt⟩
      obtain ⟨ad, hA, _, e0, e1, e2⟩ := (HL.out.below hb).2.1.zo hzk
      dsimp only at hA
      subst hA
      have hof := HOF.out z (List.mem_of_getElem? hzk)
      have i0 : (0 : Int) ≤ (k : Int) := by omega
      have i1 : (k : Int) < (p.zs.length : Int) := by omega
      have HZ := Lib.hid hzk
      clear hzk
      by_cases hnm : z.nm = name
      · have q1 : (z.nm == name) = true := by rw [beq_iff_eq]; exact hnm
        have HNM := Lib.hid hnm
        clear hnm
        by_cases hin : (lookF p (unix - z.off)).nm = name
        · have q2 : ((lookF p (unix - z.off)).nm == z.nm) = true := by rw [beq_iff_eq, hin, HNM.out]
          have HFF := Lib.hid (show nmV F = .tuple #[.int .i64 (lookF p (unix - z.off)).off, .bool true] by
            rw [HF.out, HA.out, nmA_hit p name unix k z HZ.out (by unfold nmHit; rw [decide_eq_true HNM.out, decide_eq_true hin]; rfl)]; rfl)
          clear HF HA hin
          go_wp2_with fail
          refine (HLK.out _ hb _).mono ?_
          rintro e w1 ⟨rfl, hb1⟩
          have hb2 := hb.trans (hb1.mono hsz)
          obtain ⟨ad', hA, _, f0, f1, f2⟩ := (HL.out.below hb2).2.1.zo HZ.out
          dsimp only at hA
          injection hA with hA
          subst hA
          generalize lookF p (unix - z.off) = f at *
          unfold fiveV
          clear e0 e1 e2 hb1 hb c1 c2 c3 c4 c7
          go_wp2_with fail
          go_ret2
          exact ⟨by rw [HFF.out]; rfl, hb2⟩
        · have q2 : ((lookF p (unix - z.off)).nm == z.nm) = false := by rw [beq_eq_false_iff_ne, HNM.out]; exact hin
          have HA' : Hid (nmA p name unix p.zs = nmA p name unix (p.zs.drop (k + 1))) := by
            show _ = _
            rw [HA.out]
            refine nmA_miss p name unix k z HZ.out ?_
            unfold nmHit
            rw [decide_eq_false hin, Bool.and_false]
          clear HA hin
          go_wp2_with fail
          refine (HLK.out _ hb _).mono ?_
          rintro e w1 ⟨rfl, hb1⟩
          have hb2 := hb.trans (hb1.mono hsz)
          obtain ⟨ad', hA, _, f0, f1, f2⟩ := (HL.out.below hb2).2.1.zo HZ.out
          dsimp only at hA
          injection hA with hA
          subst hA
          generalize lookF p (unix - z.off) = f at *
          unfold fiveV
          clear e0 e1 e2 hb1 hb c1 c2 c3 c4 c7
          go_wp2_with fail
          go_roundw
          case rel => exact ⟨k + 1, by omega, by go_num, rfl, rfl, hb2, HA'⟩
          case measure => simp [intOf]; omega
      · have q1 : (z.nm == name) = false := by rw [beq_eq_false_iff_ne]; exact hnm
        have HA' : Hid (nmA p name unix p.zs = nmA p name unix (p.zs.drop (k + 1))) := by
          show _ = _
          rw [HA.out]
          refine nmA_miss p name unix k z HZ.out ?_
          unfold nmHit
          rw [decide_eq_false hnm, Bool.false_and]
        clear HA hnm
        go_wp2_with fail
        go_roundw
        case rel => exact ⟨k + 1, by omega, by go_num, rfl, rfl, hb, HA'⟩
        case measure => simp [intOf]; omega
    · obtain rfl : k = p.zs.length := by omega
      have HFB := Lib.hid (show F = nmB name p.zs by
        rw [HF.out, HA.out, List.drop_length]; rfl)
      have HB0 := Lib.hid (show nmB name p.zs = nmB name (p.zs.drop 0) from rfl)
      clear HF HA
      obtain ⟨wo, rfl⟩ : ∃ wo : World, wo = wr := ⟨_, rfl⟩
      go_wp2_with fail
      go_loop [6, 7, 66] (fun va vb i => ∃ k : Nat, k ≤ p.zs.length ∧ i = .int .i64 k ∧ va = .int .i64 0 ∧ vb = .bool false ∧ Hid (nmB name p.zs = nmB name (p.zs.drop k))) (fun _ _ i => p.zs.length - (intOf i).toNat)
      case atStart => exact ⟨0, Nat.zero_le _, rfl, rfl, rfl, HB0.out⟩
      case round =>
        clear HB0 hlt
        obtain ⟨k, hk2, rfl, rfl, rfl, HB⟩ := hrel
        by_cases hlt : k < p.zs.length
        · obtain ⟨z, hzk⟩ : ∃ z, p.zs[k]? = some z := ⟨_, List.getElem?_eq_getElem hlt⟩
          obtain ⟨ad, hA, _, e0, e1, e2⟩ := (HL.out.below hb).2.1.zo hzk
          dsimp only at hA
          subst hA
          have i0 : (0 : Int) ≤ (k : Int) := by omega
          have i1 : (k : Int) < (p.zs.length : Int) := by omega
          have HZ := Lib.hid hzk
          clear hzk
          by_cases hnm : z.nm = name
          · have q1 : (z.nm == name) = true := by rw [beq_iff_eq]; exact hnm
            have HFF := Lib.hid (show nmV F = .tuple #[.int .i64 z.off, .bool true] by
              rw [HFB.out, HB.out, nmB_hit p name k z HZ.out hnm]; rfl)
            clear hnm
            go_wp2_with fail
            go_ret2
            exact ⟨by rw [HFF.out]; rfl, hb⟩
          · have q1 : (z.nm == name) = false := by rw [beq_eq_false_iff_ne]; exact hnm
            have HB' : Hid (nmB name p.zs = nmB name (p.zs.drop (k + 1))) := by
              show _ = _
              rw [HB.out]
              exact nmB_miss p name k z HZ.out hnm
            clear hnm HB
            go_wp2_with fail
            go_round
            case rel => exact ⟨k + 1, by omega, by go_num, rfl, rfl, HB'⟩
            case measure => simp [intOf]; omega
        · obtain rfl : k = p.zs.length := by omega
          have HFF := Lib.hid (show nmV F = .tuple #[.int .i64 0, .bool false] by
            rw [HFB.out, HB.out, List.drop_length]; rfl)
          clear HFB HB
          go_wp2_with fail
          go_ret2
          exact ⟨by rw [HFF.out]; rfl, hb⟩

theorem pubLookupName_ret (p : Pl) (a : Ad) (g : Nat) (w : World) (hL : Loc w g p a) (hok : plOk p) (hext : p.ext.length ≤ 4294967296) (name : Bs) (unix : Int) (hu0 : -1152921504606846976 ≤ unix) (hu1 : unix ≤ 1152921504606846976) :
    Calls Try.prog 20 #[.pointer (some ⟨g, 0, none⟩), .string (S name), .int .i64 unix] w fun e w' => e = .returned (nmV (nmF p name unix)) ∧ Below w.heap.size w w' := by
  have HC := Lib.hid (lookupName_ret p a g w hL hok hext name unix hu0 hu1)
  generalize nmF p name unix = F at *
  clear hu0 hu1
  go_enter Try.func20, Try.ntmps20
  go_wp2_with fail
  refine HC.out.mono ?_
  rintro e w1 ⟨rfl, hb⟩
  unfold nmV
  go_wp2
  go_ret2
  exact ⟨rfl, hb⟩
set_option maxHeartbeats 2000000 in
theorem implLookupName_ret (p : Pl) (a : Ad) (w : World) (B : Nat) (hB : B ≤ w.heap.size) (hR : PlIn w B p a) (hok : plOk p) (hext : p.ext.length ≤ 4294967296) (name : Bs) (unix : Int) (hu0 : -1152921504606846976 ≤ unix) (hu1 : unix ≤ 1152921504606846976) :
    Calls Try.prog 11 #[plA p a, .string (S name), .int .i64 unix] w fun e w' => e = .returned (nmV (nmF p name unix)) ∧ Below w.heap.size w w' := by
  obtain ⟨A1, k1, A2, k2⟩ := a
  have h1 := hok.2.2.1
  have h2 := hok.2.2.2
  have HB1 := InP.new w p ⟨A1, k1, A2, k2⟩
  have HC := Lib.hid (place_loc p ⟨A1, k1, A2, k2⟩ _ B (Nat.le_trans hB HB1.2.size) (hR.below HB1.2 hB) (by omega) (by omega))
  have HK := Lib.hid (fun (g : Nat) (a : Ad) (W : World) (hL : Loc W g p a) => pubLookupName_ret p a g W hL hok hext name unix hu0 hu1)
  clear hR h1 h2 hu0 hu1 hext hok
  generalize nmF p name unix = F at *
  obtain ⟨c0, c1, c2, c3⟩ := HB1.cells
  unfold plA at *
  dsimp only at c1 c2 HC HB1 ⊢
  go_enter Try.func11, Try.ntmps11
  go_wp2_with fail
  refine HC.out.mono ?_
  rintro e w1 ⟨v, rfl, g, a', rfl, hL, hb1⟩
  have HK1 := Lib.hid (HK.out g a' w1 hL)
  have hb2 := HB1.2.trans (hb1.mono HB1.2.size)
  clear hL hb1 HC HK c0 c1 c2 c3 HB1
  go_wp2_with fail
  refine HK1.out.mono ?_
  rintro e w2 ⟨rfl, hb3⟩
  have hb4 : Below w.heap.size w w2 := hb2.trans (hb3.mono hb2.size)
  unfold nmV
  go_wp2_with fail
  go_ret2
  exact ⟨rfl, hb4⟩

end Go.Proofs.Ytjgidakfpdmfdaa
