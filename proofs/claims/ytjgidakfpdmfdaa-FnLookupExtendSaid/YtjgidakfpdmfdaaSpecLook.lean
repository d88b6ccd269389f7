/- The reference's Lookup: its walk. -/
import Derived.Test.YtjgidakfpdmfdaaPlS
import Derived.Test.YtjgidakfpdmfdaaPlaceOk
import Derived.Deep.RegionHeld3
import Derived.BigRegion
namespace Go.Proofs.Ytjgidakfpdmfdaa
open Go.RowKit

/-- the boxes of the reference's Lookup: the place, the result, what is gathered -/
def InL (w : World) (p : Pl) (a : Ad) (st en : Int) (W : World) : Prop :=
  InP w p a W ∧ Blk W (w.heap.size + 1) 34 #[.string ⟨#[]⟩, .int .i64 0, .int .i64 0, .int .i64 0, .bool false] ∧ Blk W (w.heap.size + 1 + 1) 34 #[.string ⟨#[]⟩, .int .i64 0, .int .i64 st, .int .i64 en, .bool false]
theorem InL.alloc {w W : World} {p : Pl} {a : Ad} {st en : Int} (h : InL w p a st en W) (o : Obj) : InL w p a st en (W.alloc o) := ⟨h.1.alloc _, h.2.1.alloc _, h.2.2.alloc _⟩
theorem InP.set {w W : World} {p : Pl} {a : Ad} (h : InP w p a W) (q : Addr) (hq : w.heap.size < q.block) (u : Value) : InP w p a (W.setCell q u) :=
  ⟨h.1.far (Nat.ne_of_lt hq) u, h.2.setCell (Nat.le_of_lt hq) u⟩
theorem InL.set2 {w W : World} {p : Pl} {a : Ad} {st en : Int} (h : InL w p a st en W) (x : Int) : InL w p a x en (W.setCell ⟨w.heap.size + 1 + 1, 2, none⟩ (.int .i64 x)) :=
  ⟨h.1.set _ (by show _ < w.heap.size + 1 + 1; omega) _, h.2.1.far (by show _ ≠ w.heap.size + 1 + 1; omega) _, h.2.2.set 2 _⟩
theorem InL.set3 {w W : World} {p : Pl} {a : Ad} {st en : Int} (h : InL w p a st en W) (x : Int) : InL w p a st x (W.setCell ⟨w.heap.size + 1 + 1, 3, none⟩ (.int .i64 x)) :=
  ⟨h.1.set _ (by show _ < w.heap.size + 1 + 1; omega) _, h.2.1.far (by show _ ≠ w.heap.size + 1 + 1; omega) _, h.2.2.set 3 _⟩
theorem InL.new (w : World) (p : Pl) (a : Ad) (st en : Int) : InL w p a st en (((w.alloc (.cells #[.string (S p.nm), .slice a.A1 p.zs.length a.c1, .slice a.A2 p.ts.length a.c2, .string (S p.ext)] 25)).alloc (.cells #[.string ⟨#[]⟩, .int .i64 0, .int .i64 0, .int .i64 0, .bool false] 34)).alloc (.cells #[.string ⟨#[]⟩, .int .i64 0, .int .i64 st, .int .i64 en, .bool false] 34)) :=
  ⟨((InP.new w p a).alloc _).alloc _, (Blk.new _ _ _ _ (by simp)).alloc _, Blk.new _ _ _ _ (by simp)⟩

set_option maxRecDepth 100000 in
set_option maxHeartbeats 8000000 in
theorem specLook_ret (p : Pl) (a : Ad) (first : Nat) (sec : Int) (w : World) (B : Nat) (hB : B ≤ w.heap.size) (hR : PlIn w B p a) (ht : (p.ts.length : Int) ≤ 2147483647) (hfi : first < p.zs.length) (hix : ∀ t ∈ p.ts, t.ix < p.zs.length) :
    Calls Try.prog 14 #[plA p a, .int .i64 (first : Int), .int .i64 sec] w fun e w' => e = .returned (foA (slFo p first sec)) ∧ Below w.heap.size w w' := by
  obtain ⟨A1, k1, A2, k2⟩ := a
  have HB0 := InL.new w p ⟨A1, k1, A2, k2⟩ (-9223372036854775808) 9223372036854775807
  have HR := Lib.hid hR
  have HIX := Lib.hid (slSt_ix p first sec hfi hix)
  have H0 := Lib.hid (show slSt p.ts first sec 0 = (first, -9223372036854775808, 9223372036854775807) from rfl)
  have HSU := Lib.hid (fun k t h => slSt_succ p.ts first sec k t h)
  have HF := Lib.hid (show slFo p first sec = fo (zoAt p.zs (slSt p.ts first sec p.ts.length).1) (slSt p.ts first sec p.ts.length).2.1 (slSt p.ts first sec p.ts.length).2.2 from rfl)
  clear hR hix
  obtain ⟨c0, c1, c2, c3⟩ := HB0.1.cells
  unfold plA
  dsimp only at c1 c2 HB0 ⊢
  go_enter Try.func14, Try.ntmps14
  go_wp2_with fail
  go_loopw [7, 16] (fun v i W => ∃ (k z : Nat) (st en : Int), k ≤ p.ts.length ∧ z < p.zs.length ∧ i = .int .i64 k ∧ v = .int .i64 z ∧ InL w p ⟨A1, k1, A2, k2⟩ st en W ∧ Hid (slSt p.ts first sec k = (z, st, en))) (fun _ i _ => p.ts.length - (intOf i).toNat)
  case atStart => exact ⟨0, first, _, _, Nat.zero_le _, hfi, rfl, rfl, HB0, H0.out⟩
  case round =>
    clear c0 c1 c2 c3 HB0 H0 hfi
    obtain ⟨k, z, st, en, hk, hzl, rfl, rfl, HX, HS⟩ := hrel
    obtain ⟨c0, c1, c2, c3⟩ := HX.1.cells
    obtain ⟨r0, r1, r2, r3, r4, rf⟩ := HX.2.1.five
    obtain ⟨o0, o1, o2, o3, o4, of'⟩ := HX.2.2.five
    dsimp only at c1 c2
    have hsz := HX.1.2.size
    have hlt2 := HX.2.2.lt
    by_cases hlt : k < p.ts.length
    · obtain ⟨t, htk⟩ : ∃ t, p.ts[k]? = some t := ⟨_, List.getElem?_eq_getElem hlt⟩
      obtain ⟨ad, rfl, hadB, e0, e1⟩ := (HR.out.2.1.below HX.1.2 hB).tr htk
      have hx0 : (0 : Int) ≤ (t.ix : Int) := by omega
      have hx1 : t.ix < 256 := HR.out.2.2 t (List.mem_of_getElem? htk)
      have HN := Lib.hid (HSU.out k t htk)
      have HI := Lib.hid (HIX.out (k + 1) (by omega))
      clear htk
      by_cases hle : t.at_ ≤ sec
      · have HS' : Hid (slSt p.ts first sec (k + 1) = (t.ix, t.at_, en)) := by
          show _ = _
          rw [HN.out, HS.out]; unfold slStep; rw [if_pos hle]
        have hti : t.ix < p.zs.length := by have := HI.out; rw [HS'.out] at this; exact this
        clear HS HN HI
        go_wp2_with fail
        go_roundw
        case rel => exact ⟨k + 1, t.ix, t.at_, en, by omega, hti, by go_num, rfl, (HX.set2 _).alloc _, HS'⟩
        case measure => simp [intOf]; omega
      · have hle' : decide (t.at_ ≤ sec) = false := decide_eq_false hle
        by_cases hen : en = 9223372036854775807
        · have HS' : Hid (slSt p.ts first sec (k + 1) = (z, st, t.at_)) := by
            show _ = _
            rw [HN.out, HS.out]; unfold slStep; rw [if_neg hle, if_pos hen]
          have hq : (en == 9223372036854775807) = true := by rw [beq_iff_eq]; exact hen
          clear HS HN HI hle hen
          go_wp2_with fail
          go_roundw
          case rel => exact ⟨k + 1, z, st, t.at_, by omega, hzl, by go_num, rfl, (HX.set3 _).alloc _, HS'⟩
          case measure => simp [intOf]; omega
        · have HS' : Hid (slSt p.ts first sec (k + 1) = (z, st, en)) := by
            show _ = _
            rw [HN.out, HS.out]; unfold slStep; rw [if_neg hle, if_neg hen]
          have hq : (en == 9223372036854775807) = false := by rw [beq_eq_false_iff_ne]; exact hen
          clear HS HN HI hle hen
          go_wp2_with fail
          go_roundw
          case rel => exact ⟨k + 1, z, st, en, by omega, hzl, by go_num, rfl, HX.alloc _, HS'⟩
          case measure => simp [intOf]; omega
    · obtain rfl : k = p.ts.length := by omega
      obtain ⟨y, hy⟩ : ∃ y, p.zs[z]? = some y := ⟨_, List.getElem?_eq_getElem hzl⟩
      have HF2 := Lib.hid (show slFo p first sec = fo y st en by rw [HF.out, HS.out]; show fo (zoAt p.zs z) st en = _; rw [zoAt_some hy])
      obtain ⟨ad, rfl, hadB, e0, e1, e2⟩ := (HR.out.1.below HX.1.2 hB).zo hy
      have i0 : (0 : Int) ≤ (z : Int) := by omega
      have i1 : (z : Int) < (p.zs.length : Int) := by omega
      have hbW := HX.1.2
      clear hy HS HF HSU HIX hk
      go_wp2_with fail
      go_region
      go_wp2_with fail
      refine bodyPost_ret (v := .agg #[.string (S y.nm), .int .i64 y.off, .int .i64 st, .int .i64 en, .bool y.dst]) (by simp only [results, Try.results14]; go_simp) rfl ?_
      refine ⟨by rw [HF2.out]; rfl, ?_⟩
      go_grown
end Go.Proofs.Ytjgidakfpdmfdaa
