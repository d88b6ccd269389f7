/- The reference's zone files: block. -/
import Derived.Test.YtgmlclhdibajiaaDoorFilW
import Derived.Test.YtgmlclhdibajiaaDoorPlaceOk
import Derived.Test.YtgmlclhdibajiaaDoorPlace
import Derived.Deep.RegionHeld3
import Derived.Deep.DeepCutAuto
namespace Go.Proofs.YtgmlclhdibajiaaDoor
open Go.RowKit

theorem conv1 (w : World) (x : Int) : (convert 42 9 (.slice (some ⟨w.heap.size, 0, none⟩) 1 1)).run Tryd.prog (w.alloc (.cells #[.int .u8 x] 5)) =
    .ok (.string (S [UInt8.ofNat x.toNat])) (w.alloc (.cells #[.int .u8 x] 5)) := by
  refine (run_convert_bytes_arg (P := Tryd.prog) (w.alloc (.cells #[.int .u8 x] 5)) 42 5 Tryd.underlying42 Tryd.underlying5 w.heap.size 0 1 1 [x] rfl ?_ 9 Tryd.underlying9).trans rfl
  intro i hi
  obtain rfl : i = 0 := by omega
  simp [go_sem]
theorem conv2 (w : World) (x y : Int) : (convert 42 9 (.slice (some ⟨w.heap.size, 0, none⟩) 2 2)).run Tryd.prog (w.alloc (.cells #[.int .u8 x, .int .u8 y] 5)) =
    .ok (.string (S [UInt8.ofNat x.toNat, UInt8.ofNat y.toNat])) (w.alloc (.cells #[.int .u8 x, .int .u8 y] 5)) := by
  refine (run_convert_bytes_arg (P := Tryd.prog) (w.alloc (.cells #[.int .u8 x, .int .u8 y] 5)) 42 5 Tryd.underlying42 Tryd.underlying5 w.heap.size 0 2 2 [x, y] rfl ?_ 9 Tryd.underlying9).trans rfl
  intro i hi
  obtain rfl | rfl : i = 0 ∨ i = 1 := by omega
  all_goals simp [go_sem]
theorem u8_in (n : Nat) (h : n ≤ 255) : IntKind.u8.wrap (n : Int) = (n : Int) := by
  show (n : Int) % 256 = n
  omega
/-- the box of a place, and that of a zone -/
def InZ (w : World) (p : Pl) (a : Ad) (g : Nat) (z : Zo) (W : World) : Prop := InP w p a W ∧ Blk W g 45 #[.string (S z.nm), .int .i64 z.off, .bool z.dst]
theorem InZ.drew {w W : World} {p : Pl} {a : Ad} {g : Nat} {z : Zo} (h : InZ w p a g z W) : InZ w p a g z W.drew := ⟨h.1.drew, h.2⟩
theorem InZ.alloc {w W : World} {p : Pl} {a : Ad} {g : Nat} {z : Zo} (h : InZ w p a g z W) (o : Obj) : InZ w p a g z (W.alloc o) := ⟨h.1.alloc _, h.2.alloc _⟩
theorem InZ.below {w W W' : World} {p : Pl} {a : Ad} {g : Nat} {z : Zo} (h : InZ w p a g z W) (hb : Below W.heap.size W W') : InZ w p a g z W' := ⟨h.1.below hb, h.2.below hb h.2.lt⟩

theorem InZ.one {w W : World} {p : Pl} {a : Ad} {g : Nat} {z : Zo} (h : InZ w p a g z W) : W.cell? ⟨g, 1, none⟩ = some (.int .i64 z.off) ∧ InZ w p a g z W := ⟨h.2.cell 1, h⟩
theorem conv2_drew (w : World) (x y : Int) : (convert 42 9 (.slice (some ⟨w.heap.size, 0, none⟩) 2 2)).run Tryd.prog (w.alloc (.cells #[.int .u8 x, .int .u8 y] 5)).drew =
    .ok (.string (S [UInt8.ofNat x.toNat, UInt8.ofNat y.toNat])) (w.alloc (.cells #[.int .u8 x, .int .u8 y] 5)).drew := by
  refine (run_convert_bytes_arg (P := Tryd.prog) (w.alloc (.cells #[.int .u8 x, .int .u8 y] 5)).drew 42 5 Tryd.underlying42 Tryd.underlying5 w.heap.size 0 2 2 [x, y] rfl ?_ 9 Tryd.underlying9).trans rfl
  intro i hi
  obtain rfl | rfl : i = 0 ∨ i = 1 := by omega
  all_goals simp [go_sem]
theorem conv2_after {W w' : World} {B : Nat} {x y : Int} (hb : Below B (W.alloc (.cells #[.int .u8 x, .int .u8 y] 5)) w') (hB : W.heap.size < B) : (convert 42 9 (.slice (some ⟨W.heap.size, 0, none⟩) 2 2)).run Tryd.prog w' = .ok (.string (S [UInt8.ofNat x.toNat, UInt8.ofNat y.toNat])) w' := by
  refine (run_convert_bytes_arg (P := Tryd.prog) w' 42 5 Tryd.underlying42 Tryd.underlying5 W.heap.size 0 2 2 [x, y] rfl ?_ 9 Tryd.underlying9).trans rfl
  intro i hi
  rw [hb.cell (p := ⟨W.heap.size, 0 + i, none⟩) hB]
  obtain rfl | rfl : i = 0 ∨ i = 1 := by omega
  all_goals simp [go_sem]
theorem conv2_after' {W w' : World} {B : Nat} {x y : Int} (hb : Below B (W.alloc (.cells #[.int .u8 x, .int .u8 y] 5)).drew w') (hB : W.heap.size < B) : (convert 42 9 (.slice (some ⟨W.heap.size, 0, none⟩) 2 2)).run Tryd.prog w' = .ok (.string (S [UInt8.ofNat x.toNat, UInt8.ofNat y.toNat])) w' :=
  conv2_after (B := B) ⟨hb.os, hb.tape, hb.output, hb.size, hb.block⟩ hB
theorem conv1_drew (w : World) (x : Int) : (convert 42 9 (.slice (some ⟨w.heap.size, 0, none⟩) 1 1)).run Tryd.prog (w.alloc (.cells #[.int .u8 x] 5)).drew =
    .ok (.string (S [UInt8.ofNat x.toNat])) (w.alloc (.cells #[.int .u8 x] 5)).drew := by
  refine (run_convert_bytes_arg (P := Tryd.prog) (w.alloc (.cells #[.int .u8 x] 5)).drew 42 5 Tryd.underlying42 Tryd.underlying5 w.heap.size 0 1 1 [x] rfl ?_ 9 Tryd.underlying9).trans rfl
  intro i hi
  obtain rfl : i = 0 := by omega
  simp [go_sem]
theorem conv1_after {W w' : World} {B : Nat} {x : Int} (hb : Below B (W.alloc (.cells #[.int .u8 x] 5)) w') (hB : W.heap.size < B) : (convert 42 9 (.slice (some ⟨W.heap.size, 0, none⟩) 1 1)).run Tryd.prog w' = .ok (.string (S [UInt8.ofNat x.toNat])) w' := by
  refine (run_convert_bytes_arg (P := Tryd.prog) w' 42 5 Tryd.underlying42 Tryd.underlying5 W.heap.size 0 1 1 [x] rfl ?_ 9 Tryd.underlying9).trans rfl
  intro i hi
  rw [hb.cell (p := ⟨W.heap.size, 0 + i, none⟩) hB]
  obtain rfl : i = 0 := by omega
  simp [go_sem]
theorem conv1_after' {W w' : World} {B : Nat} {x : Int} (hb : Below B (W.alloc (.cells #[.int .u8 x] 5)).drew w') (hB : W.heap.size < B) : (convert 42 9 (.slice (some ⟨W.heap.size, 0, none⟩) 1 1)).run Tryd.prog w' = .ok (.string (S [UInt8.ofNat x.toNat])) w' :=
  conv1_after (B := B) ⟨hb.os, hb.tape, hb.output, hb.size, hb.block⟩ hB
theorem bytes_inP {w : World} {p : Pl} {a : Ad} (n : Int) (size : Nat) (hs : size ≤ 8 ∨ n = 0) (hs2 : size ≤ 15) (W : World) (h : InP w p a W) : Calls Tryd.prog 34 #[.int .i64 n, .int .i64 (size : Int)] W fun e W' => e = .returned (.string (S (byB n size))) ∧ InP w p a W' ∧ Below W.heap.size W W' :=
  (Bytes_ret n size hs hs2 W).mono fun _ _ ⟨he, hb⟩ => ⟨he, h.below hb, hb⟩
theorem conv1_at (w : World) (x : Int) (b : Nat) (hb : w.heap.size = b) : (convert 42 9 (.slice (some ⟨b, 0, none⟩) 1 1)).run Tryd.prog (w.alloc (.cells #[.int .u8 x] 5)) =
    .ok (.string (S [UInt8.ofNat x.toNat])) (w.alloc (.cells #[.int .u8 x] 5)) := by
  subst hb; exact conv1 w x
/-- the box of a place, and a row of numbers -/
def InC (w : World) (p : Pl) (a : Ad) (g : Nat) (ns : List Int) (W : World) : Prop := InP w p a W ∧ Blk W g 3 (ns.map (Value.int .i64)).toArray
theorem InC.alloc {w W : World} {p : Pl} {a : Ad} {g : Nat} {ns : List Int} (h : InC w p a g ns W) (o : Obj) : InC w p a g ns (W.alloc o) := ⟨h.1.alloc _, h.2.alloc _⟩
theorem InC.below {w W W' : World} {p : Pl} {a : Ad} {g : Nat} {ns : List Int} (h : InC w p a g ns W) (hb : Below W.heap.size W W') : InC w p a g ns W' := ⟨h.1.below hb, h.2.below hb h.2.lt⟩
theorem InC.at {w W : World} {p : Pl} {a : Ad} {g : Nat} {ns : List Int} (h : InC w p a g ns W) {j : Nat} {n : Int} (hj : ns[j]? = some n) : W.cell? ⟨g, j, none⟩ = some (.int .i64 n) := by
  rw [h.2.cell j]
  simp [hj]
theorem bytes_inC {w : World} {p : Pl} {a : Ad} {g : Nat} {ns : List Int} (n : Int) (W : World) (h : InC w p a g ns W) : Calls Tryd.prog 34 #[.int .i64 n, .int .i64 4] W fun e W' => e = .returned (.string (S (byB n 4))) ∧ InC w p a g ns W' :=
  (Bytes_ret n 4 (.inl (by decide)) (by decide) W).mono fun _ _ ⟨he, hb⟩ => ⟨he, h.below hb⟩
theorem bytes_inZ {w : World} {p : Pl} {a : Ad} {g : Nat} {z : Zo} (W : World) (h : InZ w p a g z W) : Calls Tryd.prog 34 #[.int .i64 z.off, .int .i64 4] W fun e W' => e = .returned (.string (S (byB z.off 4))) ∧ InZ w p a g z W' ∧ Below W.heap.size W W' :=
  (Bytes_ret z.off 4 (.inl (by decide)) (by decide) W).mono fun _ _ ⟨he, hb⟩ => ⟨he, h.below hb, hb⟩

set_option maxRecDepth 100000 in
set_option maxHeartbeats 8000000 in
theorem block_ret (p : Pl) (a : Ad) (w : World) (B : Nat) (hB : B ≤ w.heap.size) (hR : PlIn w B p a) (ver : UInt8) (size : Nat) (hs : size = 4 ∨ size = 8) (hz : p.zs.length ≤ 200) (ht : p.ts.length ≤ 1000) (hn : (charsB p.zs).length ≤ 255) :
    Calls Tryd.prog 22 #[plA p a, .int .u8 (ver.toNat : Int), .int .i64 (size : Int)] w fun e w' => e = .returned (.string (S (blockB ver size p.zs p.ts))) ∧ Below w.heap.size w w' := by
  obtain ⟨A1, k1, A2, k2⟩ := a
  have HB0 := InP.new w p ⟨A1, k1, A2, k2⟩
  have HR := Lib.hid hR
  have HBY := Lib.hid (fun n size hs hs2 => Bytes_ret n size hs hs2)
  clear hR
  obtain ⟨c0, c1, c2, c3⟩ := HB0.cells
  unfold plA
  dsimp only at c1 c2 HB0 ⊢
  go_enter Tryd.func22, Tryd.ntmps22
  go_wp2_with fail
  go_loopw [7, 8, 22] (fun vc vk i W => ∃ k : Nat, k ≤ p.zs.length ∧ i = .int .i64 k ∧ InP w p ⟨A1, k1, A2, k2⟩ W ∧ vc = .string (S (charsB (p.zs.take k))) ∧ vk = .string (S (kindsB (p.zs.take k) 0))) (fun _ _ i _ => p.zs.length - (intOf i).toNat)
  case atStart => exact ⟨0, Nat.zero_le _, rfl, HB0, rfl, rfl⟩
  case round =>
    clear c0 c1 c2 c3 HB0
    obtain ⟨k, hk, rfl, HX, rfl, rfl⟩ := hrel
    obtain ⟨c0, c1, c2, c3⟩ := HX.cells
    dsimp only at c1 c2
    have hlt0 := HX.1.lt
    by_cases hlt : k < p.zs.length
    · obtain ⟨z, hzk⟩ : ∃ z, p.zs[k]? = some z := ⟨_, List.getElem?_eq_getElem hlt⟩
      obtain ⟨ad, rfl, hadB, e0, e1, e2⟩ := (HR.out.1.below HX.2 hB).zo hzk
      have i0 : (0 : Int) ≤ (k : Int) := by omega
      have i1 : (k : Int) < (p.zs.length : Int) := by omega
      have HC := Lib.hid (chars_snoc p.zs k z hzk)
      have HK := Lib.hid (kinds_snoc' p.zs k z hzk)
      have hl1 := chars_take p.zs (k + 1)
      rw [HC.out] at hl1
      simp only [List.length_append, List.length_singleton] at hl1
      have hl2 := kinds_len (p.zs.take k) 0
      have hl3 : (p.zs.take k).length ≤ 200 := by rw [List.length_take]; omega
      generalize charsB (p.zs.take k) = cs at *
      generalize kindsB (p.zs.take k) 0 = ks at *
      have hl4 : ks.length ≤ 1200 := by omega
      clear hzk hl2 hl3
      cases hd : z.dst
      all_goals
        rw [hd] at e2
        go_upto_region 9 with fail
        have HI : InZ w p ⟨some ad, k1, A2, k2⟩ wr.heap.size z (wr.alloc (.cells #[.string (S z.nm), .int .i64 z.off, .bool z.dst] 45)) := ⟨HX.alloc _, Blk.new wr _ _ _ rfl⟩
        rw [hd] at HI
        generalize wr.alloc (.cells #[.string (S z.nm), .int .i64 z.off, .bool _] 45) = W1 at *
        generalize wr.heap.size = g at *
        have d1 := HI.2.cell 1
        have HB4 := Lib.hid (fun W => bytes_inZ (w := w) (p := p) (a := ⟨some ad, k1, A2, k2⟩) (g := g) (z := z) W)
        have HWR := Lib.hid (show IntKind.u8.wrap (cs.length : Int) = (cs.length : Int) from u8_in cs.length (by omega))
        have hb4 := byB_len z.off 4
        have q1 : ¬ 9223372036854775807 < ks.length + (4 + 2) := by omega
        have q2 : ¬ 9223372036854775807 < ks.length + 6 := by omega
        have q3 : ¬ 9223372036854775807 < ks.length + ((byB z.off 4).length + 2) := by omega
        have hcv := conv2
        have hcv' := conv2_drew
        clear c0 c1 c2 c3 e0 e1 e2 HX
        have hgl := HI.2.lt
        go_region_with
          (first | (go_at_call 34; ((with_reducible refine (HB4.out _ ?_).mono ?_); (first | (with_reducible assumption) | ((with_reducible refine InZ.drew ?_); (with_reducible assumption)) | ((with_reducible refine InZ.alloc ?_ _); (with_reducible assumption)) | ((refine InZ.drew (InZ.alloc ?_ _)); (with_reducible assumption)) | ((refine InZ.alloc (InZ.drew ?_) _); (with_reducible assumption))); rintro e w' ⟨rfl, hB', hB2⟩; (first | (have hcv2 := conv2_after hB2 (by simp)) | (have hcv2 := conv2_after' hB2 (by simp)) | skip))))
        all_goals
          have f0 : w'.cell? ⟨g, 0, none⟩ = some (.string (S z.nm)) := hB'.2.cell 0
          have f1 := hB'.2.lt
          clear hcv hcv' q1 q2 q3 hb4 d1 hgl
          go_wp2_with fail
          go_roundw
          case rel => exact ⟨k + 1, by omega, by go_num, (by first | exact hB'.1 | exact hB'.1.alloc _ | exact hB'.1.drew | exact (hB'.1.alloc _).drew), by rw [HC.out], by rw [HK.out, hd]; first | rfl | (rw [HWR.out]; rfl)⟩
          case measure => simp [intOf]; omega
    · obtain rfl : k = p.zs.length := by omega
      rw [List.take_length]
      have hkl := kinds_len p.zs 0
      have HH := Lib.hid (show headB ver = ([84, 90, 105, 102] : List UInt8) ++ [ver] ++ byB 0 15 from by unfold headB; rw [List.append_assoc])
      have hhl : (headB ver).length = 20 := rfl
      have H15 : ∀ W, InP w p ⟨A1, k1, A2, k2⟩ W → Calls Tryd.prog 34 #[.int .i64 0, .int .i64 15] W fun e W' => e = .returned (.string (S (byB 0 15))) ∧ InP w p ⟨A1, k1, A2, k2⟩ W' ∧ Below W.heap.size W W' := fun W h => bytes_inP 0 15 (.inr rfl) (by decide) W h
      have H15 := Lib.hid H15
      clear hlt
      go_upto_region 12 with fail
      go_cut [12] from 46 (fun s12 W => s12 = .string (S (headB ver)) ∧ InP w p ⟨A1, k1, A2, k2⟩ W)
      case first =>
        have hcv := conv1
        have hcv' := conv1_drew
        clear c0 c1 c2 c3
        have hb15 : (byB 0 15).length = 15 := rfl
        generalize byB 0 15 = z15 at *
        go_region_with (first | (go_at_call 34; ((with_reducible refine (H15.out _ ?_).mono ?_); (first | (with_reducible assumption) | ((with_reducible refine InP.drew ?_); (with_reducible assumption)) | ((with_reducible refine InP.alloc ?_ _); (with_reducible assumption)) | ((refine InP.drew (InP.alloc ?_ _)); (with_reducible assumption)) | ((refine InP.alloc (InP.drew ?_) _); (with_reducible assumption))); rintro e w' ⟨rfl, hB', hB2⟩; (first | (have hcv2 := conv1_after hB2 (by simp)) | (have hcv2 := conv1_after' hB2 (by simp)) | skip))))
        all_goals
          go_wp2_with fail
          go_meet
          case rel => exact ⟨by rw [HH.out]; rfl, (by first | exact hB' | exact hB'.alloc _ | exact hB'.drew | exact (hB'.alloc _).drew)⟩
      case rest =>
        obtain ⟨rfl, HX⟩ := hcut
        clear HH H15
        obtain ⟨c0, c1, c2, c3⟩ := HX.cells
        dsimp only at c1 c2
        generalize hns : cntL p.ts.length p.zs.length (charsB p.zs).length = ns
        have HI : InC w p ⟨A1, k1, A2, k2⟩ wc.heap.size ns (wc.alloc (.cells #[.int .i64 0, .int .i64 0, .int .i64 0, .int .i64 (p.ts.length : Int), .int .i64 (p.zs.length : Int), .int .i64 ((charsB p.zs).length : Int)] 3)) := ⟨HX.alloc _, by rw [← hns]; exact Blk.new wc _ _ _ rfl⟩
        have hnl : ns.length = 6 := by rw [← hns]; rfl
        have HNS := Lib.hid hns
        have HNL := Lib.hid hnl
        have HBC := Lib.hid (fun n W => bytes_inC (w := w) (p := p) (a := ⟨A1, k1, A2, k2⟩) (g := wc.heap.size) (ns := ns) n W)
        have HCL := Lib.hid (fun j (hj : j ≤ 6) => show (countsB (ns.take j)).length ≤ 24 by unfold countsB; rw [flatLen _ 4 (fun n => byB_len n 4), List.length_take]; omega)
        clear hns hnl
        go_wp2_with fail
        go_loopw [12, 62] (fun vo i W => ∃ j : Nat, j ≤ 6 ∧ i = .int .i64 j ∧ InC w p ⟨A1, k1, A2, k2⟩ wc.heap.size ns W ∧ vo = .string (S (headB ver ++ countsB (ns.take j)))) (fun _ i _ => 6 - (intOf i).toNat)
        case atStart => exact ⟨0, Nat.zero_le _, rfl, HI, by simp [countsB]⟩
        case round =>
          clear c0 c1 c2 c3 HX HI
          obtain ⟨j, hj, rfl, HX, rfl⟩ := hrel
          obtain ⟨c0, c1, c2, c3⟩ := HX.1.cells
          dsimp only at c1 c2
          by_cases hlt : j < 6
          · obtain ⟨n, hn'⟩ : ∃ n, ns[j]? = some n := ⟨_, List.getElem?_eq_getElem (by rw [HNL.out]; exact hlt)⟩
            have f0 := HX.at hn'
            have i0 : (0 : Int) ≤ (j : Int) := by omega
            have i1 : (j : Int) < 6 := by omega
            have HS := Lib.hid (counts_snoc ns j n hn')
            have hcl := HCL.out j hj
            have hb4 := byB_len n 4
            have HB4 := Lib.hid (HBC.out n)
            clear hn'
            generalize hA : headB ver ++ countsB (ns.take j) = o at *
            have hol : o.length ≤ 44 := by rw [← hA, List.length_append]; omega
            have HA := Lib.hid hA
            clear hA hcl
            go_wp2_with fail
            refine (HB4.out _ HX).mono ?_
            rintro e w' ⟨rfl, HX'⟩
            go_wp2_with fail
            go_roundw
            case rel => exact ⟨j + 1, by omega, by go_num, HX', by rw [HS.out, ← List.append_assoc, HA.out]⟩
            case measure => simp [intOf]; omega
          · obtain rfl : j = 6 := by omega
            have HO := Lib.hid (show ns.take 6 = ns from List.take_of_length_le (by rw [HNL.out]; exact Nat.le_refl _))
            rw [HO.out]
            have hcl := HCL.out 6 (Nat.le_refl _)
            rw [HO.out] at hcl
            generalize hA : headB ver ++ countsB ns = hd at *
            have hhdl : hd.length ≤ 44 := by rw [← hA, List.length_append]; omega
            have HHD := Lib.hid hA
            have HX0 := HX.1
            clear hA hcl HO HBC HCL hlt hj HX
            obtain ⟨wo, rfl⟩ : ∃ wo : World, wo = wr := ⟨_, rfl⟩
            have HBT := Lib.hid (fun n W h => bytes_inP (w := w) (p := p) (a := ⟨A1, k1, A2, k2⟩) n size (by omega) (by omega) W h)
            go_wp2_with fail
            go_loopw [12, 74] (fun vo i W => ∃ k : Nat, k ≤ p.ts.length ∧ i = .int .i64 k ∧ InP w p ⟨A1, k1, A2, k2⟩ W ∧ vo = .string (S (hd ++ timesB size (p.ts.take k)))) (fun _ i _ => p.ts.length - (intOf i).toNat)
            case atStart => exact ⟨0, Nat.zero_le _, rfl, HX0, by simp [timesB]⟩
            case round =>
              clear c0 c1 c2 c3 HX0
              obtain ⟨k, hk, rfl, HX, rfl⟩ := hrel
              obtain ⟨c0, c1, c2, c3⟩ := HX.cells
              dsimp only at c1 c2
              have hlt0 := HX.1.lt
              by_cases hlt : k < p.ts.length
              · obtain ⟨t, htk⟩ : ∃ t, p.ts[k]? = some t := ⟨_, List.getElem?_eq_getElem hlt⟩
                obtain ⟨ad, rfl, hadB, e0, e1⟩ := (HR.out.2.1.below HX.2 hB).tr htk
                have i0 : (0 : Int) ≤ (k : Int) := by omega
                have i1 : (k : Int) < (p.ts.length : Int) := by omega
                have HS := Lib.hid (times_snoc size p.ts k t htk)
                have htl := times_len size (p.ts.take k)
                have htl2 : (p.ts.take k).length ≤ 1000 := by rw [List.length_take]; omega
                have htl3 : (p.ts.take k).length * size ≤ 1000 * 8 := Nat.mul_le_mul htl2 (by omega)
                have hbl := byB_len t.at_ size
                have hsz8 : size ≤ 8 := by omega
                have HB4 := Lib.hid (HBT.out t.at_)
                clear htk
                generalize hA : hd ++ timesB size (p.ts.take k) = o at *
                have hol : o.length ≤ 8044 := by rw [← hA, List.length_append]; omega
                have HA := Lib.hid hA
                clear hA htl htl2 htl3
                go_wp2_with fail
                refine (HB4.out _ (HX.alloc _)).mono ?_
                rintro e w' ⟨rfl, HX', _⟩
                go_wp2_with fail
                go_roundw
                case rel => exact ⟨_, _, _, _, _, _, _, _, _, _, _, _, _, ⟨k + 1, by omega, by go_num, HX', by rw [HS.out, ← List.append_assoc, HA.out]⟩, rfl⟩
                case measure => simp [intOf]; omega
              · obtain rfl : k = p.ts.length := by omega
                rw [List.take_length]
                have htl := times_len size p.ts
                have htl3 : p.ts.length * size ≤ 1000 * 8 := Nat.mul_le_mul ht (by omega)
                generalize hA : hd ++ timesB size p.ts = hd2 at *
                have hhdl2 : hd2.length ≤ 8044 := by rw [← hA, List.length_append]; omega
                have HHD2 := Lib.hid hA
                clear hA htl htl3 HBT hlt hk
                obtain ⟨wo2, rfl⟩ : ∃ wo : World, wo = wr := ⟨_, rfl⟩
                go_wp2_with fail
                go_loopw [12, 88] (fun vo i W => ∃ k : Nat, k ≤ p.ts.length ∧ i = .int .i64 k ∧ InP w p ⟨A1, k1, A2, k2⟩ W ∧ vo = .string (S (hd2 ++ ixsB (p.ts.take k)))) (fun _ i _ => p.ts.length - (intOf i).toNat)
                case atStart => exact ⟨0, Nat.zero_le _, rfl, HX, by simp [ixsB]⟩
                case round =>
                  clear c0 c1 c2 c3 HX
                  obtain ⟨k, hk, rfl, HX, rfl⟩ := hrel
                  obtain ⟨c0, c1, c2, c3⟩ := HX.cells
                  dsimp only at c1 c2
                  have hlt0 := HX.1.lt
                  by_cases hlt : k < p.ts.length
                  · obtain ⟨t, htk⟩ : ∃ t, p.ts[k]? = some t := ⟨_, List.getElem?_eq_getElem hlt⟩
                    obtain ⟨ad, rfl, hadB, e0, e1⟩ := (HR.out.2.1.below HX.2 hB).tr htk
                    have i0 : (0 : Int) ≤ (k : Int) := by omega
                    have i1 : (k : Int) < (p.ts.length : Int) := by omega
                    have HS := Lib.hid (ixs_snoc p.ts k t htk)
                    have htl := ixs_len (p.ts.take k)
                    have htl2 : (p.ts.take k).length ≤ 1000 := by rw [List.length_take]; omega
                    have hcv := fun (x : Int) => conv1_at (wr.alloc (.cells #[.int .i64 t.at_, .int .u8 (t.ix : Int)] 40)) x (wr.heap.size + 1) (by simp)
                    clear htk
                    generalize hA : hd2 ++ ixsB (p.ts.take k) = o at *
                    have hol : o.length ≤ 9044 := by rw [← hA, List.length_append]; omega
                    have HA := Lib.hid hA
                    clear hA htl htl2
                    go_wp2_with fail
                    go_roundw
                    case rel => exact ⟨k + 1, by omega, by go_num, (HX.alloc _).alloc _, by rw [HS.out, ← List.append_assoc, HA.out]⟩
                    case measure => simp [intOf]; omega
                  · obtain rfl : k = p.ts.length := by omega
                    rw [List.take_length]
                    have htl := ixs_len p.ts
                    have HF := Lib.hid (show blockB ver size p.zs p.ts = hd2 ++ (ixsB p.ts ++ (kindsB p.zs 0 ++ charsB p.zs)) by
                      rw [← HHD2.out, ← HHD.out, ← HNS.out]
                      unfold blockB bodyB
                      simp only [List.append_assoc])
                    go_wp2_with fail
                    go_ret
                    rw [HF.out]
                    exact ⟨rfl, HX.2⟩

end Go.Proofs.YtgmlclhdibajiaaDoor
