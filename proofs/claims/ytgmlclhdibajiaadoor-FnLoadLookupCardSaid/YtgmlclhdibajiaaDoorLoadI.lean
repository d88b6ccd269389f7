/- The loader of zone files: the head of a file of the first version. -/
import Derived.Test.YtgmlclhdibajiaaDoorLoadT
import Derived.Deep.DeepCutAuto
import Derived.Deep.DeepFit
namespace Go.Proofs.YtgmlclhdibajiaaDoor
open Go.RowKit

set_option maxRecDepth 1000000 in
set_option maxHeartbeats 16000000 in
theorem head1 (POST : Ending → World → Prop) (w : World) (nm D : Bs) (zs : List Zo) (ts : List Tr) (hz : zs.length ≤ 200) (ht : ts.length ≤ 1000) (hn : (charsB zs).length ≤ 255) (hD : D.length ≤ 4611686018427300000)
    (HT : ∀ (gn : Nat) (u1 u2 u3 u4 u5 u7 u8 u9 u11 u12 u13 u15 u16 u17 u18 u42 u43 u44 u45 u46 u47 u48 u49 u50 u51 u52 u53 u54 u55 u56 u57 u58 u59 u60 u61 u62 u63 u64 u65 u66 u67 u68 u69 u70 u71 u72 u73 u74 u75 u76 u77 u78 u79 u80 u81 u82 u83 u84 u85 u86 u87 u88 u89 u90 u91 u92 u93 u94 u95 u96 u97 u98 u99 u100 u101 u102 u103 u104 u105 u106 u107 u108 u109 u110 u111 u112 u113 u114 u115 u116 u117 u118 u119 u120 u121 u122 u123 u124 u125 u126 u127 u128 u129 u130 u131 u132 u133 u134 : Value) (W : World), LdS w gn (cnt6 ts zs) D false W → Code.wp Tryd.prog T44 (bodyPost Tryd.prog Tryd.f20 POST) ⟨(Value.string (S nm) :: u1 :: u2 :: u3 :: u4 :: u5 :: Value.pointer (some ⟨w.heap.size, 0, none⟩) :: u7 :: u8 :: u9 :: Value.pointer (some ⟨gn, 0, none⟩) :: u11 :: u12 :: u13 :: Value.bool false :: u15 :: u16 :: u17 :: u18 :: Value.int .i64 4 :: undef :: undef :: undef :: undef :: undef :: undef :: undef :: undef :: undef :: undef :: undef :: undef :: undef :: undef :: undef :: undef :: undef :: undef :: undef :: undef :: undef :: undef :: u42 :: u43 :: u44 :: u45 :: u46 :: u47 :: u48 :: u49 :: u50 :: u51 :: u52 :: u53 :: u54 :: u55 :: u56 :: u57 :: u58 :: u59 :: u60 :: u61 :: u62 :: u63 :: u64 :: u65 :: u66 :: u67 :: u68 :: u69 :: u70 :: u71 :: u72 :: u73 :: u74 :: u75 :: u76 :: u77 :: u78 :: u79 :: u80 :: u81 :: u82 :: u83 :: u84 :: u85 :: u86 :: u87 :: u88 :: u89 :: u90 :: u91 :: u92 :: u93 :: u94 :: u95 :: u96 :: u97 :: u98 :: u99 :: u100 :: u101 :: u102 :: u103 :: u104 :: u105 :: u106 :: u107 :: u108 :: u109 :: u110 :: u111 :: u112 :: u113 :: u114 :: u115 :: u116 :: u117 :: u118 :: u119 :: u120 :: u121 :: u122 :: u123 :: u124 :: u125 :: u126 :: u127 :: u128 :: u129 :: u130 :: u131 :: u132 :: u133 :: u134 :: undef :: undef :: undef :: undef :: undef :: undef :: undef :: undef :: undef :: undef :: undef :: undef :: undef :: undef :: undef :: undef :: undef :: undef :: undef :: undef :: undef :: undef :: undef :: undef :: undef :: undef :: undef :: undef :: undef :: undef :: undef :: undef :: undef :: undef :: undef :: undef :: undef :: undef :: undef :: undef :: undef :: undef :: undef :: undef :: undef :: undef :: undef :: undef :: undef :: undef :: undef :: undef :: undef :: undef :: undef :: undef :: undef :: undef :: undef :: undef :: undef :: undef :: undef :: undef :: undef :: undef :: undef :: undef :: undef :: undef :: undef :: undef :: undef :: undef :: undef :: undef :: undef :: undef :: undef :: undef :: undef :: undef :: undef :: undef :: undef :: undef :: undef :: undef :: undef :: undef :: undef :: undef :: undef :: undef :: undef :: undef :: undef :: undef :: undef :: undef :: undef :: undef :: undef :: undef :: undef :: undef :: undef :: undef :: undef :: undef :: undef :: undef :: undef :: undef :: undef :: undef :: undef :: undef :: undef :: undef :: undef :: undef :: undef :: undef :: undef :: undef :: undef :: undef :: undef :: undef :: undef :: undef :: undef :: undef :: undef :: undef :: undef :: undef :: undef :: undef :: undef :: undef :: undef :: undef :: undef :: undef :: undef :: undef :: undef :: undef :: undef :: undef :: undef :: undef :: undef :: undef :: undef :: undef :: undef :: undef :: undef :: undef :: undef :: undef :: undef :: undef :: undef :: undef :: undef :: undef :: undef :: undef :: undef :: undef :: undef :: undef :: undef :: undef :: undef :: undef :: undef :: undef :: undef :: undef :: undef :: undef :: undef :: undef :: undef :: undef :: undef :: undef :: undef :: undef :: undef :: undef :: undef :: undef :: undef :: undef :: undef :: undef :: undef :: undef :: undef :: undef :: undef :: undef :: undef :: undef :: undef :: undef :: undef :: undef :: undef :: undef :: undef :: undef :: []).toArray, []⟩ W)
    (v : Value) (hv : Slb w w.heap.size v (headB 0 ++ (countsB (cntL ts.length zs.length (charsB zs).length) ++ D))) :
    Calls Tryd.prog 20 #[.string (S nm), v] w POST := by
  have HH := Lib.hid HT
  clear HT
  have HNI_ns := Lib.hid (fun j n h => cntL_in ts.length zs.length (charsB zs).length ht hz hn j n h)
  have HNL_ns := Lib.hid (show (cntL ts.length zs.length (charsB zs).length).length = 6 from rfl)
  have HC6 := Lib.hid (show nC [0, 0, 0, 0, 0, 0] (cntL ts.length zs.length (charsB zs).length) 6 = cnt6 ts zs from rfl)
  have HD0 : (countsB (cntL ts.length zs.length (charsB zs).length) ++ D) = (countsB ((cntL ts.length zs.length (charsB zs).length).drop 0) ++ D) := rfl
  rw [HD0] at hv
  clear HD0
  generalize cntL ts.length zs.length (charsB zs).length = ns at *
  generalize hR : countsB (ns.drop 0) ++ D = R at *
  have hRR : R.length ≤ 4611686018427380000 := by rw [← hR, List.length_append, counts_len, List.length_drop, HNL_ns.out]; omega
  have HR := Lib.hid hR
  clear hR
  rw [show headB 0 ++ R = [84, 90, 105, 102] ++ ((0 :: byB 0 15) ++ R) from rfl] at hv

  obtain ⟨A, cap, rfl, hr, hc⟩ := hv
  have hD0 := Dio.new w A cap _ hr hc
  have hRl : R.length ≤ 4611686018427380000 := hRR
  have h16 : (0 :: byB 0 15 : List UInt8).length = 16 := rfl
  have hL : ([84, 90, 105, 102] ++ ((0 :: byB 0 15) ++ R) : Bs).length = 20 + R.length := by simp only [List.length_append, h16, List.length_cons, List.length_nil]; omega
  have H1 := Lib.hid (read_ok [84, 90, 105, 102] ((0 :: byB 0 15) ++ R) false _ _ _ hD0 (by rw [hL]; omega) 4 rfl)
  have H2 := Lib.hid (fun W h => read_ok (0 :: byB 0 15) R false w.heap.size w.heap.size W h (by rw [List.length_append, h16]; omega) 16 rfl)
  have hb0 : Below w.heap.size w (w.alloc (.cells #[.slice A ([84, 90, 105, 102] ++ ((0 :: byB 0 15) ++ R) : Bs).length cap, .bool false] 59)) := (Below.refl _ _).alloc (Nat.le_refl _) _
  clear hr hD0 hc hL hRR
  generalize ([84, 90, 105, 102] ++ ((0 :: byB 0 15) ++ R) : Bs).length = L at *
  go_enter Tryd.func20, Tryd.ntmps20
  go_wp2_with fail
  refine H1.out.mono ?_
  rintro e w1 ⟨⟨v1, rfl, A1, q1, rfl, hr1, _⟩, hd1, hg1⟩
  have hb1 := grown_below hb0 hg1 (Nat.le_refl _)
  have hcv : ∀ c, (convert 42 9 (.slice A1 4 c)).run Tryd.prog w1 = .ok (.string (S [84, 90, 105, 102])) w1 := conv_rb hr1
  have HD1 := Lib.hid hd1
  have HB1 := Lib.hid hb1
  clear hb0 hg1 hd1 hb1 hr1 H1
  go_wp2_with fail
  refine (H2.out _ HD1.out).mono ?_
  rintro e w2 ⟨⟨v2, rfl, A2, q2, rfl, hr2, _⟩, hd2, hg2⟩
  obtain ⟨gd, od, rfl, _, hcs⟩ := hr2.at (k := 0) (b := 0) rfl
  have e0 := hcs 0 0 rfl
  rw [Nat.add_zero] at e0
  have HD2 := Lib.hid hd2
  have HB2 := Lib.hid (grown_below HB1.out hg2 (Nat.le_refl _))
  have hlt2 := hd2.lt
  clear HB1 hg2 hd2 hcs hr2 H2 HD1 hcv
  go_wp2_with fail
  have hlt0 := HB2.out.size
  have HB3 := HB2.out.alloc hlt0 (.cells #[.int .i64 0, .int .i64 0, .int .i64 0, .int .i64 0, .int .i64 0, .int .i64 0] 61)
  have HD3 := Lib.hid (HD2.out.alloc (.cells #[.int .i64 0, .int .i64 0, .int .i64 0, .int .i64 0, .int .i64 0, .int .i64 0] 61))
  have HN3 := Blk.new w2 61 #[.int .i64 0, .int .i64 0, .int .i64 0, .int .i64 0, .int .i64 0, .int .i64 0] _ rfl
  clear e0 HB2 HD2
  generalize hgn : w2.heap.size = gn at *
  clear hgn

  go_loopw [11] (fun i W => ∃ j : Nat, j ≤ 6 ∧ i = .int .i64 j ∧ Hid (Dio W w.heap.size w.heap.size (countsB (ns.drop j) ++ D) false) ∧ Blk W gn 61 (nC [0, 0, 0, 0, 0, 0] ns j) ∧ Below w.heap.size w W) (fun i _ => 6 - (intOf i).toNat)
  case atStart => exact ⟨0, Nat.zero_le _, rfl, by rw [HR.out]; exact HD3, HN3, HB3⟩
  case round =>
    obtain ⟨j, hj, rfl, HD, HB, hb⟩ := hrel
    have hltn := HB.lt
    have hltd := HD.out.lt
    have hszw := hb.size
    by_cases hlt : j < 6
    · obtain ⟨n, hn'⟩ : ∃ n, ns[j]? = some n := ⟨_, List.getElem?_eq_getElem (by rw [HNL_ns.out]; exact hlt)⟩
      have hnr := HNI_ns.out j n hn'
      have HD := HD.out
      rw [counts_drop ns j n hn', List.append_assoc] at HD
      have hrest : (countsB (ns.drop (j + 1)) ++ D).length ≤ 4611686018427387000 := by
        rw [List.length_append, counts_len, List.length_drop, HNL_ns.out]; omega
      have HC := Lib.hid (big4_by n _ false _ _ _ HD hrest)
      have HSET := Lib.hid (nC_set [0, 0, 0, 0, 0, 0] ns rfl HNL_ns.out j n hn')
      have hmod : n % 4294967296 = n := by omega
      obtain ⟨bj, hbj⟩ := nC_at [0, 0, 0, 0, 0, 0] ns rfl HNL_ns.out j hlt
      have HAT := Lib.hid hbj
      have HB' := Lib.hid HB
      have HBB := Lib.hid hb
      clear HD HB hb hn' hrest hbj
      go_wp2_with fail
      refine HC.out.mono ?_
      rintro e w3 ⟨rfl, hd3, hg3⟩
      have hgr := hg3.size
      have HBk := HB'.out.grown hg3 (by intro e; injection e with e; omega)
      have f0 := HBk.cell j
      rw [HAT.out] at f0
      have f1 := HBk.frozen j
      have HG3 := Lib.hid hg3
      have HD3 := Lib.hid hd3
      clear hg3 hd3
      go_wp2_with fail
      go_roundw
      case rel => exact ⟨j + 1, by omega, by go_num, Lib.hid (HD3.out.other _ (by show _ ≠ gn; omega) (by show _ ≤ gn; omega) _), by rw [← HSET.out]; exact HBk.set j _, (grown_below HBB.out HG3.out (Nat.le_refl _)).setCell (by show _ ≤ gn; omega) _⟩
      case measure => simp [intOf]; omega
    · obtain rfl : j = 6 := by omega

      rw [HC6.out] at HB
      have HS : LdS w gn (cnt6 ts zs) D false wr := ⟨by have h := HD.out; rw [List.drop_of_length_le (by rw [HNL_ns.out]; exact Nat.le_refl _)] at h; exact h, HB, hb, hlt2⟩
      have HS := Lib.hid HS
      clear HB hb HD
      go_upto_region 43 with fail
      repeat (first | (refine HH.out gn _ _ _ _ _ _ _ _ _ _ _ _ _ _ _ _ _ _ _ _ _ _ _ _ _ _ _ _ _ _ _ _ _ _ _ _ _ _ _ _ _ _ _ _ _ _ _ _ _ _ _ _ _ _ _ _ _ _ _ _ _ _ _ _ _ _ _ _ _ _ _ _ _ _ _ _ _ _ _ _ _ _ _ _ _ _ _ _ _ _ _ _ _ _ _ _ _ _ _ _ _ _ _ _ _ _ _ _ _ ?_) | go_step)
      exact HS.out
set_option maxRecDepth 1000000 in
set_option maxHeartbeats 16000000 in
theorem head2 (POST : Ending → World → Prop) (w : World) (nm D X : Bs) (nc : Nat) (zs : List Zo) (ts : List Tr) (hz : zs.length ≤ 200) (ht : ts.length ≤ 1000) (hn : (charsB zs).length ≤ 255) (hD : D.length ≤ 4611686018427200000) (hnc : nc ≤ 255) (hX : X.length = 26 + nc)
    (HT : ∀ (gn : Nat) (u1 u2 u3 u4 u5 u7 u8 u9 u11 u12 u13 u15 u16 u17 u18 u42 u43 u44 u45 u46 u47 u48 u49 u50 u51 u52 u53 u54 u55 u56 u57 u58 u59 u60 u61 u62 u63 u64 u65 u66 u67 u68 u69 u70 u71 u72 u73 u74 u75 u76 u77 u78 u79 u80 u81 u82 u83 u84 u85 u86 u87 u88 u89 u90 u91 u92 u93 u94 u95 u96 u97 u98 u99 u100 u101 u102 u103 u104 u105 u106 u107 u108 u109 u110 u111 u112 u113 u114 u115 u116 u117 u118 u119 u120 u121 u122 u123 u124 u125 u126 u127 u128 u129 u130 u131 u132 u133 u134 : Value) (W : World), LdS w gn (cnt6 ts zs) D false W → Code.wp Tryd.prog T44 (bodyPost Tryd.prog Tryd.f20 POST) ⟨(Value.string (S nm) :: u1 :: u2 :: u3 :: u4 :: u5 :: Value.pointer (some ⟨w.heap.size, 0, none⟩) :: u7 :: u8 :: u9 :: Value.pointer (some ⟨gn, 0, none⟩) :: u11 :: u12 :: u13 :: Value.bool true :: u15 :: u16 :: u17 :: u18 :: Value.int .i64 4 :: undef :: undef :: undef :: undef :: undef :: undef :: undef :: undef :: undef :: undef :: undef :: undef :: undef :: undef :: undef :: undef :: undef :: undef :: undef :: undef :: undef :: undef :: u42 :: u43 :: u44 :: u45 :: u46 :: u47 :: u48 :: u49 :: u50 :: u51 :: u52 :: u53 :: u54 :: u55 :: u56 :: u57 :: u58 :: u59 :: u60 :: u61 :: u62 :: u63 :: u64 :: u65 :: u66 :: u67 :: u68 :: u69 :: u70 :: u71 :: u72 :: u73 :: u74 :: u75 :: u76 :: u77 :: u78 :: u79 :: u80 :: u81 :: u82 :: u83 :: u84 :: u85 :: u86 :: u87 :: u88 :: u89 :: u90 :: u91 :: u92 :: u93 :: u94 :: u95 :: u96 :: u97 :: u98 :: u99 :: u100 :: u101 :: u102 :: u103 :: u104 :: u105 :: u106 :: u107 :: u108 :: u109 :: u110 :: u111 :: u112 :: u113 :: u114 :: u115 :: u116 :: u117 :: u118 :: u119 :: u120 :: u121 :: u122 :: u123 :: u124 :: u125 :: u126 :: u127 :: u128 :: u129 :: u130 :: u131 :: u132 :: u133 :: u134 :: undef :: undef :: undef :: undef :: undef :: undef :: undef :: undef :: undef :: undef :: undef :: undef :: undef :: undef :: undef :: undef :: undef :: undef :: undef :: undef :: undef :: undef :: undef :: undef :: undef :: undef :: undef :: undef :: undef :: undef :: undef :: undef :: undef :: undef :: undef :: undef :: undef :: undef :: undef :: undef :: undef :: undef :: undef :: undef :: undef :: undef :: undef :: undef :: undef :: undef :: undef :: undef :: undef :: undef :: undef :: undef :: undef :: undef :: undef :: undef :: undef :: undef :: undef :: undef :: undef :: undef :: undef :: undef :: undef :: undef :: undef :: undef :: undef :: undef :: undef :: undef :: undef :: undef :: undef :: undef :: undef :: undef :: undef :: undef :: undef :: undef :: undef :: undef :: undef :: undef :: undef :: undef :: undef :: undef :: undef :: undef :: undef :: undef :: undef :: undef :: undef :: undef :: undef :: undef :: undef :: undef :: undef :: undef :: undef :: undef :: undef :: undef :: undef :: undef :: undef :: undef :: undef :: undef :: undef :: undef :: undef :: undef :: undef :: undef :: undef :: undef :: undef :: undef :: undef :: undef :: undef :: undef :: undef :: undef :: undef :: undef :: undef :: undef :: undef :: undef :: undef :: undef :: undef :: undef :: undef :: undef :: undef :: undef :: undef :: undef :: undef :: undef :: undef :: undef :: undef :: undef :: undef :: undef :: undef :: undef :: undef :: undef :: undef :: undef :: undef :: undef :: undef :: undef :: undef :: undef :: undef :: undef :: undef :: undef :: undef :: undef :: undef :: undef :: undef :: undef :: undef :: undef :: undef :: undef :: undef :: undef :: undef :: undef :: undef :: undef :: undef :: undef :: undef :: undef :: undef :: undef :: undef :: undef :: undef :: undef :: undef :: undef :: undef :: undef :: undef :: undef :: undef :: undef :: undef :: undef :: undef :: undef :: undef :: undef :: undef :: undef :: undef :: undef :: []).toArray, []⟩ W)
    (v : Value) (hv : Slb w w.heap.size v (headB 50 ++ (countsB (cntL 0 1 nc) ++ (X ++ (countsB (cntL ts.length zs.length (charsB zs).length) ++ D))))) :
    Calls Tryd.prog 20 #[.string (S nm), v] w POST := by
  have HH := Lib.hid HT
  clear HT
  have HNI_ms := Lib.hid (fun j n h => cntL_in 0 1 nc (by omega) (by omega) hnc j n h)
  have HNL_ms := Lib.hid (show (cntL 0 1 nc).length = 6 from rfl)
  have HNI_ns := Lib.hid (fun j n h => cntL_in ts.length zs.length (charsB zs).length ht hz hn j n h)
  have HNL_ns := Lib.hid (show (cntL ts.length zs.length (charsB zs).length).length = 6 from rfl)
  have HM6 := Lib.hid (show nC [0, 0, 0, 0, 0, 0] (cntL 0 1 nc) 6 = #[.int .i64 0, .int .i64 0, .int .i64 0, .int .i64 0, .int .i64 1, .int .i64 (nc : Int)] from rfl)
  have HM0 := Lib.hid (show #[.int .i64 0, .int .i64 0, .int .i64 0, .int .i64 0, .int .i64 1, .int .i64 (nc : Int)] = nC [0, 0, 0, 0, 1, (nc : Int)] (cntL ts.length zs.length (charsB zs).length) 0 from rfl)
  have HC6 := Lib.hid (show nC [0, 0, 0, 0, 1, (nc : Int)] (cntL ts.length zs.length (charsB zs).length) 6 = cnt6 ts zs from rfl)
  generalize cntL 0 1 nc = ms at *
  generalize cntL ts.length zs.length (charsB zs).length = ns at *
  have HE := Lib.hid (show X ++ (countsB ns ++ D) = X ++ (countsB (ns.drop 0) ++ D) from rfl)
  have hE : (X ++ (countsB ns ++ D)).length ≤ 4611686018427300000 := by rw [List.length_append, List.length_append, counts_len, HNL_ns.out]; omega
  have RX := Lib.hid (fun (gn : Nat) (cs : Array Value) (W : World) (h : LdS w gn cs (X ++ (countsB ns ++ D)) false W) => read_S (w := w) (W := W) (gn := gn) (cs := cs) X (countsB ns ++ D) _ rfl h (by omega) (6 + nc + 20 : Int) (by omega))
  generalize hE0 : X ++ (countsB ns ++ D) = E at *
  have HE0 := Lib.hid hE0
  clear hE0
  have hR0 : (countsB ms ++ E) = (countsB (ms.drop 0) ++ E) := rfl
  rw [hR0] at hv
  clear hR0
  generalize hR : countsB (ms.drop 0) ++ E = R at *
  have hRR : R.length ≤ 4611686018427380000 := by rw [← hR, List.length_append, counts_len, List.length_drop, HNL_ms.out]; omega
  have HR := Lib.hid hR
  clear hR
  rw [show headB 50 ++ R = [84, 90, 105, 102] ++ ((50 :: byB 0 15) ++ R) from rfl] at hv

  obtain ⟨A, cap, rfl, hr, hc⟩ := hv
  have hD0 := Dio.new w A cap _ hr hc
  have hRl : R.length ≤ 4611686018427380000 := hRR
  have h16 : (50 :: byB 0 15 : List UInt8).length = 16 := rfl
  have hL : ([84, 90, 105, 102] ++ ((50 :: byB 0 15) ++ R) : Bs).length = 20 + R.length := by simp only [List.length_append, h16, List.length_cons, List.length_nil]; omega
  have H1 := Lib.hid (read_ok [84, 90, 105, 102] ((50 :: byB 0 15) ++ R) false _ _ _ hD0 (by rw [hL]; omega) 4 rfl)
  have H2 := Lib.hid (fun W h => read_ok (50 :: byB 0 15) R false w.heap.size w.heap.size W h (by rw [List.length_append, h16]; omega) 16 rfl)
  have hb0 : Below w.heap.size w (w.alloc (.cells #[.slice A ([84, 90, 105, 102] ++ ((50 :: byB 0 15) ++ R) : Bs).length cap, .bool false] 59)) := (Below.refl _ _).alloc (Nat.le_refl _) _
  clear hr hD0 hc hL hRR
  generalize ([84, 90, 105, 102] ++ ((50 :: byB 0 15) ++ R) : Bs).length = L at *
  go_enter Tryd.func20, Tryd.ntmps20
  go_wp2_with fail
  refine H1.out.mono ?_
  rintro e w1 ⟨⟨v1, rfl, A1, q1, rfl, hr1, _⟩, hd1, hg1⟩
  have hb1 := grown_below hb0 hg1 (Nat.le_refl _)
  have hcv : ∀ c, (convert 42 9 (.slice A1 4 c)).run Tryd.prog w1 = .ok (.string (S [84, 90, 105, 102])) w1 := conv_rb hr1
  have HD1 := Lib.hid hd1
  have HB1 := Lib.hid hb1
  clear hb0 hg1 hd1 hb1 hr1 H1
  go_wp2_with fail
  refine (H2.out _ HD1.out).mono ?_
  rintro e w2 ⟨⟨v2, rfl, A2, q2, rfl, hr2, _⟩, hd2, hg2⟩
  obtain ⟨gd, od, rfl, _, hcs⟩ := hr2.at (k := 0) (b := 50) rfl
  have e0 := hcs 0 50 rfl
  rw [Nat.add_zero] at e0
  have HD2 := Lib.hid hd2
  have HB2 := Lib.hid (grown_below HB1.out hg2 (Nat.le_refl _))
  have hlt2 := hd2.lt
  clear HB1 hg2 hd2 hcs hr2 H2 HD1 hcv
  go_wp2_with fail
  have hlt0 := HB2.out.size
  have HB3 := HB2.out.alloc hlt0 (.cells #[.int .i64 0, .int .i64 0, .int .i64 0, .int .i64 0, .int .i64 0, .int .i64 0] 61)
  have HD3 := Lib.hid (HD2.out.alloc (.cells #[.int .i64 0, .int .i64 0, .int .i64 0, .int .i64 0, .int .i64 0, .int .i64 0] 61))
  have HN3 := Blk.new w2 61 #[.int .i64 0, .int .i64 0, .int .i64 0, .int .i64 0, .int .i64 0, .int .i64 0] _ rfl
  clear e0 HB2 HD2
  generalize hgn : w2.heap.size = gn at *
  clear hgn

  go_loopw [11] (fun i W => ∃ j : Nat, j ≤ 6 ∧ i = .int .i64 j ∧ Hid (Dio W w.heap.size w.heap.size (countsB (ms.drop j) ++ E) false) ∧ Blk W gn 61 (nC [0, 0, 0, 0, 0, 0] ms j) ∧ Below w.heap.size w W) (fun i _ => 6 - (intOf i).toNat)
  case atStart => exact ⟨0, Nat.zero_le _, rfl, by rw [HR.out]; exact HD3, HN3, HB3⟩
  case round =>
    obtain ⟨j, hj, rfl, HD, HB, hb⟩ := hrel
    have hltn := HB.lt
    have hltd := HD.out.lt
    have hszw := hb.size
    by_cases hlt : j < 6
    · obtain ⟨n, hn'⟩ : ∃ n, ms[j]? = some n := ⟨_, List.getElem?_eq_getElem (by rw [HNL_ms.out]; exact hlt)⟩
      have hnr := HNI_ms.out j n hn'
      have HD := HD.out
      rw [counts_drop ms j n hn', List.append_assoc] at HD
      have hrest : (countsB (ms.drop (j + 1)) ++ E).length ≤ 4611686018427387000 := by
        rw [List.length_append, counts_len, List.length_drop, HNL_ms.out]; omega
      have HC := Lib.hid (big4_by n _ false _ _ _ HD hrest)
      have HSET := Lib.hid (nC_set [0, 0, 0, 0, 0, 0] ms rfl HNL_ms.out j n hn')
      have hmod : n % 4294967296 = n := by omega
      obtain ⟨bj, hbj⟩ := nC_at [0, 0, 0, 0, 0, 0] ms rfl HNL_ms.out j hlt
      have HAT := Lib.hid hbj
      have HB' := Lib.hid HB
      have HBB := Lib.hid hb
      clear HD HB hb hn' hrest hbj
      go_wp2_with fail
      refine HC.out.mono ?_
      rintro e w3 ⟨rfl, hd3, hg3⟩
      have hgr := hg3.size
      have HBk := HB'.out.grown hg3 (by intro e; injection e with e; omega)
      have f0 := HBk.cell j
      rw [HAT.out] at f0
      have f1 := HBk.frozen j
      have HG3 := Lib.hid hg3
      have HD3 := Lib.hid hd3
      clear hg3 hd3
      go_wp2_with fail
      go_roundw
      case rel => exact ⟨j + 1, by omega, by go_num, Lib.hid (HD3.out.other _ (by show _ ≠ gn; omega) (by show _ ≤ gn; omega) _), by rw [← HSET.out]; exact HBk.set j _, (grown_below HBB.out HG3.out (Nat.le_refl _)).setCell (by show _ ≤ gn; omega) _⟩
      case measure => simp [intOf]; omega
    · obtain rfl : j = 6 := by omega

      rw [HM6.out] at HB
      have HS : LdS w gn #[.int .i64 0, .int .i64 0, .int .i64 0, .int .i64 0, .int .i64 1, .int .i64 (nc : Int)] E false wr := ⟨by have h := HD.out; rw [List.drop_of_length_le (by rw [HNL_ms.out]; exact Nat.le_refl _)] at h; exact h, HB, hb, hlt2⟩
      have HRX := Lib.hid (RX.out _ _ _ HS)
      have c0 := HB.cell 0
      have c1 := HB.cell 1
      have c2 := HB.cell 2
      have c3 := HB.cell 3
      have c4 := HB.cell 4
      have c5 := HB.cell 5
      simp at c0 c1 c2 c3 c4 c5
      obtain ⟨wo, rfl⟩ : ∃ wo : World, wo = wr := ⟨_, rfl⟩
      clear HS HB hb HD
      go_wp2_with fail
      refine HRX.out.mono ?_
      rintro e w4 ⟨A4, q4, rfl, _, _, HS4, _⟩
      have HN4 := HS4.2.1
      rw [HM0.out] at HN4
      have HD4 := Lib.hid HS4.1
      have HB4 := HS4.2.2.1
      clear c0 c1 c2 c3 c4 c5 HS4 HRX
      go_wp2_with fail

      go_loopw [16] (fun i W => ∃ j : Nat, j ≤ 6 ∧ i = .int .i64 j ∧ Hid (Dio W w.heap.size w.heap.size (countsB (ns.drop j) ++ D) false) ∧ Blk W gn 61 (nC [0, 0, 0, 0, 1, (nc : Int)] ns j) ∧ Below w.heap.size w W) (fun i _ => 6 - (intOf i).toNat)
      case atStart => exact ⟨0, Nat.zero_le _, rfl, HD4, HN4, HB4⟩
      case round =>
        obtain ⟨j, hj, rfl, HD, HB, hb⟩ := hrel
        have hltn := HB.lt
        have hltd := HD.out.lt
        have hszw := hb.size
        by_cases hlt : j < 6
        · obtain ⟨n, hn'⟩ : ∃ n, ns[j]? = some n := ⟨_, List.getElem?_eq_getElem (by rw [HNL_ns.out]; exact hlt)⟩
          have hnr := HNI_ns.out j n hn'
          have HD := HD.out
          rw [counts_drop ns j n hn', List.append_assoc] at HD
          have hrest : (countsB (ns.drop (j + 1)) ++ D).length ≤ 4611686018427387000 := by
            rw [List.length_append, counts_len, List.length_drop, HNL_ns.out]; omega
          have HC := Lib.hid (big4_by n _ false _ _ _ HD hrest)
          have HSET := Lib.hid (nC_set [0, 0, 0, 0, 1, (nc : Int)] ns rfl HNL_ns.out j n hn')
          have hmod : n % 4294967296 = n := by omega
          obtain ⟨bj, hbj⟩ := nC_at [0, 0, 0, 0, 1, (nc : Int)] ns rfl HNL_ns.out j hlt
          have HAT := Lib.hid hbj
          have HB' := Lib.hid HB
          have HBB := Lib.hid hb
          clear HD HB hb hn' hrest hbj
          go_wp2_with fail
          refine HC.out.mono ?_
          rintro e w3 ⟨rfl, hd3, hg3⟩
          have hgr := hg3.size
          have HBk := HB'.out.grown hg3 (by intro e; injection e with e; omega)
          have f0 := HBk.cell j
          rw [HAT.out] at f0
          have f1 := HBk.frozen j
          have HG3 := Lib.hid hg3
          have HD3 := Lib.hid hd3
          clear hg3 hd3
          go_wp2_with fail
          go_roundw
          case rel => exact ⟨j + 1, by omega, by go_num, Lib.hid (HD3.out.other _ (by show _ ≠ gn; omega) (by show _ ≤ gn; omega) _), by rw [← HSET.out]; exact HBk.set j _, (grown_below HBB.out HG3.out (Nat.le_refl _)).setCell (by show _ ≤ gn; omega) _⟩
          case measure => simp [intOf]; omega
        · obtain rfl : j = 6 := by omega

          rw [HC6.out] at HB
          have HS : LdS w gn (cnt6 ts zs) D false wr := ⟨by have h := HD.out; rw [List.drop_of_length_le (by rw [HNL_ns.out]; exact Nat.le_refl _)] at h; exact h, HB, hb, hlt2⟩
          have HS := Lib.hid HS
          clear HB hb HD
          go_upto_region 43 with fail
          repeat (first | (refine HH.out gn _ _ _ _ _ _ _ _ _ _ _ _ _ _ _ _ _ _ _ _ _ _ _ _ _ _ _ _ _ _ _ _ _ _ _ _ _ _ _ _ _ _ _ _ _ _ _ _ _ _ _ _ _ _ _ _ _ _ _ _ _ _ _ _ _ _ _ _ _ _ _ _ _ _ _ _ _ _ _ _ _ _ _ _ _ _ _ _ _ _ _ _ _ _ _ _ _ _ _ _ _ _ _ _ _ _ _ _ _ ?_) | go_step)
          exact HS.out
end Go.Proofs.YtgmlclhdibajiaaDoor
