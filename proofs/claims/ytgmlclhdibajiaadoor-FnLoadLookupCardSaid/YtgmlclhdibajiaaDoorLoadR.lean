/- The loader of zone files: the seven reads. -/
import Derived.Test.YtgmlclhdibajiaaDoorLoadT
import Derived.Deep.DeepCutAuto
import Derived.Deep.DeepFit
namespace Go.Proofs.YtgmlclhdibajiaaDoor
open Go.RowKit

theorem cnt6_cells {W : World} {gn : Nat} {ts : List Tr} {zs : List Zo} (h : Blk W gn 61 (cnt6 ts zs)) : (W.cell? ⟨gn, 0, none⟩ = some (.int .i64 0) ∧ W.cell? ⟨gn, 1, none⟩ = some (.int .i64 0) ∧ W.cell? ⟨gn, 2, none⟩ = some (.int .i64 0)) ∧ W.cell? ⟨gn, 3, none⟩ = some (.int .i64 (ts.length : Int)) ∧ W.cell? ⟨gn, 4, none⟩ = some (.int .i64 (zs.length : Int)) ∧ W.cell? ⟨gn, 5, none⟩ = some (.int .i64 ((charsB zs).length : Int)) :=
  ⟨⟨h.cell 0, h.cell 1, h.cell 2⟩, h.cell 3, h.cell 4, h.cell 5⟩
/-- a reader of its own, and the state, behind a further read -/
theorem dio_step {w W W' : World} {gt : Nat} {tl : Bs} (h : Hid (Dio W gt w.heap.size tl false)) (hg : W.grownBy W' (some w.heap.size)) (hne : w.heap.size < gt) : Hid (Dio W' gt w.heap.size tl false) := Lib.hid (h.out.grown hg (by omega) (Nat.le_refl _))
set_option maxRecDepth 1000000 in
set_option maxHeartbeats 16000000 in
theorem reads44 (POST : Ending → World → Prop) (w : World) (nm ext rest : Bs) (zs : List Zo) (ts : List Tr) (is64 : Bool) (size : Nat) (h64 : (is64 = true ∧ size = 8) ∨ (is64 = false ∧ size = 4)) (hrest : restOk rest ext) (hrl : rest.length ≤ 4611686018427300000)
    (hz0 : 1 ≤ zs.length) (hz : zs.length ≤ 200) (ht : ts.length ≤ 1000) (hn : (charsB zs).length ≤ 255)
    (H60 : ∀ (gn gt gk : Nat) (A5 A7 A24 A25 : Option Addr) (q5 q7 q24 q25 : Nat) (u1 u2 u3 u4 u5 u6 u7 u8 u9 u11 u12 u13 u15 u16 u17 u18 u19 u27 u42 u43 u44 u45 u46 u47 u48 u49 u50 u51 u52 u53 u54 u55 u56 u57 u58 u59 u60 u61 u62 u63 u64 u65 u66 u67 u68 u69 u70 u71 u72 u73 u74 u75 u76 u77 u78 u79 u80 u81 u82 u83 u84 u85 u86 u87 u88 u89 u90 u91 u92 u93 u94 u95 u96 u97 u98 u99 u100 u101 u102 u103 u104 u105 u106 u107 u108 u109 u110 u111 u112 u113 u114 u115 u116 u117 u118 u119 u120 u121 u122 u123 u124 u125 u126 u127 u128 u129 u130 u131 u132 u133 u134 u135 u136 u137 u138 u139 u140 u141 u142 u143 u144 u145 u146 u147 u148 u149 u150 u151 u152 u153 u154 u155 u156 u157 u158 u159 u160 u161 u162 u163 u164 u165 u166 u167 u168 u169 u170 u171 u172 u173 u174 u175 u176 u177 u178 u179 u180 u181 u182 u183 u184 u185 u186 u187 u188 u189 u190 u191 u192 u193 u194 : Value) (W : World), St w gn gt gk (cnt6 ts zs) (timesB size ts) (kindsB zs 0) W → Rb w w.heap.size A5 (ixsB ts) → ts.length ≤ q5 → Rb w w.heap.size A7 (charsB zs) → (charsB zs).length ≤ q7 → Code.wp Tryd.prog T60 (bodyPost Tryd.prog Tryd.f20 POST) ⟨(Value.string (S nm) :: u1 :: u2 :: u3 :: u4 :: u5 :: u6 :: u7 :: u8 :: u9 :: Value.pointer (some ⟨gn, 0, none⟩) :: u11 :: u12 :: u13 :: Value.bool is64 :: u15 :: u16 :: u17 :: u18 :: u19 :: Value.pointer (some ⟨gt, 0, none⟩) :: Value.slice A5 ts.length q5 :: Value.pointer (some ⟨gk, 0, none⟩) :: Value.slice A7 (charsB zs).length q7 :: Value.slice A24 0 q24 :: Value.slice A25 0 q25 :: Value.string (S ext) :: u27 :: Value.int .i64 (zs.length : Int) :: undef :: undef :: undef :: undef :: undef :: undef :: undef :: undef :: undef :: undef :: undef :: undef :: undef :: u42 :: u43 :: u44 :: u45 :: u46 :: u47 :: u48 :: u49 :: u50 :: u51 :: u52 :: u53 :: u54 :: u55 :: u56 :: u57 :: u58 :: u59 :: u60 :: u61 :: u62 :: u63 :: u64 :: u65 :: u66 :: u67 :: u68 :: u69 :: u70 :: u71 :: u72 :: u73 :: u74 :: u75 :: u76 :: u77 :: u78 :: u79 :: u80 :: u81 :: u82 :: u83 :: u84 :: u85 :: u86 :: u87 :: u88 :: u89 :: u90 :: u91 :: u92 :: u93 :: u94 :: u95 :: u96 :: u97 :: u98 :: u99 :: u100 :: u101 :: u102 :: u103 :: u104 :: u105 :: u106 :: u107 :: u108 :: u109 :: u110 :: u111 :: u112 :: u113 :: u114 :: u115 :: u116 :: u117 :: u118 :: u119 :: u120 :: u121 :: u122 :: u123 :: u124 :: u125 :: u126 :: u127 :: u128 :: u129 :: u130 :: u131 :: u132 :: u133 :: u134 :: u135 :: u136 :: u137 :: u138 :: u139 :: u140 :: u141 :: u142 :: u143 :: u144 :: u145 :: u146 :: u147 :: u148 :: u149 :: u150 :: u151 :: u152 :: u153 :: u154 :: u155 :: u156 :: u157 :: u158 :: u159 :: u160 :: u161 :: u162 :: u163 :: u164 :: u165 :: u166 :: u167 :: u168 :: u169 :: u170 :: u171 :: u172 :: u173 :: u174 :: u175 :: u176 :: u177 :: u178 :: u179 :: u180 :: u181 :: u182 :: u183 :: u184 :: u185 :: u186 :: u187 :: u188 :: u189 :: u190 :: u191 :: u192 :: u193 :: u194 :: undef :: undef :: undef :: undef :: undef :: undef :: undef :: undef :: undef :: undef :: undef :: undef :: undef :: undef :: undef :: undef :: undef :: undef :: undef :: undef :: undef :: undef :: undef :: undef :: undef :: undef :: undef :: undef :: undef :: undef :: undef :: undef :: undef :: undef :: undef :: undef :: undef :: undef :: undef :: undef :: undef :: undef :: undef :: undef :: undef :: undef :: undef :: undef :: undef :: undef :: undef :: undef :: undef :: undef :: undef :: undef :: undef :: undef :: undef :: undef :: undef :: undef :: undef :: undef :: undef :: undef :: undef :: undef :: undef :: undef :: undef :: undef :: undef :: undef :: undef :: undef :: undef :: undef :: undef :: undef :: undef :: undef :: undef :: undef :: undef :: undef :: undef :: undef :: undef :: undef :: undef :: undef :: undef :: undef :: undef :: undef :: undef :: undef :: undef :: undef :: undef :: undef :: undef :: undef :: undef :: undef :: undef :: undef :: undef :: undef :: undef :: undef :: undef :: undef :: undef :: undef :: undef :: undef :: undef :: undef :: undef :: undef :: undef :: undef :: undef :: undef :: undef :: undef :: undef :: undef :: undef :: undef :: undef :: undef :: undef :: undef :: undef :: undef :: undef :: undef :: undef :: undef :: undef :: undef :: undef :: undef :: undef :: undef :: undef :: undef :: undef :: undef :: undef :: undef :: undef :: undef :: undef :: undef :: []).toArray, []⟩ W)
    (gn : Nat) (u1 u2 u3 u4 u5 u7 u8 u9 u11 u12 u13 u15 u16 u17 u18 u42 u43 u44 u45 u46 u47 u48 u49 u50 u51 u52 u53 u54 u55 u56 u57 u58 u59 u60 u61 u62 u63 u64 u65 u66 u67 u68 u69 u70 u71 u72 u73 u74 u75 u76 u77 u78 u79 u80 u81 u82 u83 u84 u85 u86 u87 u88 u89 u90 u91 u92 u93 u94 u95 u96 u97 u98 u99 u100 u101 u102 u103 u104 u105 u106 u107 u108 u109 u110 u111 u112 u113 u114 u115 u116 u117 u118 u119 u120 u121 u122 u123 u124 u125 u126 u127 u128 u129 u130 u131 u132 u133 u134 : Value) (W0 : World) (h0 : LdS w gn (cnt6 ts zs) (timesB size ts ++ (ixsB ts ++ (kindsB zs 0 ++ (charsB zs ++ rest)))) false W0) :
    Code.wp Tryd.prog T44 (bodyPost Tryd.prog Tryd.f20 POST) ⟨(Value.string (S nm) :: u1 :: u2 :: u3 :: u4 :: u5 :: Value.pointer (some ⟨w.heap.size, 0, none⟩) :: u7 :: u8 :: u9 :: Value.pointer (some ⟨gn, 0, none⟩) :: u11 :: u12 :: u13 :: Value.bool is64 :: u15 :: u16 :: u17 :: u18 :: Value.int .i64 4 :: undef :: undef :: undef :: undef :: undef :: undef :: undef :: undef :: undef :: undef :: undef :: undef :: undef :: undef :: undef :: undef :: undef :: undef :: undef :: undef :: undef :: undef :: u42 :: u43 :: u44 :: u45 :: u46 :: u47 :: u48 :: u49 :: u50 :: u51 :: u52 :: u53 :: u54 :: u55 :: u56 :: u57 :: u58 :: u59 :: u60 :: u61 :: u62 :: u63 :: u64 :: u65 :: u66 :: u67 :: u68 :: u69 :: u70 :: u71 :: u72 :: u73 :: u74 :: u75 :: u76 :: u77 :: u78 :: u79 :: u80 :: u81 :: u82 :: u83 :: u84 :: u85 :: u86 :: u87 :: u88 :: u89 :: u90 :: u91 :: u92 :: u93 :: u94 :: u95 :: u96 :: u97 :: u98 :: u99 :: u100 :: u101 :: u102 :: u103 :: u104 :: u105 :: u106 :: u107 :: u108 :: u109 :: u110 :: u111 :: u112 :: u113 :: u114 :: u115 :: u116 :: u117 :: u118 :: u119 :: u120 :: u121 :: u122 :: u123 :: u124 :: u125 :: u126 :: u127 :: u128 :: u129 :: u130 :: u131 :: u132 :: u133 :: u134 :: undef :: undef :: undef :: undef :: undef :: undef :: undef :: undef :: undef :: undef :: undef :: undef :: undef :: undef :: undef :: undef :: undef :: undef :: undef :: undef :: undef :: undef :: undef :: undef :: undef :: undef :: undef :: undef :: undef :: undef :: undef :: undef :: undef :: undef :: undef :: undef :: undef :: undef :: undef :: undef :: undef :: undef :: undef :: undef :: undef :: undef :: undef :: undef :: undef :: undef :: undef :: undef :: undef :: undef :: undef :: undef :: undef :: undef :: undef :: undef :: undef :: undef :: undef :: undef :: undef :: undef :: undef :: undef :: undef :: undef :: undef :: undef :: undef :: undef :: undef :: undef :: undef :: undef :: undef :: undef :: undef :: undef :: undef :: undef :: undef :: undef :: undef :: undef :: undef :: undef :: undef :: undef :: undef :: undef :: undef :: undef :: undef :: undef :: undef :: undef :: undef :: undef :: undef :: undef :: undef :: undef :: undef :: undef :: undef :: undef :: undef :: undef :: undef :: undef :: undef :: undef :: undef :: undef :: undef :: undef :: undef :: undef :: undef :: undef :: undef :: undef :: undef :: undef :: undef :: undef :: undef :: undef :: undef :: undef :: undef :: undef :: undef :: undef :: undef :: undef :: undef :: undef :: undef :: undef :: undef :: undef :: undef :: undef :: undef :: undef :: undef :: undef :: undef :: undef :: undef :: undef :: undef :: undef :: undef :: undef :: undef :: undef :: undef :: undef :: undef :: undef :: undef :: undef :: undef :: undef :: undef :: undef :: undef :: undef :: undef :: undef :: undef :: undef :: undef :: undef :: undef :: undef :: undef :: undef :: undef :: undef :: undef :: undef :: undef :: undef :: undef :: undef :: undef :: undef :: undef :: undef :: undef :: undef :: undef :: undef :: undef :: undef :: undef :: undef :: undef :: undef :: undef :: undef :: undef :: undef :: undef :: undef :: undef :: undef :: undef :: undef :: undef :: undef :: []).toArray, []⟩ W0 := by
  have HH := Lib.hid H60
  clear H60
  have htl := times_len size ts
  have hil := ixs_len ts
  have hkl := kinds_len zs 0
  have HRS := Lib.hid hrest
  have l1 : (timesB size ts ++ (ixsB ts ++ (kindsB zs 0 ++ (charsB zs ++ rest)))).length ≤ 4611686018427387904 := by
    have : ts.length * size ≤ 1000 * 8 := Nat.mul_le_mul ht (by omega)
    simp only [List.length_append]; omega
  have l2 : (ixsB ts ++ (kindsB zs 0 ++ (charsB zs ++ rest))).length ≤ 4611686018427387904 := by simp only [List.length_append] at l1 ⊢; omega
  have l3 : (kindsB zs 0 ++ (charsB zs ++ rest)).length ≤ 4611686018427387904 := by simp only [List.length_append] at l1 ⊢; omega
  have l4 : (charsB zs ++ rest).length ≤ 4611686018427387904 := by simp only [List.length_append] at l1 ⊢; omega
  have l5 : rest.length ≤ 4611686018427387904 := by omega
  have RD := fun (a b : Bs) (W : World) (h : LdS w gn (cnt6 ts zs) (a ++ b) false W) => read_S (w := w) (W := W) (gn := gn) (cs := cnt6 ts zs) a b _ rfl h
  have R1 := Lib.hid (fun n hn => RD _ _ _ h0 l1 n hn)
  have R2 := Lib.hid (fun W h n hn => RD (ixsB ts) (kindsB zs 0 ++ (charsB zs ++ rest)) W h l2 n hn)
  have R3 := Lib.hid (fun W h n hn => RD (kindsB zs 0) (charsB zs ++ rest) W h l3 n hn)
  have R4 := Lib.hid (fun W h n hn => RD (charsB zs) rest W h l4 n hn)
  have R0 := Lib.hid (fun W h n hn => RD [] rest W h l5 n hn)
  have HTL := Lib.hid htl
  have HIL := Lib.hid hil
  have HKL := Lib.hid hkl
  have hgn0 := h0.2.2.2
  obtain ⟨⟨c0, c1, c2⟩, c3, c4, c5⟩ := cnt6_cells h0.2.1
  clear hrest htl hil hkl l1 l2 l3 l4 RD h0
  rcases h64 with ⟨rfl, rfl⟩ | ⟨rfl, rfl⟩
  all_goals
    conv => arg 2; whnf
    go_wp2_with fail
    refine (R1.out _ (by rw [HTL.out]; omega)).mono ?_
    rintro e w4 ⟨A4, q4, rfl, hr4, hc4, HS4, hg4⟩
    clear c0 c1 c2 c3 c4 c5
    obtain ⟨⟨c0, c1, c2⟩, c3, c4, c5⟩ := cnt6_cells HS4.2.1
    have hgn4 := HS4.2.1.lt
    go_wp2_with fail
    refine (R2.out _ (HS4.alloc _) _ (by rw [HIL.out])).mono ?_
    rintro e w5 ⟨A5, q5, he, hr5, hc5, HS5, hg5⟩
    rw [HIL.out] at he hc5
    subst he
    have ho4 : w.heap.size < w4.heap.size := HS4.1.lt
    have HT5 := Lib.hid ((Dio.mk' HS4.2.2.1 hr4 hc4).grown hg5 (by omega) (Nat.le_refl _))
    have HR5 := Lib.hid hr5
    have HC5 := Lib.hid hc5
    have hgt5 := HT5.out.lt
    clear c0 c1 c2 c3 c4 c5 hr5 hc5 hg4 hg5 HS4 hr4 hc4
    obtain ⟨⟨c0, c1, c2⟩, c3, c4, c5⟩ := cnt6_cells HS5.2.1
    have hgn5 := HS5.2.1.lt
    go_wp2_with fail
    refine (R3.out _ HS5 _ (by rw [HKL.out]; omega)).mono ?_
    rintro e w6 ⟨A6, q6, rfl, hr6, hc6, HS6, hg6⟩
    have HT6 := dio_step HT5 hg6 ho4
    clear c0 c1 c2 c3 c4 c5 HS5 HT5 hg6
    obtain ⟨⟨c0, c1, c2⟩, c3, c4, c5⟩ := cnt6_cells HS6.2.1
    have hgn6 := HS6.2.1.lt
    have ho6 : w4.heap.size < w6.heap.size := HT6.out.lt
    go_wp2_with fail
    refine (R4.out _ (HS6.alloc _) _ rfl).mono ?_
    rintro e w7 ⟨A7, q7, rfl, hr7, hc7, HS7, hg7⟩
    have HT7 := Lib.hid ((HT6.out.alloc _).grown hg7 (by omega) (Nat.le_refl _))
    have HK7 := Lib.hid ((Dio.mk' HS6.2.2.1 hr6 hc6).grown hg7 (by omega) (Nat.le_refl _))
    have HR7 := Lib.hid hr7
    have HC7 := Lib.hid hc7
    have ho67 := HK7.out.lt
    clear c0 c1 c2 c3 c4 c5 HS6 HT6 hg7 hr7 hc7 hr6 hc6
    obtain ⟨⟨c0, c1, c2⟩, c3, c4, c5⟩ := cnt6_cells HS7.2.1
    have hgn7 := HS7.2.1.lt
    go_wp2_with fail
    refine (R0.out _ HS7 _ rfl).mono ?_
    rintro e w8 ⟨A8, q8, rfl, _, _, HS8, hg8⟩
    have HT8 := dio_step HT7 hg8 ho4
    have HK8 := dio_step HK7 hg8 (by omega)
    clear c0 c1 c2 c3 c4 c5 HS7 HT7 HK7 hg8
    obtain ⟨⟨c0, c1, c2⟩, c3, c4, c5⟩ := cnt6_cells HS8.2.1
    have hgn8 := HS8.2.1.lt
    go_wp2_with fail
    refine (R0.out _ HS8 _ rfl).mono ?_
    rintro e w9 ⟨A9, q9, rfl, _, _, HS9, hg9⟩
    have HT9 := dio_step HT8 hg9 ho4
    have HK9 := dio_step HK8 hg9 (by omega)
    clear c0 c1 c2 c3 c4 c5 HS8 HT8 HK8 hg9
    obtain ⟨⟨c0, c1, c2⟩, c3, c4, c5⟩ := cnt6_cells HS9.2.1
    have hgn9 := HS9.2.1.lt
    go_wp2_with fail
    refine (R0.out _ HS9 _ rfl).mono ?_
    rintro e w10 ⟨A10, q10, rfl, _, _, HS10, hg10⟩
    have HT10 := dio_step HT9 hg10 ho4
    have HK10 := dio_step HK9 hg10 (by omega)
    clear c0 c1 c2 c3 c4 c5 HS9 HT9 HK9 hg10
    obtain ⟨Ad, cd, d0, d1, df, _⟩ := HS10.1.cells
    have HRT := Lib.hid (rest_ret rest false _ _ _ HS10.1)
    go_wp2_with fail
    refine HRT.out.mono ?_
    rintro e w11 ⟨⟨v, rfl, A11, q11, rfl, hr11, hc11⟩, hd11, hg11⟩
    have HT11 := dio_step HT10 hg11 ho4
    have HK11 := dio_step HK10 hg11 (by omega)
    have HS11 := HS10.grown hg11 hd11
    clear d0 d1 df HS10 HT10 HK10 hg11 hd11 HRT
    obtain ⟨⟨c0, c1, c2⟩, c3, c4, c5⟩ := cnt6_cells HS11.2.1
    have hgn11 := HS11.2.1.lt
    have HF := Lib.hid (show St w gn w4.heap.size w6.heap.size (cnt6 ts zs) (timesB _ ts) (kindsB zs 0) w11 from ⟨⟨HS11.2.2.1, HS11.2.1⟩, ⟨HT11, HK11⟩, hgn0, hgn4, ho6⟩)
    clear HT11 HK11 HS11
    rcases HRS.out with ⟨rfl, rfl⟩ | hre
    · go_upto_region 59 with fail
      repeat (first | (refine HH.out gn w4.heap.size w6.heap.size A5 A7 A9 A10 q5 q7 q9 q10 _ _ _ _ _ _ _ _ _ _ _ _ _ _ _ _ _ _ _ _ _ _ _ _ _ _ _ _ _ _ _ _ _ _ _ _ _ _ _ _ _ _ _ _ _ _ _ _ _ _ _ _ _ _ _ _ _ _ _ _ _ _ _ _ _ _ _ _ _ _ _ _ _ _ _ _ _ _ _ _ _ _ _ _ _ _ _ _ _ _ _ _ _ _ _ _ _ _ _ _ _ _ _ _ _ _ _ _ _ _ _ _ _ _ _ _ _ _ _ _ _ _ _ _ _ _ _ _ _ _ _ _ _ _ _ _ _ _ _ _ _ _ _ _ _ _ _ _ _ _ _ _ _ _ _ _ _ _ _ _ _ _ _ _ _ _ _ _ _ _ _ _ ?_ HR5.out HC5.out HR7.out HC7.out) | go_step)
      exact HF.out
    · have hl2 : rest.length = ext.length + 2 := by rw [hre]; simp
      rw [hl2] at hc11 ⊢
      by_cases hx : ext = []
      · subst hx
        clear hl2
        go_upto_region 59 with fail
        repeat (first | (refine HH.out gn w4.heap.size w6.heap.size A5 A7 A9 A10 q5 q7 q9 q10 _ _ _ _ _ _ _ _ _ _ _ _ _ _ _ _ _ _ _ _ _ _ _ _ _ _ _ _ _ _ _ _ _ _ _ _ _ _ _ _ _ _ _ _ _ _ _ _ _ _ _ _ _ _ _ _ _ _ _ _ _ _ _ _ _ _ _ _ _ _ _ _ _ _ _ _ _ _ _ _ _ _ _ _ _ _ _ _ _ _ _ _ _ _ _ _ _ _ _ _ _ _ _ _ _ _ _ _ _ _ _ _ _ _ _ _ _ _ _ _ _ _ _ _ _ _ _ _ _ _ _ _ _ _ _ _ _ _ _ _ _ _ _ _ _ _ _ _ _ _ _ _ _ _ _ _ _ _ _ _ _ _ _ _ _ _ _ _ _ _ _ _ ?_ HR5.out HC5.out HR7.out HC7.out) | go_step)
        exact HF.out
      · have hx0 : 0 < ext.length := List.length_pos_iff.2 hx
        have hb0 : rest[0]? = some 10 := by rw [hre]; rfl
        have hb1 : rest[ext.length + 1]? = some 10 := by rw [hre, List.getElem?_append_right (by simp)]; simp
        obtain ⟨g, o, rfl, _, hcs⟩ := hr11.at hb0
        have e0 := hcs 0 _ hb0
        have e1 := hcs _ _ hb1
        rw [Nat.add_zero] at e0
        have hcv : ∀ c, (convert 42 9 (.slice (some ⟨g, o + 1, none⟩) ext.length c)).run Tryd.prog w11 = .ok (.string (S ext)) w11 := fun c => conv_rb (by
          rw [hre] at hr11
          have h := (Rb.right hr11).left
          have e : (some (⟨g, o, none⟩ : Addr)).map (·.add ([10] : List UInt8).length) = some ⟨g, o + 1, none⟩ := congrArg some (addr_add_plain g o 1)
          rw [e] at h
          exact h) c
        have hrl2 : ext.length ≤ 4611686018427300000 := by omega
        have HRE := Lib.hid hre
        clear hcs hb0 hb1 hl2 hr11 hre hx
        go_upto_region 59 with fail
        repeat (first | (refine HH.out gn w4.heap.size w6.heap.size A5 A7 A9 A10 q5 q7 q9 q10 _ _ _ _ _ _ _ _ _ _ _ _ _ _ _ _ _ _ _ _ _ _ _ _ _ _ _ _ _ _ _ _ _ _ _ _ _ _ _ _ _ _ _ _ _ _ _ _ _ _ _ _ _ _ _ _ _ _ _ _ _ _ _ _ _ _ _ _ _ _ _ _ _ _ _ _ _ _ _ _ _ _ _ _ _ _ _ _ _ _ _ _ _ _ _ _ _ _ _ _ _ _ _ _ _ _ _ _ _ _ _ _ _ _ _ _ _ _ _ _ _ _ _ _ _ _ _ _ _ _ _ _ _ _ _ _ _ _ _ _ _ _ _ _ _ _ _ _ _ _ _ _ _ _ _ _ _ _ _ _ _ _ _ _ _ _ _ _ _ _ _ _ ?_ HR5.out HC5.out HR7.out HC7.out) | go_step)
        exact HF.out
end Go.Proofs.YtgmlclhdibajiaaDoor
