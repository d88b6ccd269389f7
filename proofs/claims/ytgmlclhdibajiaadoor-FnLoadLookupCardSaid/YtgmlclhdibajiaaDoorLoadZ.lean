/- The loader of zone files: the zones. -/
import Derived.Test.YtgmlclhdibajiaaDoorLoadT
import Derived.Deep.DeepCutAuto
import Derived.Deep.DeepFit
namespace Go.Proofs.YtgmlclhdibajiaaDoor
open Go.RowKit

set_option maxRecDepth 1000000 in
set_option maxHeartbeats 16000000 in
theorem zones60 (POST : Ending → World → Prop) (w : World) (nm ext : Bs) (zs : List Zo) (ts : List Tr) (is64 : Bool) (tl : Bs) (gn gt gk : Nat) (A5 A7 A24 A25 : Option Addr) (q5 q7 q24 q25 : Nat)
    (hz0 : 1 ≤ zs.length) (hz : zs.length ≤ 200) (ht : ts.length ≤ 1000) (hn : (charsB zs).length ≤ 255) (hnz : ∀ z ∈ zs, ∀ b ∈ z.nm, b ≠ 0) (hzo : ∀ z ∈ zs, -2147483647 ≤ z.off ∧ z.off ≤ 2147483647)
    (H85 : ∀ (gz gx : Nat) (u1 u2 u3 u4 u5 u6 u7 u8 u9 u10 u11 u12 u13 u15 u16 u17 u18 u19 u22 u23 u27 u28 u30 u31 u32 u33 u42 u43 u44 u45 u46 u47 u48 u49 u50 u51 u52 u53 u54 u55 u56 u57 u58 u59 u60 u61 u62 u63 u64 u65 u66 u67 u68 u69 u70 u71 u72 u73 u74 u75 u76 u77 u78 u79 u80 u81 u82 u83 u84 u85 u86 u87 u88 u89 u90 u91 u92 u93 u94 u95 u96 u97 u98 u99 u100 u101 u102 u103 u104 u105 u106 u107 u108 u109 u110 u111 u112 u113 u114 u115 u116 u117 u118 u119 u120 u121 u122 u123 u124 u125 u126 u127 u128 u129 u130 u131 u132 u133 u134 u135 u136 u137 u138 u139 u140 u141 u142 u143 u144 u145 u146 u147 u148 u149 u150 u151 u152 u153 u154 u155 u156 u157 u158 u159 u160 u161 u162 u163 u164 u165 u166 u167 u168 u169 u170 u171 u172 u173 u174 u175 u176 u177 u178 u179 u180 u181 u182 u183 u184 u185 u186 u187 u188 u189 u190 u191 u192 u193 u194 u195 u196 u197 u198 u199 u200 u201 u202 u203 u204 u205 u206 u207 u208 u209 u210 u211 u212 u213 u214 u215 u216 u217 u218 u219 u220 u221 u222 u223 u224 u225 u226 u227 u228 u229 u230 u231 u232 u233 u234 u235 u236 u237 u238 u239 u240 u241 u242 u243 u244 u245 u246 u247 u248 u249 u250 u251 u252 u253 u254 u255 u256 u257 u258 u259 u260 u261 u262 u263 : Value) (W : World), St5 w gt gz gx zs tl (List.replicate ts.length noTr) W → Code.wp Tryd.prog T85 (bodyPost Tryd.prog Tryd.f20 POST) ⟨(Value.string (S nm) :: u1 :: u2 :: u3 :: u4 :: u5 :: u6 :: u7 :: u8 :: u9 :: u10 :: u11 :: u12 :: u13 :: Value.bool is64 :: u15 :: u16 :: u17 :: u18 :: u19 :: Value.pointer (some ⟨gt, 0, none⟩) :: Value.slice A5 ts.length q5 :: u22 :: u23 :: Value.slice A24 0 q24 :: Value.slice A25 0 q25 :: Value.string (S ext) :: u27 :: u28 :: Value.slice (some ⟨gz, 0, none⟩) zs.length zs.length :: u30 :: u31 :: u32 :: u33 :: Value.slice (some ⟨gx, 0, none⟩) ts.length ts.length :: undef :: undef :: undef :: undef :: undef :: undef :: undef :: u42 :: u43 :: u44 :: u45 :: u46 :: u47 :: u48 :: u49 :: u50 :: u51 :: u52 :: u53 :: u54 :: u55 :: u56 :: u57 :: u58 :: u59 :: u60 :: u61 :: u62 :: u63 :: u64 :: u65 :: u66 :: u67 :: u68 :: u69 :: u70 :: u71 :: u72 :: u73 :: u74 :: u75 :: u76 :: u77 :: u78 :: u79 :: u80 :: u81 :: u82 :: u83 :: u84 :: u85 :: u86 :: u87 :: u88 :: u89 :: u90 :: u91 :: u92 :: u93 :: u94 :: u95 :: u96 :: u97 :: u98 :: u99 :: u100 :: u101 :: u102 :: u103 :: u104 :: u105 :: u106 :: u107 :: u108 :: u109 :: u110 :: u111 :: u112 :: u113 :: u114 :: u115 :: u116 :: u117 :: u118 :: u119 :: u120 :: u121 :: u122 :: u123 :: u124 :: u125 :: u126 :: u127 :: u128 :: u129 :: u130 :: u131 :: u132 :: u133 :: u134 :: u135 :: u136 :: u137 :: u138 :: u139 :: u140 :: u141 :: u142 :: u143 :: u144 :: u145 :: u146 :: u147 :: u148 :: u149 :: u150 :: u151 :: u152 :: u153 :: u154 :: u155 :: u156 :: u157 :: u158 :: u159 :: u160 :: u161 :: u162 :: u163 :: u164 :: u165 :: u166 :: u167 :: u168 :: u169 :: u170 :: u171 :: u172 :: u173 :: u174 :: u175 :: u176 :: u177 :: u178 :: u179 :: u180 :: u181 :: u182 :: u183 :: u184 :: u185 :: u186 :: u187 :: u188 :: u189 :: u190 :: u191 :: u192 :: u193 :: u194 :: u195 :: u196 :: u197 :: u198 :: u199 :: u200 :: u201 :: u202 :: u203 :: u204 :: u205 :: u206 :: u207 :: u208 :: u209 :: u210 :: u211 :: u212 :: u213 :: u214 :: u215 :: u216 :: u217 :: u218 :: u219 :: u220 :: u221 :: u222 :: u223 :: u224 :: u225 :: u226 :: u227 :: u228 :: u229 :: u230 :: u231 :: u232 :: u233 :: u234 :: u235 :: u236 :: u237 :: u238 :: u239 :: u240 :: u241 :: u242 :: u243 :: u244 :: u245 :: u246 :: u247 :: u248 :: u249 :: u250 :: u251 :: u252 :: u253 :: u254 :: u255 :: u256 :: u257 :: u258 :: u259 :: u260 :: u261 :: u262 :: u263 :: undef :: undef :: undef :: undef :: undef :: undef :: undef :: undef :: undef :: undef :: undef :: undef :: undef :: undef :: undef :: undef :: undef :: undef :: undef :: undef :: undef :: undef :: undef :: undef :: undef :: undef :: undef :: undef :: undef :: undef :: undef :: undef :: undef :: undef :: undef :: undef :: undef :: undef :: undef :: undef :: undef :: undef :: undef :: undef :: undef :: undef :: undef :: undef :: undef :: undef :: undef :: undef :: undef :: undef :: undef :: undef :: undef :: undef :: undef :: undef :: undef :: undef :: undef :: undef :: undef :: undef :: undef :: undef :: undef :: undef :: undef :: undef :: undef :: undef :: undef :: undef :: undef :: undef :: undef :: undef :: undef :: undef :: undef :: undef :: undef :: undef :: undef :: undef :: undef :: []).toArray, []⟩ W)
    (u1 u2 u3 u4 u5 u6 u7 u8 u9 u11 u12 u13 u15 u16 u17 u18 u19 u27 u42 u43 u44 u45 u46 u47 u48 u49 u50 u51 u52 u53 u54 u55 u56 u57 u58 u59 u60 u61 u62 u63 u64 u65 u66 u67 u68 u69 u70 u71 u72 u73 u74 u75 u76 u77 u78 u79 u80 u81 u82 u83 u84 u85 u86 u87 u88 u89 u90 u91 u92 u93 u94 u95 u96 u97 u98 u99 u100 u101 u102 u103 u104 u105 u106 u107 u108 u109 u110 u111 u112 u113 u114 u115 u116 u117 u118 u119 u120 u121 u122 u123 u124 u125 u126 u127 u128 u129 u130 u131 u132 u133 u134 u135 u136 u137 u138 u139 u140 u141 u142 u143 u144 u145 u146 u147 u148 u149 u150 u151 u152 u153 u154 u155 u156 u157 u158 u159 u160 u161 u162 u163 u164 u165 u166 u167 u168 u169 u170 u171 u172 u173 u174 u175 u176 u177 u178 u179 u180 u181 u182 u183 u184 u185 u186 u187 u188 u189 u190 u191 u192 u193 u194 : Value) (W0 : World) (h0 : St w gn gt gk (cnt6 ts zs) tl (kindsB zs 0) W0) (hA7 : Rb w w.heap.size A7 (charsB zs)) (hq7 : (charsB zs).length ≤ q7) :
    Code.wp Tryd.prog T60 (bodyPost Tryd.prog Tryd.f20 POST) ⟨(Value.string (S nm) :: u1 :: u2 :: u3 :: u4 :: u5 :: u6 :: u7 :: u8 :: u9 :: Value.pointer (some ⟨gn, 0, none⟩) :: u11 :: u12 :: u13 :: Value.bool is64 :: u15 :: u16 :: u17 :: u18 :: u19 :: Value.pointer (some ⟨gt, 0, none⟩) :: Value.slice A5 ts.length q5 :: Value.pointer (some ⟨gk, 0, none⟩) :: Value.slice A7 (charsB zs).length q7 :: Value.slice A24 0 q24 :: Value.slice A25 0 q25 :: Value.string (S ext) :: u27 :: Value.int .i64 (zs.length : Int) :: undef :: undef :: undef :: undef :: undef :: undef :: undef :: undef :: undef :: undef :: undef :: undef :: undef :: u42 :: u43 :: u44 :: u45 :: u46 :: u47 :: u48 :: u49 :: u50 :: u51 :: u52 :: u53 :: u54 :: u55 :: u56 :: u57 :: u58 :: u59 :: u60 :: u61 :: u62 :: u63 :: u64 :: u65 :: u66 :: u67 :: u68 :: u69 :: u70 :: u71 :: u72 :: u73 :: u74 :: u75 :: u76 :: u77 :: u78 :: u79 :: u80 :: u81 :: u82 :: u83 :: u84 :: u85 :: u86 :: u87 :: u88 :: u89 :: u90 :: u91 :: u92 :: u93 :: u94 :: u95 :: u96 :: u97 :: u98 :: u99 :: u100 :: u101 :: u102 :: u103 :: u104 :: u105 :: u106 :: u107 :: u108 :: u109 :: u110 :: u111 :: u112 :: u113 :: u114 :: u115 :: u116 :: u117 :: u118 :: u119 :: u120 :: u121 :: u122 :: u123 :: u124 :: u125 :: u126 :: u127 :: u128 :: u129 :: u130 :: u131 :: u132 :: u133 :: u134 :: u135 :: u136 :: u137 :: u138 :: u139 :: u140 :: u141 :: u142 :: u143 :: u144 :: u145 :: u146 :: u147 :: u148 :: u149 :: u150 :: u151 :: u152 :: u153 :: u154 :: u155 :: u156 :: u157 :: u158 :: u159 :: u160 :: u161 :: u162 :: u163 :: u164 :: u165 :: u166 :: u167 :: u168 :: u169 :: u170 :: u171 :: u172 :: u173 :: u174 :: u175 :: u176 :: u177 :: u178 :: u179 :: u180 :: u181 :: u182 :: u183 :: u184 :: u185 :: u186 :: u187 :: u188 :: u189 :: u190 :: u191 :: u192 :: u193 :: u194 :: undef :: undef :: undef :: undef :: undef :: undef :: undef :: undef :: undef :: undef :: undef :: undef :: undef :: undef :: undef :: undef :: undef :: undef :: undef :: undef :: undef :: undef :: undef :: undef :: undef :: undef :: undef :: undef :: undef :: undef :: undef :: undef :: undef :: undef :: undef :: undef :: undef :: undef :: undef :: undef :: undef :: undef :: undef :: undef :: undef :: undef :: undef :: undef :: undef :: undef :: undef :: undef :: undef :: undef :: undef :: undef :: undef :: undef :: undef :: undef :: undef :: undef :: undef :: undef :: undef :: undef :: undef :: undef :: undef :: undef :: undef :: undef :: undef :: undef :: undef :: undef :: undef :: undef :: undef :: undef :: undef :: undef :: undef :: undef :: undef :: undef :: undef :: undef :: undef :: undef :: undef :: undef :: undef :: undef :: undef :: undef :: undef :: undef :: undef :: undef :: undef :: undef :: undef :: undef :: undef :: undef :: undef :: undef :: undef :: undef :: undef :: undef :: undef :: undef :: undef :: undef :: undef :: undef :: undef :: undef :: undef :: undef :: undef :: undef :: undef :: undef :: undef :: undef :: undef :: undef :: undef :: undef :: undef :: undef :: undef :: undef :: undef :: undef :: undef :: undef :: undef :: undef :: undef :: undef :: undef :: undef :: undef :: undef :: undef :: undef :: undef :: undef :: undef :: undef :: undef :: undef :: undef :: undef :: []).toArray, []⟩ W0 := by
  have HH := Lib.hid H85
  clear H85
  have HNZ := Lib.hid hnz
  have HZO := Lib.hid hzo
  have HA7 := Lib.hid hA7
  clear hnz hzo hA7
  obtain ⟨⟨hb0, HN0⟩, ⟨HT0, HK0⟩, o0, o1, o2⟩ := h0
  unfold cnt6 at HN0
  have hz1 : ((zs.length : Int) == 0) = false := by rw [beq_eq_false_iff_ne]; omega
  have hmk := make_zones W0 zs.length hz
  have hsz0 := hb0.size
  have o3 : gk < W0.heap.size := HK0.out.lt
  have HBZ : Blk (W0.alloc (.cells (zosC (List.replicate zs.length noZo)).toArray 68)) W0.heap.size 68 (zosC (List.replicate zs.length noZo)).toArray := Blk.new W0 _ _ _ rfl
  have HTa := Lib.hid (HT0.out.alloc (.cells (zosC (List.replicate zs.length noZo)).toArray 68))
  have HKa := Lib.hid (HK0.out.alloc (.cells (zosC (List.replicate zs.length noZo)).toArray 68))
  have HNa := HN0.alloc (.cells (zosC (List.replicate zs.length noZo)).toArray 68)
  have hba := hb0.alloc hsz0 (.cells (zosC (List.replicate zs.length noZo)).toArray 68)
  clear HT0 HK0 HN0 hb0
  conv => arg 2; whnf
  go_wp2_with fail
  clear hmk
  generalize hgz : W0.heap.size = gz at *
  clear hgz
  go_loopw [202] (fun i W => ∃ k : Nat, k ≤ zs.length ∧ i = .int .i64 k ∧ Blk W gn 61 #[.int .i64 0, .int .i64 0, .int .i64 0, .int .i64 (ts.length : Int), .int .i64 (zs.length : Int), .int .i64 ((charsB zs).length : Int)] ∧ Below w.heap.size w W ∧ Hid (Dio W gt w.heap.size tl false) ∧ Hid (Dio W gk w.heap.size (kindsB (zs.drop k) (charsB (zs.take k)).length) false) ∧ Blk W gz 68 (zosC (zs.take k ++ List.replicate (zs.length - k) noZo)).toArray) (fun i _ => zs.length - (intOf i).toNat)
  case atStart => exact ⟨0, Nat.zero_le _, rfl, HNa, hba, HTa, HKa, HBZ⟩
  case round =>
    clear HBZ HTa HKa HNa hba
    obtain ⟨k, hk, rfl, HN, hb, HT, HK, HZ⟩ := hrel
    have hszw := hb.size
    have hgn := HN.lt
    have hgz := HZ.lt
    by_cases hlt : k < zs.length
    · obtain ⟨z, hzk⟩ : ∃ z, zs[k]? = some z := ⟨_, List.getElem?_eq_getElem hlt⟩
      have hzm := List.mem_of_getElem? hzk
      have hof := HZO.out z hzm
      obtain ⟨off, hoff⟩ : ∃ off, (charsB (zs.take k)).length = off := ⟨_, rfl⟩
      have hch := chars_snoc zs k z hzk
      have hcl := chars_take zs (k + 1)
      rw [hch] at hcl
      simp only [List.length_append, List.length_singleton, hoff] at hcl
      rw [hoff, kinds_drop zs k z hzk off] at HK
      have hcs0 : charsB zs = charsB (zs.take k) ++ (z.nm ++ 0 :: charsB (zs.drop (k + 1))) := chars_cut zs k z hzk
      have hlenk : (kindsB (zs.drop (k + 1)) (off + (z.nm.length + 1))).length ≤ 1200 := by rw [kinds_len, List.length_drop]; omega
      have HOF := Lib.hid (show (charsB (zs.take (k + 1))).length = off + (z.nm.length + 1) by rw [hch]; simp only [List.length_append, List.length_singleton, hoff])
      have hll : (z.nm ++ 0 :: charsB (zs.drop (k + 1))).length = (charsB zs).length - off := by
        have := congrArg List.length hcs0
        simp only [List.length_append, List.length_cons, hoff] at this ⊢
        omega
      have HCH := off_at A7 off (show Rb w w.heap.size A7 (charsB (zs.take k) ++ (z.nm ++ 0 :: charsB (zs.drop (k + 1)))) by rw [← hcs0]; exact HA7.out) hoff
      have HCH := Lib.hid HCH
      have HLL := Lib.hid hll
      have HNM := Lib.hid (HNZ.out z hzm)
      have HPT := Lib.hid (part_at zs k noZo hlt)
      have HPS := Lib.hid (part_set zs k noZo z hzk)
      have HPL := Lib.hid (show k < (zs.take k ++ List.replicate (zs.length - k) noZo).length from (List.getElem?_eq_some_iff.1 (part_at zs k noZo hlt)).1)
      have HLK := Lib.hid hlenk
      have hC : (charsB zs).length ≤ 255 := hn
      generalize charsB zs = chs at *
      generalize hkr : kindsB (zs.drop (k + 1)) (off + (z.nm.length + 1)) = kr at *
      have HKR := Lib.hid hkr
      clear hkr
      generalize charsB (zs.drop (k + 1)) = cr at *
      generalize zs.take k ++ List.replicate (zs.length - k) noZo = row at *
      clear hch hcs0 hll hlenk hzk hzm hoff
      have HC1 := Lib.hid (big4_by z.off _ false _ _ _ HK.out (by have := HLK.out; simp only [List.length_cons]; omega))
      have hi0 : (0 : Int) ≤ z.off % 4294967296 := by omega
      have hi1 : z.off % 4294967296 < 4294967296 := by omega
      have hi32 : IntKind.i32.wrap (z.off % 4294967296) = z.off := i32_back z.off (by omega) hof.2
      generalize z.off % 4294967296 = m at *
      go_wp2_with fail
      refine HC1.out.mono ?_
      rintro e w12 ⟨rfl, hd12, hg12⟩
      have HZ12 := HZ.grown hg12 (by intro e; injection e with e; omega)
      have hgz12 := HZ12.lt
      have f1 := HZ12.frozen (k * 3 + 1)
      have f0 := HZ12.fld zoC 3 (fun _ => rfl) k 1 (by decide) noZo HPT.out (.int .i64 0) rfl
      have HZ13 := Lib.hid (HZ12.putF zoC 3 (fun _ => rfl) k 1 (by decide) noZo ⟨[], z.off, false⟩ HPT.out (.int .i64 z.off) rfl)
      have hn6 : gk ≠ gz := by omega
      have hw11 : w.heap.size ≤ gz := by omega
      have HD13 := Lib.hid (hd12.other ⟨gz, k * 3 + 1, none⟩ hn6 hw11 (.int .i64 z.off))
      have HT13 := Lib.hid ((HT.out.grown hg12 (by omega) (by omega)).other ⟨gz, k * 3 + 1, none⟩ (by show _ ≠ gz; omega) hw11 (.int .i64 z.off))
      have HN13 := Lib.hid ((HN.grown hg12 (by intro e; injection e with e; omega)).far (p := ⟨gz, k * 3 + 1, none⟩) (by show _ ≠ gz; omega) (.int .i64 z.off))
      have HB13 := Lib.hid ((grown_below' hb hg12 (by omega) hszw).setCell (p := ⟨gz, k * 3 + 1, none⟩) hw11 (.int .i64 z.off))
      have hdn := dst_back z.dst
      generalize (if z.dst then 1 else 0 : UInt8) = d at *
      have HC2 := Lib.hid (byte_ok d _ false _ _ _ HD13.out (by have := HLK.out; simp only [List.length_cons]; omega))
      clear hd12 hg12 HC1 HZ12 HT HK HN hb HZ hszw hgz
      go_wp2_with fail
      refine HC2.out.mono ?_
      rintro e w14 ⟨rfl, hd14, hg14⟩
      have HZ14 := HZ13.out.grown hg14 (by intro e; injection e with e; omega)
      have hpk2 : (row.set k ⟨[], z.off, false⟩)[k]? = some ⟨[], z.off, false⟩ := by
        rw [List.getElem?_set_self]
        exact HPL.out
      have g0 := HZ14.fld zoC 3 (fun _ => rfl) k 2 (by decide) _ hpk2 (.bool false) rfl
      have g1 := HZ14.frozen (k * 3 + 2)
      have hgz14 := HZ14.lt
      have HZ15 := Lib.hid (HZ14.putF zoC 3 (fun _ => rfl) k 2 (by decide) _ ⟨[], z.off, z.dst⟩ hpk2 (.bool z.dst) rfl)
      have HD15 := Lib.hid (hd14.other ⟨gz, k * 3 + 2, none⟩ hn6 hw11 (.bool z.dst))
      have HT15 := Lib.hid ((HT13.out.grown hg14 (by omega) (by omega)).other ⟨gz, k * 3 + 2, none⟩ (by show _ ≠ gz; omega) hw11 (.bool z.dst))
      have HN15 := Lib.hid ((HN13.out.grown hg14 (by intro e; injection e with e; omega)).far (p := ⟨gz, k * 3 + 2, none⟩) (by show _ ≠ gz; omega) (.bool z.dst))
      have HB15 := Lib.hid ((grown_below' HB13.out hg14 (by omega) HB13.out.size).setCell (p := ⟨gz, k * 3 + 2, none⟩) hw11 (.bool z.dst))
      have HC3 := byte_ok (UInt8.ofNat off) _ false _ _ _ HD15.out (by have := HLK.out; simp only [List.length_cons]; omega)
      rw [off_back off (by omega)] at HC3
      have HC3 := Lib.hid HC3
      clear hd14 hg14 HC2 HZ14 f0 f1 HZ13 HD13 HT13 HN13 HB13 hpk2
      have hlo : decide (chs.length ≤ off) = false := by rw [decide_eq_false_iff_not]; omega
      go_wp2_with fail
      refine HC3.out.mono ?_
      rintro e w16 ⟨rfl, hd16, hg16⟩
      have HZ16 := HZ15.out.grown hg16 (by intro e; injection e with e; omega)
      have HB16 := grown_below' HB15.out hg16 (by omega) HB15.out.size
      have hpk3 : ((row.set k ⟨[], z.off, false⟩).set k ⟨[], z.off, z.dst⟩)[k]? = some ⟨[], z.off, z.dst⟩ := by
        rw [List.getElem?_set_self]
        rw [List.length_set]
        exact HPL.out
      have e0' := HZ16.fld zoC 3 (fun _ => rfl) k 0 (by decide) _ hpk3 (.string (S [])) rfl
      have e1' := HZ16.frozen (k * 3)
      rw [Nat.add_zero] at e0'
      have hgz16 := HZ16.lt
      have HZ17 := HZ16.putF zoC 3 (fun _ => rfl) k 0 (by decide) _ z hpk3 (.string (S z.nm)) rfl
      rw [List.set_set, List.set_set, HPS.out, Nat.add_zero] at HZ17
      have HD17 := Lib.hid (hd16.other ⟨gz, k * 3, none⟩ hn6 hw11 (.string (S z.nm)))
      have HT17 := Lib.hid ((HT15.out.grown hg16 (by omega) (by omega)).other ⟨gz, k * 3, none⟩ (by show _ ≠ gz; omega) hw11 (.string (S z.nm)))
      have HN17 := Lib.hid ((HN15.out.grown hg16 (by intro e; injection e with e; omega)).far (p := ⟨gz, k * 3, none⟩) (by show _ ≠ gz; omega) (.string (S z.nm)))
      have HB17 := Lib.hid (HB16.setCell (p := ⟨gz, k * 3, none⟩) hw11 (.string (S z.nm)))
      have HZ18 := Lib.hid HZ17
      have HCS := Lib.hid (byteString_ret (z.nm ++ 0 :: cr) z.nm cr rfl HNM.out (by rw [HLL.out]; omega) w.heap.size w16 (.slice (A7.map fun x => x.add off) (chs.length - off) (q7 - off))
        ⟨_, _, by rw [HLL.out], rb_on HB16 HCH.out, by rw [HLL.out]; omega⟩)
      clear hd16 hg16 HC3 HZ16 HZ17 HB16 HZ15 HD15 HT15 HN15 HB15 hpk3 g0 g1
      go_wp2_with fail
      refine HCS.out.mono ?_
      rintro e w' ⟨rfl, rfl⟩
      go_wp2_with fail
      go_roundw
      case rel => exact ⟨k + 1, by omega, by go_num, HN17.out, HB17.out, HT17, by rw [HOF.out, HKR.out]; exact HD17, HZ18.out⟩
      case measure => simp [intOf]; omega
    · obtain rfl : k = zs.length := by omega
      rw [List.take_length, Nat.sub_self, List.replicate_zero, List.append_nil] at HZ
      have HZ := Lib.hid HZ
      have hmk := make_trans wr ts.length ht
      have c3 := HN.cell 3
      simp at c3
      go_upto_region 84 with fail
      repeat (first | (refine HH.out gz wr.heap.size _ _ _ _ _ _ _ _ _ _ _ _ _ _ _ _ _ _ _ _ _ _ _ _ _ _ _ _ _ _ _ _ _ _ _ _ _ _ _ _ _ _ _ _ _ _ _ _ _ _ _ _ _ _ _ _ _ _ _ _ _ _ _ _ _ _ _ _ _ _ _ _ _ _ _ _ _ _ _ _ _ _ _ _ _ _ _ _ _ _ _ _ _ _ _ _ _ _ _ _ _ _ _ _ _ _ _ _ _ _ _ _ _ _ _ _ _ _ _ _ _ _ _ _ _ _ _ _ _ _ _ _ _ _ _ _ _ _ _ _ _ _ _ _ _ _ _ _ _ _ _ _ _ _ _ _ _ _ _ _ _ _ _ _ _ _ _ _ _ _ _ _ _ _ _ _ _ _ _ _ _ _ _ _ _ _ _ _ _ _ _ _ _ _ _ _ _ _ _ _ _ _ _ _ _ _ _ _ _ _ _ _ _ _ _ _ _ _ _ _ _ _ _ _ _ _ _ _ _ _ _ _ _ _ _ _ _ _ _ _ _ _ _ _ _ _ _ _ _ ?_) | go_step)
      exact ⟨⟨hb.alloc hszw _, Lib.hid (HT.out.alloc _)⟩, ⟨HZ.out.alloc _, Blk.new wr _ _ _ rfl⟩, by omega, by omega, hgz⟩
end Go.Proofs.YtgmlclhdibajiaaDoor
