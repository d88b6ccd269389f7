/- The loader of zone files: the transitions. -/
import Derived.Test.YtgmlclhdibajiaaDoorLoadT
import Derived.Deep.DeepCutAuto
import Derived.Deep.DeepFit
namespace Go.Proofs.YtgmlclhdibajiaaDoor
open Go.RowKit

set_option maxRecDepth 1000000 in
set_option maxHeartbeats 16000000 in
theorem trans85_4 (POST : Ending → World → Prop) (w : World) (nm ext : Bs) (zs : List Zo) (ts : List Tr) (gt gz gx : Nat) (A5 A24 A25 : Option Addr) (q5 q24 q25 : Nat) (V : Value) (m : Nat) (hm : m ≤ ts.length)
    (ht : ts.length ≤ 1000) (hix : ∀ (j : Nat) (t : Tr), j < m → ts[j]? = some t → t.ix < zs.length) (hbad : ∀ t, ts[m]? = some t → zs.length ≤ t.ix) (hby : ∀ t ∈ ts, t.ix < 256) (hta : ∀ t ∈ ts, -2147483648 ≤ t.at_ ∧ t.at_ ≤ 2147483647)
    (hV : w.cell? ⟨0, 0, none⟩ = some V) (hw0 : 0 < w.heap.size)
    (HOK : m = ts.length → ∀ (g : Nat) (a : Ad) (W : World), Loc W g ⟨nm, zs, if ts = [] then [⟨-9223372036854775808, 0⟩] else ts, ext⟩ a → Below w.heap.size w W → POST (.returned (.tuple #[.pointer (some ⟨g, 0, none⟩), .nilIface])) W)
    (HBAD : m < ts.length → ∀ (W : World), Below w.heap.size w W → POST (.returned (.tuple #[.pointer none, V])) W)
    (u1 u2 u3 u4 u5 u6 u7 u8 u9 u10 u11 u12 u13 u15 u16 u17 u18 u19 u22 u23 u27 u28 u30 u31 u32 u33 u42 u43 u44 u45 u46 u47 u48 u49 u50 u51 u52 u53 u54 u55 u56 u57 u58 u59 u60 u61 u62 u63 u64 u65 u66 u67 u68 u69 u70 u71 u72 u73 u74 u75 u76 u77 u78 u79 u80 u81 u82 u83 u84 u85 u86 u87 u88 u89 u90 u91 u92 u93 u94 u95 u96 u97 u98 u99 u100 u101 u102 u103 u104 u105 u106 u107 u108 u109 u110 u111 u112 u113 u114 u115 u116 u117 u118 u119 u120 u121 u122 u123 u124 u125 u126 u127 u128 u129 u130 u131 u132 u133 u134 u135 u136 u137 u138 u139 u140 u141 u142 u143 u144 u145 u146 u147 u148 u149 u150 u151 u152 u153 u154 u155 u156 u157 u158 u159 u160 u161 u162 u163 u164 u165 u166 u167 u168 u169 u170 u171 u172 u173 u174 u175 u176 u177 u178 u179 u180 u181 u182 u183 u184 u185 u186 u187 u188 u189 u190 u191 u192 u193 u194 u195 u196 u197 u198 u199 u200 u201 u202 u203 u204 u205 u206 u207 u208 u209 u210 u211 u212 u213 u214 u215 u216 u217 u218 u219 u220 u221 u222 u223 u224 u225 u226 u227 u228 u229 u230 u231 u232 u233 u234 u235 u236 u237 u238 u239 u240 u241 u242 u243 u244 u245 u246 u247 u248 u249 u250 u251 u252 u253 u254 u255 u256 u257 u258 u259 u260 u261 u262 u263 : Value) (W0 : World) (h0 : St5 w gt gz gx zs (timesB 4 ts) (List.replicate ts.length noTr) W0) (hA5 : Rb w w.heap.size A5 (ixsB ts)) (hq5 : ts.length ≤ q5) :
    Code.wp Tryd.prog T85 (bodyPost Tryd.prog Tryd.f20 POST) ⟨(Value.string (S nm) :: u1 :: u2 :: u3 :: u4 :: u5 :: u6 :: u7 :: u8 :: u9 :: u10 :: u11 :: u12 :: u13 :: Value.bool false :: u15 :: u16 :: u17 :: u18 :: u19 :: Value.pointer (some ⟨gt, 0, none⟩) :: Value.slice A5 ts.length q5 :: u22 :: u23 :: Value.slice A24 0 q24 :: Value.slice A25 0 q25 :: Value.string (S ext) :: u27 :: u28 :: Value.slice (some ⟨gz, 0, none⟩) zs.length zs.length :: u30 :: u31 :: u32 :: u33 :: Value.slice (some ⟨gx, 0, none⟩) ts.length ts.length :: undef :: undef :: undef :: undef :: undef :: undef :: undef :: u42 :: u43 :: u44 :: u45 :: u46 :: u47 :: u48 :: u49 :: u50 :: u51 :: u52 :: u53 :: u54 :: u55 :: u56 :: u57 :: u58 :: u59 :: u60 :: u61 :: u62 :: u63 :: u64 :: u65 :: u66 :: u67 :: u68 :: u69 :: u70 :: u71 :: u72 :: u73 :: u74 :: u75 :: u76 :: u77 :: u78 :: u79 :: u80 :: u81 :: u82 :: u83 :: u84 :: u85 :: u86 :: u87 :: u88 :: u89 :: u90 :: u91 :: u92 :: u93 :: u94 :: u95 :: u96 :: u97 :: u98 :: u99 :: u100 :: u101 :: u102 :: u103 :: u104 :: u105 :: u106 :: u107 :: u108 :: u109 :: u110 :: u111 :: u112 :: u113 :: u114 :: u115 :: u116 :: u117 :: u118 :: u119 :: u120 :: u121 :: u122 :: u123 :: u124 :: u125 :: u126 :: u127 :: u128 :: u129 :: u130 :: u131 :: u132 :: u133 :: u134 :: u135 :: u136 :: u137 :: u138 :: u139 :: u140 :: u141 :: u142 :: u143 :: u144 :: u145 :: u146 :: u147 :: u148 :: u149 :: u150 :: u151 :: u152 :: u153 :: u154 :: u155 :: u156 :: u157 :: u158 :: u159 :: u160 :: u161 :: u162 :: u163 :: u164 :: u165 :: u166 :: u167 :: u168 :: u169 :: u170 :: u171 :: u172 :: u173 :: u174 :: u175 :: u176 :: u177 :: u178 :: u179 :: u180 :: u181 :: u182 :: u183 :: u184 :: u185 :: u186 :: u187 :: u188 :: u189 :: u190 :: u191 :: u192 :: u193 :: u194 :: u195 :: u196 :: u197 :: u198 :: u199 :: u200 :: u201 :: u202 :: u203 :: u204 :: u205 :: u206 :: u207 :: u208 :: u209 :: u210 :: u211 :: u212 :: u213 :: u214 :: u215 :: u216 :: u217 :: u218 :: u219 :: u220 :: u221 :: u222 :: u223 :: u224 :: u225 :: u226 :: u227 :: u228 :: u229 :: u230 :: u231 :: u232 :: u233 :: u234 :: u235 :: u236 :: u237 :: u238 :: u239 :: u240 :: u241 :: u242 :: u243 :: u244 :: u245 :: u246 :: u247 :: u248 :: u249 :: u250 :: u251 :: u252 :: u253 :: u254 :: u255 :: u256 :: u257 :: u258 :: u259 :: u260 :: u261 :: u262 :: u263 :: undef :: undef :: undef :: undef :: undef :: undef :: undef :: undef :: undef :: undef :: undef :: undef :: undef :: undef :: undef :: undef :: undef :: undef :: undef :: undef :: undef :: undef :: undef :: undef :: undef :: undef :: undef :: undef :: undef :: undef :: undef :: undef :: undef :: undef :: undef :: undef :: undef :: undef :: undef :: undef :: undef :: undef :: undef :: undef :: undef :: undef :: undef :: undef :: undef :: undef :: undef :: undef :: undef :: undef :: undef :: undef :: undef :: undef :: undef :: undef :: undef :: undef :: undef :: undef :: undef :: undef :: undef :: undef :: undef :: undef :: undef :: undef :: undef :: undef :: undef :: undef :: undef :: undef :: undef :: undef :: undef :: undef :: undef :: undef :: undef :: undef :: undef :: undef :: undef :: []).toArray, []⟩ W0 := by
  have HO := Lib.hid HOK
  have HBD := Lib.hid HBAD
  have HIX := Lib.hid hix
  have HBY := Lib.hid hby
  have HTA := Lib.hid hta
  have HA5 := Lib.hid hA5
  have HBX := Lib.hid hbad
  have HV := Lib.hid hV
  clear HOK HBAD hix hby hta hA5 hbad hV
  obtain ⟨⟨hb0, HT0⟩, ⟨HZ0, HX0⟩, o0, o1, o2⟩ := h0
  have o3 := HX0.lt
  conv => arg 2; whnf
  go_wp2_with fail
  go_loopw [266] (fun i W => ∃ k : Nat, k ≤ m ∧ i = .int .i64 k ∧ Below w.heap.size w W ∧ Hid (Dio W gt w.heap.size (timesB 4 (ts.drop k)) false) ∧ Blk W gz 68 (zosC zs).toArray ∧ Blk W gx 77 (ttsC (ts.take k ++ List.replicate (ts.length - k) noTr)).toArray) (fun i _ => ts.length - (intOf i).toNat)
  case atStart => exact ⟨0, Nat.zero_le _, rfl, hb0, HT0, HZ0, HX0⟩
  case round =>
    clear hb0 HT0 HZ0 HX0 o3
    obtain ⟨k, hk, rfl, hb, HT, HZ, HX⟩ := hrel
    have hszw := hb.size
    have hgx := HX.lt
    by_cases hlen : k < ts.length
    · obtain ⟨t, htk⟩ : ∃ t, ts[k]? = some t := ⟨_, List.getElem?_eq_getElem hlen⟩
      have htm := List.mem_of_getElem? htk
      have hat := HTA.out t htm
      have hby := HBY.out t htm
      rw [times_drop 4 ts k t htk] at HT
      have HLK := Lib.hid (show (timesB 4 (ts.drop (k + 1))).length ≤ 8000 by rw [times_len, List.length_drop]; omega)
      have HC1 := Lib.hid (big4_by t.at_ _ false _ _ _ HT.out (by have := HLK.out; omega))
      have hi0 : (0 : Int) ≤ t.at_ % 4294967296 := by omega
      have hi1 : t.at_ % 4294967296 < 4294967296 := by omega
      have hi32 : IntKind.i32.wrap (t.at_ % 4294967296) = t.at_ := i32_back t.at_ hat.1 hat.2
      generalize t.at_ % 4294967296 = mm at *
      have hbk : (ixsB ts)[k]? = some (UInt8.ofNat t.ix) := by unfold ixsB; rw [List.getElem?_map, htk]; rfl
      obtain ⟨g5, p5, hA5e, hg5, hcs5⟩ := HA5.out.at hbk
      subst hA5e
      have hc5 := hcs5 k _ hbk
      rw [off_back t.ix (by omega)] at hc5
      have HC5 := Lib.hid hc5
      have HPT := Lib.hid (part_at ts k noTr hlen)
      have HPS := Lib.hid (part_set ts k noTr t htk)
      have HPL := Lib.hid (show k < (ts.take k ++ List.replicate (ts.length - k) noTr).length from (List.getElem?_eq_some_iff.1 (part_at ts k noTr hlen)).1)
      generalize ts.take k ++ List.replicate (ts.length - k) noTr = row at *
      clear hbk hcs5 hc5
      go_wp2_with fail
      refine HC1.out.mono ?_
      rintro e w12 ⟨rfl, hd12, hg12⟩
      have HX12 := HX.grown hg12 (by intro e; injection e with e; omega)
      have HZ12 := HZ.grown hg12 (by intro e; injection e with e; omega)
      have hgx12 := HX12.lt
      have f1 := HX12.frozen (k * 4)
      have f0 := HX12.fld ttC 4 (fun _ => rfl) k 0 (by decide) noTr HPT.out (.int .i64 0) rfl
      rw [Nat.add_zero] at f0
      have HX13 := HX12.putF ttC 4 (fun _ => rfl) k 0 (by decide) noTr ⟨t.at_, 0⟩ HPT.out (.int .i64 t.at_) rfl
      rw [Nat.add_zero] at HX13
      have hpk2 : (row.set k ⟨t.at_, 0⟩)[k]? = some ⟨t.at_, 0⟩ := by
        rw [List.getElem?_set_self]
        exact HPL.out
      have hw11 : w.heap.size ≤ gx := by omega
      have HD13 := Lib.hid (hd12.other ⟨gx, k * 4, none⟩ (by show _ ≠ gx; omega) hw11 (.int .i64 t.at_))
      have HZ13 := Lib.hid (HZ12.far (p := ⟨gx, k * 4, none⟩) (by show _ ≠ gx; omega) (.int .i64 t.at_))
      have hb12 := grown_below' hb hg12 (by omega) hszw
      have HB13 := Lib.hid (hb12.setCell (p := ⟨gx, k * 4, none⟩) hw11 (.int .i64 t.at_))
      have hc12 : w12.cell? ⟨g5, p5 + k, none⟩ = some (.int .u8 (t.ix : Int)) := (hb12.cell (p := ⟨g5, p5 + k, none⟩) hg5).trans HC5.out
      have hg5x : g5 ≠ gx := by omega
      have hkq : k < q5 := by omega
      have i0 : (0 : Int) ≤ (k : Int) := by omega
      have i1 : (k : Int) < (ts.length : Int) := by omega
      have g0 : (w12.setCell ⟨gx, k * 4, none⟩ (.int .i64 t.at_)).cell? ⟨gx, k * 4 + 1, none⟩ = some (.int .u8 0) := HX13.fld ttC 4 (fun _ => rfl) k 1 (by decide) _ hpk2 (.int .u8 0) rfl
      have HX14 := HX13.putF ttC 4 (fun _ => rfl) k 1 (by decide) _ ⟨t.at_, t.ix⟩ hpk2 (.int .u8 (t.ix : Int)) rfl
      have HXF := Lib.hid HX14
      have f2 := HX12.frozen (k * 4 + 1)
      clear hd12 hg12 HC1 HX12 HZ12 HT HZ HX hb HX13 HX14
      by_cases hkm : k < m
      · have hix := HIX.out k t hkm htk
        have hge : decide ((zs.length : Int) ≤ (t.ix : Int)) = false := by rw [decide_eq_false_iff_not]; omega
        have hn0 : decide ((k : Int) < 0) = false := by rw [decide_eq_false_iff_not]; omega
        go_wp2_with fail
        go_roundw
        case rel => exact ⟨k + 1, by omega, by go_num, HB13.out.setCell (p := ⟨gx, k * 4 + 1, none⟩) hw11 _, Lib.hid (HD13.out.other ⟨gx, k * 4 + 1, none⟩ (by show _ ≠ gx; omega) hw11 _), HZ13.out.far (p := ⟨gx, k * 4 + 1, none⟩) (by show _ ≠ gx; omega) _, by have h := HXF.out; rw [List.set_set, HPS.out] at h; exact h⟩
        case measure => simp [intOf]; omega
      · obtain rfl : k = m := by omega
        have hge : zs.length ≤ t.ix := HBX.out t htk
        have hv0 : (w12.setCell ⟨gx, k * 4, none⟩ (.int .i64 t.at_)).cell? ⟨0, 0, none⟩ = some V := (HB13.out.cell (p := ⟨0, 0, none⟩) hw0).trans HV.out
        go_wp2_with fail
        go_quiet (fail)
        go_wp2_with fail
        exact HBD.out hlen _ (below_drewN HB13.out _)
    · obtain rfl : k = ts.length := by omega
      obtain rfl : m = ts.length := by omega
      by_cases hts : ts = []
      · have hl0 : ts.length = 0 := by rw [hts]; rfl
        have HTS := Lib.hid hts
        clear hts HX
        have hbb := Lib.hid hb
        clear hb
        go_wp2_with fail
        have hL := loc_none nm ext zs gz hbb.out HZ
        have hO := HO.out (by first | rfl | trivial)
        rw [if_pos HTS.out] at hO
        exact hO _ _ _ (hL _ _ _).1 (hL _ _ _).2
      · have hl0 : ((ts.length : Int) == 0) = false := by rw [beq_eq_false_iff_ne]; have := List.length_pos_iff.2 hts; omega
        have HTS := Lib.hid hts
        rw [List.take_length, Nat.sub_self, List.replicate_zero, List.append_nil] at HX
        have HX := Lib.hid HX
        have hbb := Lib.hid hb
        clear hts hb
        go_wp2_with fail
        have hL := loc_mk nm ext zs ts gz (some ⟨gx, 0, none⟩) ts.length hbb.out HZ (rd_blk HX.out _) HBY.out
        have hO := HO.out (by first | rfl | trivial)
        rw [if_neg HTS.out] at hO
        exact hO _ _ _ hL.1 hL.2
set_option maxRecDepth 1000000 in
set_option maxHeartbeats 16000000 in
theorem trans85_8 (POST : Ending → World → Prop) (w : World) (nm ext : Bs) (zs : List Zo) (ts : List Tr) (gt gz gx : Nat) (A5 A24 A25 : Option Addr) (q5 q24 q25 : Nat) (V : Value) (m : Nat) (hm : m ≤ ts.length)
    (ht : ts.length ≤ 1000) (hix : ∀ (j : Nat) (t : Tr), j < m → ts[j]? = some t → t.ix < zs.length) (hbad : ∀ t, ts[m]? = some t → zs.length ≤ t.ix) (hby : ∀ t ∈ ts, t.ix < 256) (hta : ∀ t ∈ ts, -9223372036854775808 ≤ t.at_ ∧ t.at_ ≤ 9223372036854775807)
    (hV : w.cell? ⟨0, 0, none⟩ = some V) (hw0 : 0 < w.heap.size)
    (HOK : m = ts.length → ∀ (g : Nat) (a : Ad) (W : World), Loc W g ⟨nm, zs, if ts = [] then [⟨-9223372036854775808, 0⟩] else ts, ext⟩ a → Below w.heap.size w W → POST (.returned (.tuple #[.pointer (some ⟨g, 0, none⟩), .nilIface])) W)
    (HBAD : m < ts.length → ∀ (W : World), Below w.heap.size w W → POST (.returned (.tuple #[.pointer none, V])) W)
    (u1 u2 u3 u4 u5 u6 u7 u8 u9 u10 u11 u12 u13 u15 u16 u17 u18 u19 u22 u23 u27 u28 u30 u31 u32 u33 u42 u43 u44 u45 u46 u47 u48 u49 u50 u51 u52 u53 u54 u55 u56 u57 u58 u59 u60 u61 u62 u63 u64 u65 u66 u67 u68 u69 u70 u71 u72 u73 u74 u75 u76 u77 u78 u79 u80 u81 u82 u83 u84 u85 u86 u87 u88 u89 u90 u91 u92 u93 u94 u95 u96 u97 u98 u99 u100 u101 u102 u103 u104 u105 u106 u107 u108 u109 u110 u111 u112 u113 u114 u115 u116 u117 u118 u119 u120 u121 u122 u123 u124 u125 u126 u127 u128 u129 u130 u131 u132 u133 u134 u135 u136 u137 u138 u139 u140 u141 u142 u143 u144 u145 u146 u147 u148 u149 u150 u151 u152 u153 u154 u155 u156 u157 u158 u159 u160 u161 u162 u163 u164 u165 u166 u167 u168 u169 u170 u171 u172 u173 u174 u175 u176 u177 u178 u179 u180 u181 u182 u183 u184 u185 u186 u187 u188 u189 u190 u191 u192 u193 u194 u195 u196 u197 u198 u199 u200 u201 u202 u203 u204 u205 u206 u207 u208 u209 u210 u211 u212 u213 u214 u215 u216 u217 u218 u219 u220 u221 u222 u223 u224 u225 u226 u227 u228 u229 u230 u231 u232 u233 u234 u235 u236 u237 u238 u239 u240 u241 u242 u243 u244 u245 u246 u247 u248 u249 u250 u251 u252 u253 u254 u255 u256 u257 u258 u259 u260 u261 u262 u263 : Value) (W0 : World) (h0 : St5 w gt gz gx zs (timesB 8 ts) (List.replicate ts.length noTr) W0) (hA5 : Rb w w.heap.size A5 (ixsB ts)) (hq5 : ts.length ≤ q5) :
    Code.wp Tryd.prog T85 (bodyPost Tryd.prog Tryd.f20 POST) ⟨(Value.string (S nm) :: u1 :: u2 :: u3 :: u4 :: u5 :: u6 :: u7 :: u8 :: u9 :: u10 :: u11 :: u12 :: u13 :: Value.bool true :: u15 :: u16 :: u17 :: u18 :: u19 :: Value.pointer (some ⟨gt, 0, none⟩) :: Value.slice A5 ts.length q5 :: u22 :: u23 :: Value.slice A24 0 q24 :: Value.slice A25 0 q25 :: Value.string (S ext) :: u27 :: u28 :: Value.slice (some ⟨gz, 0, none⟩) zs.length zs.length :: u30 :: u31 :: u32 :: u33 :: Value.slice (some ⟨gx, 0, none⟩) ts.length ts.length :: undef :: undef :: undef :: undef :: undef :: undef :: undef :: u42 :: u43 :: u44 :: u45 :: u46 :: u47 :: u48 :: u49 :: u50 :: u51 :: u52 :: u53 :: u54 :: u55 :: u56 :: u57 :: u58 :: u59 :: u60 :: u61 :: u62 :: u63 :: u64 :: u65 :: u66 :: u67 :: u68 :: u69 :: u70 :: u71 :: u72 :: u73 :: u74 :: u75 :: u76 :: u77 :: u78 :: u79 :: u80 :: u81 :: u82 :: u83 :: u84 :: u85 :: u86 :: u87 :: u88 :: u89 :: u90 :: u91 :: u92 :: u93 :: u94 :: u95 :: u96 :: u97 :: u98 :: u99 :: u100 :: u101 :: u102 :: u103 :: u104 :: u105 :: u106 :: u107 :: u108 :: u109 :: u110 :: u111 :: u112 :: u113 :: u114 :: u115 :: u116 :: u117 :: u118 :: u119 :: u120 :: u121 :: u122 :: u123 :: u124 :: u125 :: u126 :: u127 :: u128 :: u129 :: u130 :: u131 :: u132 :: u133 :: u134 :: u135 :: u136 :: u137 :: u138 :: u139 :: u140 :: u141 :: u142 :: u143 :: u144 :: u145 :: u146 :: u147 :: u148 :: u149 :: u150 :: u151 :: u152 :: u153 :: u154 :: u155 :: u156 :: u157 :: u158 :: u159 :: u160 :: u161 :: u162 :: u163 :: u164 :: u165 :: u166 :: u167 :: u168 :: u169 :: u170 :: u171 :: u172 :: u173 :: u174 :: u175 :: u176 :: u177 :: u178 :: u179 :: u180 :: u181 :: u182 :: u183 :: u184 :: u185 :: u186 :: u187 :: u188 :: u189 :: u190 :: u191 :: u192 :: u193 :: u194 :: u195 :: u196 :: u197 :: u198 :: u199 :: u200 :: u201 :: u202 :: u203 :: u204 :: u205 :: u206 :: u207 :: u208 :: u209 :: u210 :: u211 :: u212 :: u213 :: u214 :: u215 :: u216 :: u217 :: u218 :: u219 :: u220 :: u221 :: u222 :: u223 :: u224 :: u225 :: u226 :: u227 :: u228 :: u229 :: u230 :: u231 :: u232 :: u233 :: u234 :: u235 :: u236 :: u237 :: u238 :: u239 :: u240 :: u241 :: u242 :: u243 :: u244 :: u245 :: u246 :: u247 :: u248 :: u249 :: u250 :: u251 :: u252 :: u253 :: u254 :: u255 :: u256 :: u257 :: u258 :: u259 :: u260 :: u261 :: u262 :: u263 :: undef :: undef :: undef :: undef :: undef :: undef :: undef :: undef :: undef :: undef :: undef :: undef :: undef :: undef :: undef :: undef :: undef :: undef :: undef :: undef :: undef :: undef :: undef :: undef :: undef :: undef :: undef :: undef :: undef :: undef :: undef :: undef :: undef :: undef :: undef :: undef :: undef :: undef :: undef :: undef :: undef :: undef :: undef :: undef :: undef :: undef :: undef :: undef :: undef :: undef :: undef :: undef :: undef :: undef :: undef :: undef :: undef :: undef :: undef :: undef :: undef :: undef :: undef :: undef :: undef :: undef :: undef :: undef :: undef :: undef :: undef :: undef :: undef :: undef :: undef :: undef :: undef :: undef :: undef :: undef :: undef :: undef :: undef :: undef :: undef :: undef :: undef :: undef :: undef :: []).toArray, []⟩ W0 := by
  have HO := Lib.hid HOK
  have HBD := Lib.hid HBAD
  have HIX := Lib.hid hix
  have HBY := Lib.hid hby
  have HTA := Lib.hid hta
  have HA5 := Lib.hid hA5
  have HBX := Lib.hid hbad
  have HV := Lib.hid hV
  clear HOK HBAD hix hby hta hA5 hbad hV
  obtain ⟨⟨hb0, HT0⟩, ⟨HZ0, HX0⟩, o0, o1, o2⟩ := h0
  have o3 := HX0.lt
  conv => arg 2; whnf
  go_wp2_with fail
  go_loopw [266] (fun i W => ∃ k : Nat, k ≤ m ∧ i = .int .i64 k ∧ Below w.heap.size w W ∧ Hid (Dio W gt w.heap.size (timesB 8 (ts.drop k)) false) ∧ Blk W gz 68 (zosC zs).toArray ∧ Blk W gx 77 (ttsC (ts.take k ++ List.replicate (ts.length - k) noTr)).toArray) (fun i _ => ts.length - (intOf i).toNat)
  case atStart => exact ⟨0, Nat.zero_le _, rfl, hb0, HT0, HZ0, HX0⟩
  case round =>
    clear hb0 HT0 HZ0 HX0 o3
    obtain ⟨k, hk, rfl, hb, HT, HZ, HX⟩ := hrel
    have hszw := hb.size
    have hgx := HX.lt
    by_cases hlen : k < ts.length
    · obtain ⟨t, htk⟩ : ∃ t, ts[k]? = some t := ⟨_, List.getElem?_eq_getElem hlen⟩
      have htm := List.mem_of_getElem? htk
      have hat := HTA.out t htm
      have hby := HBY.out t htm
      rw [times_drop 8 ts k t htk] at HT
      have HLK := Lib.hid (show (timesB 8 (ts.drop (k + 1))).length ≤ 8000 by rw [times_len, List.length_drop]; omega)
      have HC1 := Lib.hid (big8_by t.at_ _ false _ _ _ HT.out (by have := HLK.out; omega))
      have hi0 : (0 : Int) ≤ t.at_ % 18446744073709551616 := by omega
      have hi1 : t.at_ % 18446744073709551616 < 18446744073709551616 := by omega
      have hi64 : IntKind.i64.wrap (t.at_ % 18446744073709551616) = t.at_ := i64_back t.at_ hat.1 hat.2
      generalize t.at_ % 18446744073709551616 = mm at *
      have hbk : (ixsB ts)[k]? = some (UInt8.ofNat t.ix) := by unfold ixsB; rw [List.getElem?_map, htk]; rfl
      obtain ⟨g5, p5, hA5e, hg5, hcs5⟩ := HA5.out.at hbk
      subst hA5e
      have hc5 := hcs5 k _ hbk
      rw [off_back t.ix (by omega)] at hc5
      have HC5 := Lib.hid hc5
      have HPT := Lib.hid (part_at ts k noTr hlen)
      have HPS := Lib.hid (part_set ts k noTr t htk)
      have HPL := Lib.hid (show k < (ts.take k ++ List.replicate (ts.length - k) noTr).length from (List.getElem?_eq_some_iff.1 (part_at ts k noTr hlen)).1)
      generalize ts.take k ++ List.replicate (ts.length - k) noTr = row at *
      clear hbk hcs5 hc5
      go_wp2_with fail
      refine HC1.out.mono ?_
      rintro e w12 ⟨rfl, hd12, hg12⟩
      have HX12 := HX.grown hg12 (by intro e; injection e with e; omega)
      have HZ12 := HZ.grown hg12 (by intro e; injection e with e; omega)
      have hgx12 := HX12.lt
      have f1 := HX12.frozen (k * 4)
      have f0 := HX12.fld ttC 4 (fun _ => rfl) k 0 (by decide) noTr HPT.out (.int .i64 0) rfl
      rw [Nat.add_zero] at f0
      have HX13 := HX12.putF ttC 4 (fun _ => rfl) k 0 (by decide) noTr ⟨t.at_, 0⟩ HPT.out (.int .i64 t.at_) rfl
      rw [Nat.add_zero] at HX13
      have hpk2 : (row.set k ⟨t.at_, 0⟩)[k]? = some ⟨t.at_, 0⟩ := by
        rw [List.getElem?_set_self]
        exact HPL.out
      have hw11 : w.heap.size ≤ gx := by omega
      have HD13 := Lib.hid (hd12.other ⟨gx, k * 4, none⟩ (by show _ ≠ gx; omega) hw11 (.int .i64 t.at_))
      have HZ13 := Lib.hid (HZ12.far (p := ⟨gx, k * 4, none⟩) (by show _ ≠ gx; omega) (.int .i64 t.at_))
      have hb12 := grown_below' hb hg12 (by omega) hszw
      have HB13 := Lib.hid (hb12.setCell (p := ⟨gx, k * 4, none⟩) hw11 (.int .i64 t.at_))
      have hc12 : w12.cell? ⟨g5, p5 + k, none⟩ = some (.int .u8 (t.ix : Int)) := (hb12.cell (p := ⟨g5, p5 + k, none⟩) hg5).trans HC5.out
      have hg5x : g5 ≠ gx := by omega
      have hkq : k < q5 := by omega
      have i0 : (0 : Int) ≤ (k : Int) := by omega
      have i1 : (k : Int) < (ts.length : Int) := by omega
      have g0 : (w12.setCell ⟨gx, k * 4, none⟩ (.int .i64 t.at_)).cell? ⟨gx, k * 4 + 1, none⟩ = some (.int .u8 0) := HX13.fld ttC 4 (fun _ => rfl) k 1 (by decide) _ hpk2 (.int .u8 0) rfl
      have HX14 := HX13.putF ttC 4 (fun _ => rfl) k 1 (by decide) _ ⟨t.at_, t.ix⟩ hpk2 (.int .u8 (t.ix : Int)) rfl
      have HXF := Lib.hid HX14
      have f2 := HX12.frozen (k * 4 + 1)
      clear hd12 hg12 HC1 HX12 HZ12 HT HZ HX hb HX13 HX14
      by_cases hkm : k < m
      · have hix := HIX.out k t hkm htk
        have hge : decide ((zs.length : Int) ≤ (t.ix : Int)) = false := by rw [decide_eq_false_iff_not]; omega
        have hn0 : decide ((k : Int) < 0) = false := by rw [decide_eq_false_iff_not]; omega
        go_wp2_with fail
        go_roundw
        case rel => exact ⟨k + 1, by omega, by go_num, HB13.out.setCell (p := ⟨gx, k * 4 + 1, none⟩) hw11 _, Lib.hid (HD13.out.other ⟨gx, k * 4 + 1, none⟩ (by show _ ≠ gx; omega) hw11 _), HZ13.out.far (p := ⟨gx, k * 4 + 1, none⟩) (by show _ ≠ gx; omega) _, by have h := HXF.out; rw [List.set_set, HPS.out] at h; exact h⟩
        case measure => simp [intOf]; omega
      · obtain rfl : k = m := by omega
        have hge : zs.length ≤ t.ix := HBX.out t htk
        have hv0 : (w12.setCell ⟨gx, k * 4, none⟩ (.int .i64 t.at_)).cell? ⟨0, 0, none⟩ = some V := (HB13.out.cell (p := ⟨0, 0, none⟩) hw0).trans HV.out
        go_wp2_with fail
        go_quiet (fail)
        go_wp2_with fail
        exact HBD.out hlen _ (below_drewN HB13.out _)
    · obtain rfl : k = ts.length := by omega
      obtain rfl : m = ts.length := by omega
      by_cases hts : ts = []
      · have hl0 : ts.length = 0 := by rw [hts]; rfl
        have HTS := Lib.hid hts
        clear hts HX
        have hbb := Lib.hid hb
        clear hb
        go_wp2_with fail
        have hL := loc_none nm ext zs gz hbb.out HZ
        have hO := HO.out (by first | rfl | trivial)
        rw [if_pos HTS.out] at hO
        exact hO _ _ _ (hL _ _ _).1 (hL _ _ _).2
      · have hl0 : ((ts.length : Int) == 0) = false := by rw [beq_eq_false_iff_ne]; have := List.length_pos_iff.2 hts; omega
        have HTS := Lib.hid hts
        rw [List.take_length, Nat.sub_self, List.replicate_zero, List.append_nil] at HX
        have HX := Lib.hid HX
        have hbb := Lib.hid hb
        clear hts hb
        go_wp2_with fail
        have hL := loc_mk nm ext zs ts gz (some ⟨gx, 0, none⟩) ts.length hbb.out HZ (rd_blk HX.out _) HBY.out
        have hO := HO.out (by first | rfl | trivial)
        rw [if_neg HTS.out] at hO
        exact hO _ _ _ hL.1 hL.2
end Go.Proofs.YtgmlclhdibajiaaDoor
