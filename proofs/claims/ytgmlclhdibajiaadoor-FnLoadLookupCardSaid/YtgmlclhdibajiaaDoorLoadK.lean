/- The loader of zone files, joined: files of the first version, with an index that leads to no zone, of the second version. -/
import Derived.Test.YtgmlclhdibajiaaDoorLoadI
import Derived.Test.YtgmlclhdibajiaaDoorLoadR
import Derived.Test.YtgmlclhdibajiaaDoorLoadZ
import Derived.Test.YtgmlclhdibajiaaDoorLoadX
import Derived.Deep.DeepCutAuto
import Derived.Deep.DeepFit
import Derived.BigQuiet
namespace Go.Proofs.YtgmlclhdibajiaaDoor
open Go.RowKit

/-- the loader has read the place p; it has told the error V -/
def LoadPost (w : World) (p : Pl) (e : Ending) (w' : World) : Prop := ∃ (g : Nat) (a : Ad), e = .returned (.tuple #[.pointer (some ⟨g, 0, none⟩), .nilIface]) ∧ Loc w' g p a ∧ Below w.heap.size w w'
def FailPost (w : World) (V : Value) (e : Ending) (w' : World) : Prop := e = .returned (.tuple #[.pointer none, V]) ∧ Below w.heap.size w w'
def tsAll (ts : List Tr) : List Tr := if ts = [] then [⟨-9223372036854775808, 0⟩] else ts
/-- what a file asks of its zones -/
def zsOk (zs : List Zo) : Prop := (1 ≤ zs.length ∧ zs.length ≤ 200) ∧ (charsB zs).length ≤ 255 ∧ (∀ z ∈ zs, ∀ b ∈ z.nm, b ≠ 0) ∧ ∀ z ∈ zs, -2147483647 ≤ z.off ∧ z.off ≤ 2147483647

set_option maxRecDepth 1000000 in
set_option maxHeartbeats 4000000 in
theorem load1 (POST : Ending → World → Prop) (w : World) (nm : Bs) (zs : List Zo) (ts : List Tr) (V : Value) (m : Nat) (hm : m ≤ ts.length) (hzs : zsOk zs)
    (ht : ts.length ≤ 1000) (hix : ∀ (j : Nat) (t : Tr), j < m → ts[j]? = some t → t.ix < zs.length) (hbad : ∀ t, ts[m]? = some t → zs.length ≤ t.ix) (hby : ∀ t ∈ ts, t.ix < 256) (hta : ∀ t ∈ ts, -2147483648 ≤ t.at_ ∧ t.at_ ≤ 2147483647)
    (hV : w.cell? ⟨0, 0, none⟩ = some V) (hw0 : 0 < w.heap.size)
    (HOK : m = ts.length → ∀ (g : Nat) (a : Ad) (W : World), Loc W g ⟨nm, zs, tsAll ts, []⟩ a → Below w.heap.size w W → POST (.returned (.tuple #[.pointer (some ⟨g, 0, none⟩), .nilIface])) W)
    (HBAD : m < ts.length → ∀ (W : World), Below w.heap.size w W → POST (.returned (.tuple #[.pointer none, V])) W)
    (v : Value) (hv : Slb w w.heap.size v (blockB 0 4 zs ts)) :
    Calls Tryd.prog 20 #[.string (S nm), v] w POST := by
  obtain ⟨⟨hz0, hz⟩, hn, hnz, hzo⟩ := hzs
  have htl := times_len 4 ts
  have hil := ixs_len ts
  have hkl := kinds_len zs 0
  have hD : (timesB 4 ts ++ (ixsB ts ++ (kindsB zs 0 ++ (charsB zs ++ [])))).length ≤ 4611686018427200000 := by simp only [List.length_append, List.length_nil]; omega
  refine head1 POST w nm (timesB 4 ts ++ (ixsB ts ++ (kindsB zs 0 ++ (charsB zs ++ [])))) zs ts hz ht hn (by omega) ?_ v (by rw [List.append_nil]; exact hv)
  intro gn
  intros
  refine reads44 POST w nm [] [] zs ts false 4 (.inr ⟨rfl, rfl⟩) (.inl ⟨rfl, rfl⟩) (by simp) hz0 hz ht hn ?_ gn _ _ _ _ _ _ _ _ _ _ _ _ _ _ _ _ _ _ _ _ _ _ _ _ _ _ _ _ _ _ _ _ _ _ _ _ _ _ _ _ _ _ _ _ _ _ _ _ _ _ _ _ _ _ _ _ _ _ _ _ _ _ _ _ _ _ _ _ _ _ _ _ _ _ _ _ _ _ _ _ _ _ _ _ _ _ _ _ _ _ _ _ _ _ _ _ _ _ _ _ _ _ _ _ _ _ _ _ _ (by assumption)
  intro gn gt gk A5 A7 A24 A25 q5 q7 q24 q25
  intros
  refine zones60 POST w nm [] zs ts false (timesB 4 ts) gn gt gk A5 A7 A24 A25 q5 q7 q24 q25 hz0 hz ht hn hnz hzo ?_ _ _ _ _ _ _ _ _ _ _ _ _ _ _ _ _ _ _ _ _ _ _ _ _ _ _ _ _ _ _ _ _ _ _ _ _ _ _ _ _ _ _ _ _ _ _ _ _ _ _ _ _ _ _ _ _ _ _ _ _ _ _ _ _ _ _ _ _ _ _ _ _ _ _ _ _ _ _ _ _ _ _ _ _ _ _ _ _ _ _ _ _ _ _ _ _ _ _ _ _ _ _ _ _ _ _ _ _ _ _ _ _ _ _ _ _ _ _ _ _ _ _ _ _ _ _ _ _ _ _ _ _ _ _ _ _ _ _ _ _ _ _ _ _ _ _ _ _ _ _ _ _ _ _ _ _ _ _ _ _ _ _ _ _ _ _ _ _ _ _ _ _ (by assumption) (by assumption) (by assumption)
  intro gz gx
  intros
  exact trans85_4 POST w nm [] zs ts gt gz gx A5 A24 A25 q5 q24 q25 V m hm ht hix hbad hby hta hV hw0 HOK HBAD _ _ _ _ _ _ _ _ _ _ _ _ _ _ _ _ _ _ _ _ _ _ _ _ _ _ _ _ _ _ _ _ _ _ _ _ _ _ _ _ _ _ _ _ _ _ _ _ _ _ _ _ _ _ _ _ _ _ _ _ _ _ _ _ _ _ _ _ _ _ _ _ _ _ _ _ _ _ _ _ _ _ _ _ _ _ _ _ _ _ _ _ _ _ _ _ _ _ _ _ _ _ _ _ _ _ _ _ _ _ _ _ _ _ _ _ _ _ _ _ _ _ _ _ _ _ _ _ _ _ _ _ _ _ _ _ _ _ _ _ _ _ _ _ _ _ _ _ _ _ _ _ _ _ _ _ _ _ _ _ _ _ _ _ _ _ _ _ _ _ _ _ _ _ _ _ _ _ _ _ _ _ _ _ _ _ _ _ _ _ _ _ _ _ _ _ _ _ _ _ _ _ _ _ _ _ _ _ _ _ _ _ _ _ _ _ _ _ _ _ _ _ _ _ _ _ _ _ _ _ _ _ _ _ _ _ _ _ _ _ _ _ _ _ _ _ _ _ _ (by assumption) (by assumption) (by assumption)

theorem head_len (ver : UInt8) : (headB ver).length = 20 := rfl
def file2D (z0 : Zo) (zs : List Zo) (ts : List Tr) (ext : Bs) : Bs := blockB 50 4 [z0] [] ++ (blockB 50 8 zs ts ++ ([10] ++ (ext ++ [10])))
theorem file2D_eq (z0 : Zo) (zs : List Zo) (ts : List Tr) (ext : Bs) : file2D z0 zs ts ext = headB 50 ++ (countsB (cntL 0 1 (charsB [z0]).length) ++ ((kindsB [z0] 0 ++ (charsB [z0] ++ headB 50)) ++ (countsB (cntL ts.length zs.length (charsB zs).length) ++ (timesB 8 ts ++ (ixsB ts ++ (kindsB zs 0 ++ (charsB zs ++ ([10] ++ (ext ++ [10]))))))))) := by
  unfold file2D blockB bodyB
  simp only [List.append_assoc]
  rfl

set_option maxRecDepth 1000000 in
set_option maxHeartbeats 4000000 in
theorem load2 (POST : Ending → World → Prop) (w : World) (nm : Bs) (ext : Bs) (hext : ext.length ≤ 4294967296) (z0 : Zo) (hn0 : (charsB [z0]).length ≤ 255) (zs : List Zo) (ts : List Tr) (V : Value) (m : Nat) (hm : m ≤ ts.length) (hzs : zsOk zs)
    (ht : ts.length ≤ 1000) (hix : ∀ (j : Nat) (t : Tr), j < m → ts[j]? = some t → t.ix < zs.length) (hbad : ∀ t, ts[m]? = some t → zs.length ≤ t.ix) (hby : ∀ t ∈ ts, t.ix < 256) (hta : ∀ t ∈ ts, -9223372036854775808 ≤ t.at_ ∧ t.at_ ≤ 9223372036854775807)
    (hV : w.cell? ⟨0, 0, none⟩ = some V) (hw0 : 0 < w.heap.size)
    (HOK : m = ts.length → ∀ (g : Nat) (a : Ad) (W : World), Loc W g ⟨nm, zs, tsAll ts, ext⟩ a → Below w.heap.size w W → POST (.returned (.tuple #[.pointer (some ⟨g, 0, none⟩), .nilIface])) W)
    (HBAD : m < ts.length → ∀ (W : World), Below w.heap.size w W → POST (.returned (.tuple #[.pointer none, V])) W)
    (v : Value) (hv : Slb w w.heap.size v (file2D z0 zs ts ext)) :
    Calls Tryd.prog 20 #[.string (S nm), v] w POST := by
  obtain ⟨⟨hz0, hz⟩, hn, hnz, hzo⟩ := hzs
  have htl := times_len 8 ts
  have hil := ixs_len ts
  have hkl := kinds_len zs 0
  have hD : (timesB 8 ts ++ (ixsB ts ++ (kindsB zs 0 ++ (charsB zs ++ ([10] ++ (ext ++ [10])))))).length ≤ 4611686018427200000 := by simp only [List.length_append, List.length_cons, List.length_nil]; omega
  refine head2 POST w nm (timesB 8 ts ++ (ixsB ts ++ (kindsB zs 0 ++ (charsB zs ++ ([10] ++ (ext ++ [10])))))) (kindsB [z0] 0 ++ (charsB [z0] ++ headB 50)) (charsB [z0]).length zs ts hz ht hn (by omega) hn0 (by simp only [List.length_append, kinds_len, List.length_cons, List.length_nil, head_len]; omega) ?_ v (by rw [file2D_eq] at hv; exact hv)
  intro gn
  intros
  refine reads44 POST w nm ext ([10] ++ (ext ++ [10])) zs ts true 8 (.inl ⟨rfl, rfl⟩) (.inr rfl) (by simp; omega) hz0 hz ht hn ?_ gn _ _ _ _ _ _ _ _ _ _ _ _ _ _ _ _ _ _ _ _ _ _ _ _ _ _ _ _ _ _ _ _ _ _ _ _ _ _ _ _ _ _ _ _ _ _ _ _ _ _ _ _ _ _ _ _ _ _ _ _ _ _ _ _ _ _ _ _ _ _ _ _ _ _ _ _ _ _ _ _ _ _ _ _ _ _ _ _ _ _ _ _ _ _ _ _ _ _ _ _ _ _ _ _ _ _ _ _ _ (by assumption)
  intro gn gt gk A5 A7 A24 A25 q5 q7 q24 q25
  intros
  refine zones60 POST w nm ext zs ts true (timesB 8 ts) gn gt gk A5 A7 A24 A25 q5 q7 q24 q25 hz0 hz ht hn hnz hzo ?_ _ _ _ _ _ _ _ _ _ _ _ _ _ _ _ _ _ _ _ _ _ _ _ _ _ _ _ _ _ _ _ _ _ _ _ _ _ _ _ _ _ _ _ _ _ _ _ _ _ _ _ _ _ _ _ _ _ _ _ _ _ _ _ _ _ _ _ _ _ _ _ _ _ _ _ _ _ _ _ _ _ _ _ _ _ _ _ _ _ _ _ _ _ _ _ _ _ _ _ _ _ _ _ _ _ _ _ _ _ _ _ _ _ _ _ _ _ _ _ _ _ _ _ _ _ _ _ _ _ _ _ _ _ _ _ _ _ _ _ _ _ _ _ _ _ _ _ _ _ _ _ _ _ _ _ _ _ _ _ _ _ _ _ _ _ _ _ _ _ _ _ _ (by assumption) (by assumption) (by assumption)
  intro gz gx
  intros
  exact trans85_8 POST w nm ext zs ts gt gz gx A5 A24 A25 q5 q24 q25 V m hm ht hix hbad hby hta hV hw0 HOK HBAD _ _ _ _ _ _ _ _ _ _ _ _ _ _ _ _ _ _ _ _ _ _ _ _ _ _ _ _ _ _ _ _ _ _ _ _ _ _ _ _ _ _ _ _ _ _ _ _ _ _ _ _ _ _ _ _ _ _ _ _ _ _ _ _ _ _ _ _ _ _ _ _ _ _ _ _ _ _ _ _ _ _ _ _ _ _ _ _ _ _ _ _ _ _ _ _ _ _ _ _ _ _ _ _ _ _ _ _ _ _ _ _ _ _ _ _ _ _ _ _ _ _ _ _ _ _ _ _ _ _ _ _ _ _ _ _ _ _ _ _ _ _ _ _ _ _ _ _ _ _ _ _ _ _ _ _ _ _ _ _ _ _ _ _ _ _ _ _ _ _ _ _ _ _ _ _ _ _ _ _ _ _ _ _ _ _ _ _ _ _ _ _ _ _ _ _ _ _ _ _ _ _ _ _ _ _ _ _ _ _ _ _ _ _ _ _ _ _ _ _ _ _ _ _ _ _ _ _ _ _ _ _ _ _ _ _ _ _ _ _ _ _ _ _ _ _ _ _ _ (by assumption) (by assumption) (by assumption)

theorem load1_ok (w : World) (nm : Bs) (zs : List Zo) (ts : List Tr) (V : Value) (hzs : zsOk zs) (ht : ts.length ≤ 1000) (hix : ∀ t ∈ ts, t.ix < zs.length) (hta : ∀ t ∈ ts, -2147483648 ≤ t.at_ ∧ t.at_ ≤ 2147483647)
    (hV : w.cell? ⟨0, 0, none⟩ = some V) (hw0 : 0 < w.heap.size) (v : Value) (hv : Slb w w.heap.size v (blockB 0 4 zs ts)) :
    Calls Tryd.prog 20 #[.string (S nm), v] w (LoadPost w ⟨nm, zs, tsAll ts, []⟩) :=
  load1 _ w nm zs ts V ts.length (Nat.le_refl _) hzs ht (fun j t _ h => hix t (List.mem_of_getElem? h)) (fun t h => by rw [List.getElem?_eq_none (Nat.le_refl _)] at h; cases h) (fun t h => by have := hix t h; have := hzs.1.2; omega) hta hV hw0
    (fun _ g a W hL hb => ⟨g, a, rfl, hL, hb⟩) (fun h => absurd h (Nat.lt_irrefl _)) v hv
theorem load1_bad (w : World) (nm : Bs) (zs : List Zo) (ts : List Tr) (V : Value) (m : Nat) (hm : m < ts.length) (hzs : zsOk zs) (ht : ts.length ≤ 1000) (hix : ∀ (j : Nat) (t : Tr), j < m → ts[j]? = some t → t.ix < zs.length) (hbad : ∀ t, ts[m]? = some t → zs.length ≤ t.ix) (hby : ∀ t ∈ ts, t.ix < 256) (hta : ∀ t ∈ ts, -2147483648 ≤ t.at_ ∧ t.at_ ≤ 2147483647)
    (hV : w.cell? ⟨0, 0, none⟩ = some V) (hw0 : 0 < w.heap.size) (v : Value) (hv : Slb w w.heap.size v (blockB 0 4 zs ts)) :
    Calls Tryd.prog 20 #[.string (S nm), v] w (FailPost w V) :=
  load1 _ w nm zs ts V m (Nat.le_of_lt hm) hzs ht hix hbad hby hta hV hw0 (fun h => absurd h (Nat.ne_of_lt hm)) (fun _ _ hb => ⟨rfl, hb⟩) v hv
theorem load2_ok (w : World) (nm ext : Bs) (hext : ext.length ≤ 4294967296) (z0 : Zo) (hn0 : (charsB [z0]).length ≤ 255) (zs : List Zo) (ts : List Tr) (V : Value) (hzs : zsOk zs) (ht : ts.length ≤ 1000) (hix : ∀ t ∈ ts, t.ix < zs.length) (hta : ∀ t ∈ ts, -9223372036854775808 ≤ t.at_ ∧ t.at_ ≤ 9223372036854775807)
    (hV : w.cell? ⟨0, 0, none⟩ = some V) (hw0 : 0 < w.heap.size) (v : Value) (hv : Slb w w.heap.size v (file2D z0 zs ts ext)) :
    Calls Tryd.prog 20 #[.string (S nm), v] w (LoadPost w ⟨nm, zs, tsAll ts, ext⟩) :=
  load2 _ w nm ext hext z0 hn0 zs ts V ts.length (Nat.le_refl _) hzs ht (fun j t _ h => hix t (List.mem_of_getElem? h)) (fun t h => by rw [List.getElem?_eq_none (Nat.le_refl _)] at h; cases h) (fun t h => by have := hix t h; have := hzs.1.2; omega) hta hV hw0
    (fun _ g a W hL hb => ⟨g, a, rfl, hL, hb⟩) (fun h => absurd h (Nat.lt_irrefl _)) v hv
/-- the reader holds a true part of the beginning of b, or it has run out -/
def Half (w : World) (gn : Nat) (cs : Array Value) (b : Bs) (W : World) : Prop := (∃ m, m < b.length ∧ LdS w gn cs (b.take m) false W) ∨ LdS w gn cs [] true W
theorem Half.alloc {w W : World} {gn : Nat} {cs : Array Value} {b : Bs} (h : Half w gn cs b W) (o : Obj) : Half w gn cs b (W.alloc o) := by
  rcases h with ⟨m, hm, h⟩ | h
  · exact .inl ⟨m, hm, h.alloc o⟩
  · exact .inr (h.alloc o)
theorem Half.nil {w W : World} {gn : Nat} {cs : Array Value} (h : Half w gn cs [] W) : LdS w gn cs [] true W := by
  rcases h with ⟨m, hm, _⟩ | h
  · simp at hm
  · exact h
theorem Half.st {w W : World} {gn : Nat} {cs : Array Value} {b : Bs} (h : Half w gn cs b W) : Blk W gn 61 cs ∧ Below w.heap.size w W := by
  rcases h with ⟨m, hm, h⟩ | h
  · exact ⟨h.2.1, h.2.2.1⟩
  · exact ⟨h.2.1, h.2.2.1⟩
theorem read_half {w W : World} {gn : Nat} {cs : Array Value} (a b : Bs) (h : Half w gn cs (a ++ b) W) (hl : (a ++ b).length ≤ 4611686018427387904) (n : Int) (hn : n = (a.length : Int)) :
    Calls Tryd.prog 27 #[.pointer (some ⟨w.heap.size, 0, none⟩), .int .i64 n] W fun e W' => ∃ (A : Option Addr) (l c : Nat), e = .returned (.slice A l c) ∧ Half w gn cs b W' := by
  subst hn
  rcases h with ⟨m, hm, h⟩ | h
  · by_cases hle : a.length ≤ m
    · have e : (a ++ b).take m = a ++ b.take (m - a.length) := by rw [List.take_append, List.take_of_length_le hle]
      rw [e] at h
      have hm2 : m - a.length < b.length := by rw [List.length_append] at hm; omega
      refine (read_ok a (b.take (m - a.length)) false w.heap.size w.heap.size W h.1 (by rw [List.length_append] at hl ⊢; have := List.length_take_le (m - a.length) b; omega) _ rfl).mono ?_
      rintro e W' ⟨⟨v, rfl, A, c, rfl, _, _⟩, hd, hg⟩
      exact ⟨A, _, c, rfl, .inl ⟨_, hm2, h.grown hg hd⟩⟩
    · refine (read_short _ false w.heap.size w.heap.size W h.1 _ (by rw [List.length_take]; omega)).mono ?_
      rintro e W' ⟨rfl, hd, hg⟩
      exact ⟨none, 0, 0, rfl, .inr (h.grown hg hd)⟩
  · cases a with
    | nil =>
      refine (read_ok [] [] true w.heap.size w.heap.size W h.1 (by simp) _ rfl).mono ?_
      rintro e W' ⟨⟨v, rfl, A, c, rfl, _, _⟩, hd, hg⟩
      exact ⟨A, _, c, rfl, .inr (h.grown hg hd)⟩
    | cons x a =>
      refine (read_short [] true w.heap.size w.heap.size W h.1 _ (by simp only [List.length_nil, List.length_cons]; omega)).mono ?_
      rintro e W' ⟨rfl, hd, hg⟩
      exact ⟨none, 0, 0, rfl, .inr (h.grown hg hd)⟩
theorem cnt6_cells' {W : World} {gn : Nat} {ts : List Tr} {zs : List Zo} (h : Blk W gn 61 (cnt6 ts zs)) : (W.cell? ⟨gn, 0, none⟩ = some (.int .i64 0) ∧ W.cell? ⟨gn, 1, none⟩ = some (.int .i64 0) ∧ W.cell? ⟨gn, 2, none⟩ = some (.int .i64 0)) ∧ W.cell? ⟨gn, 3, none⟩ = some (.int .i64 (ts.length : Int)) ∧ W.cell? ⟨gn, 4, none⟩ = some (.int .i64 (zs.length : Int)) ∧ W.cell? ⟨gn, 5, none⟩ = some (.int .i64 ((charsB zs).length : Int)) := cnt6_cells h
set_option maxRecDepth 1000000 in
set_option maxHeartbeats 16000000 in
theorem cut44 (w : World) (nm : Bs) (zs : List Zo) (ts : List Tr) (V : Value) (hz : zs.length ≤ 200) (ht : ts.length ≤ 1000) (hn : (charsB zs).length ≤ 255)
    (hV : w.cell? ⟨0, 0, none⟩ = some V) (hw0 : 0 < w.heap.size)
    (gn : Nat) (u1 u2 u3 u4 u5 u7 u8 u9 u11 u12 u13 u15 u16 u17 u18 u42 u43 u44 u45 u46 u47 u48 u49 u50 u51 u52 u53 u54 u55 u56 u57 u58 u59 u60 u61 u62 u63 u64 u65 u66 u67 u68 u69 u70 u71 u72 u73 u74 u75 u76 u77 u78 u79 u80 u81 u82 u83 u84 u85 u86 u87 u88 u89 u90 u91 u92 u93 u94 u95 u96 u97 u98 u99 u100 u101 u102 u103 u104 u105 u106 u107 u108 u109 u110 u111 u112 u113 u114 u115 u116 u117 u118 u119 u120 u121 u122 u123 u124 u125 u126 u127 u128 u129 u130 u131 u132 u133 u134 : Value) (W0 : World) (h0 : Half w gn (cnt6 ts zs) (bodyB 4 zs ts) W0) :
    Code.wp Tryd.prog T44 (bodyPost Tryd.prog Tryd.f20 (FailPost w V)) ⟨(Value.string (S nm) :: u1 :: u2 :: u3 :: u4 :: u5 :: Value.pointer (some ⟨w.heap.size, 0, none⟩) :: u7 :: u8 :: u9 :: Value.pointer (some ⟨gn, 0, none⟩) :: u11 :: u12 :: u13 :: Value.bool false :: u15 :: u16 :: u17 :: u18 :: Value.int .i64 4 :: undef :: undef :: undef :: undef :: undef :: undef :: undef :: undef :: undef :: undef :: undef :: undef :: undef :: undef :: undef :: undef :: undef :: undef :: undef :: undef :: undef :: undef :: u42 :: u43 :: u44 :: u45 :: u46 :: u47 :: u48 :: u49 :: u50 :: u51 :: u52 :: u53 :: u54 :: u55 :: u56 :: u57 :: u58 :: u59 :: u60 :: u61 :: u62 :: u63 :: u64 :: u65 :: u66 :: u67 :: u68 :: u69 :: u70 :: u71 :: u72 :: u73 :: u74 :: u75 :: u76 :: u77 :: u78 :: u79 :: u80 :: u81 :: u82 :: u83 :: u84 :: u85 :: u86 :: u87 :: u88 :: u89 :: u90 :: u91 :: u92 :: u93 :: u94 :: u95 :: u96 :: u97 :: u98 :: u99 :: u100 :: u101 :: u102 :: u103 :: u104 :: u105 :: u106 :: u107 :: u108 :: u109 :: u110 :: u111 :: u112 :: u113 :: u114 :: u115 :: u116 :: u117 :: u118 :: u119 :: u120 :: u121 :: u122 :: u123 :: u124 :: u125 :: u126 :: u127 :: u128 :: u129 :: u130 :: u131 :: u132 :: u133 :: u134 :: undef :: undef :: undef :: undef :: undef :: undef :: undef :: undef :: undef :: undef :: undef :: undef :: undef :: undef :: undef :: undef :: undef :: undef :: undef :: undef :: undef :: undef :: undef :: undef :: undef :: undef :: undef :: undef :: undef :: undef :: undef :: undef :: undef :: undef :: undef :: undef :: undef :: undef :: undef :: undef :: undef :: undef :: undef :: undef :: undef :: undef :: undef :: undef :: undef :: undef :: undef :: undef :: undef :: undef :: undef :: undef :: undef :: undef :: undef :: undef :: undef :: undef :: undef :: undef :: undef :: undef :: undef :: undef :: undef :: undef :: undef :: undef :: undef :: undef :: undef :: undef :: undef :: undef :: undef :: undef :: undef :: undef :: undef :: undef :: undef :: undef :: undef :: undef :: undef :: undef :: undef :: undef :: undef :: undef :: undef :: undef :: undef :: undef :: undef :: undef :: undef :: undef :: undef :: undef :: undef :: undef :: undef :: undef :: undef :: undef :: undef :: undef :: undef :: undef :: undef :: undef :: undef :: undef :: undef :: undef :: undef :: undef :: undef :: undef :: undef :: undef :: undef :: undef :: undef :: undef :: undef :: undef :: undef :: undef :: undef :: undef :: undef :: undef :: undef :: undef :: undef :: undef :: undef :: undef :: undef :: undef :: undef :: undef :: undef :: undef :: undef :: undef :: undef :: undef :: undef :: undef :: undef :: undef :: undef :: undef :: undef :: undef :: undef :: undef :: undef :: undef :: undef :: undef :: undef :: undef :: undef :: undef :: undef :: undef :: undef :: undef :: undef :: undef :: undef :: undef :: undef :: undef :: undef :: undef :: undef :: undef :: undef :: undef :: undef :: undef :: undef :: undef :: undef :: undef :: undef :: undef :: undef :: undef :: undef :: undef :: undef :: undef :: undef :: undef :: undef :: undef :: undef :: undef :: undef :: undef :: undef :: undef :: undef :: undef :: undef :: undef :: undef :: undef :: []).toArray, []⟩ W0 := by
  have htl := times_len 4 ts
  have hil := ixs_len ts
  have hkl := kinds_len zs 0
  have l1 : (bodyB 4 zs ts).length ≤ 100000 := by unfold bodyB; simp only [List.length_append]; omega
  unfold bodyB at h0 l1
  have l2 : (ixsB ts ++ (kindsB zs 0 ++ charsB zs)).length ≤ 100000 := by simp only [List.length_append] at l1 ⊢; omega
  have l3 : (kindsB zs 0 ++ charsB zs).length ≤ 100000 := by simp only [List.length_append] at l1 ⊢; omega
  have HE := Lib.hid (List.append_nil (charsB zs))
  have RD := fun (a b : Bs) (W : World) (h : Half w gn (cnt6 ts zs) (a ++ b) W) => read_half (w := w) (W := W) (gn := gn) (cs := cnt6 ts zs) a b h
  have R1 := Lib.hid (fun n hn => RD _ _ _ h0 (by omega) n hn)
  have R2 := Lib.hid (fun W h n hn => RD (ixsB ts) (kindsB zs 0 ++ charsB zs) W h (by omega) n hn)
  have R3 := Lib.hid (fun W h n hn => RD (kindsB zs 0) (charsB zs) W h (by omega) n hn)
  have R4 := Lib.hid (fun W (h : Half w gn (cnt6 ts zs) (charsB zs) W) n hn => RD (charsB zs) [] W (by rw [HE.out]; exact h) (by rw [HE.out]; omega) n hn)
  have R0 := Lib.hid (fun W h n hn => RD [] [] W h (by simp) n hn)
  have HTL := Lib.hid htl
  have HIL := Lib.hid hil
  have HKL := Lib.hid hkl
  have HV := Lib.hid hV
  obtain ⟨⟨c0, c1, c2⟩, c3, c4, c5⟩ := cnt6_cells h0.st.1
  have hgn0 := h0.st.1.lt
  clear htl hil hkl l1 l2 l3 RD h0 hV
  conv => arg 2; whnf

  go_wp2_with fail
  refine (R1.out _ (by rw [HTL.out]; omega)).mono ?_
  rintro e w1 ⟨A1, n1, q1, rfl, H1⟩
  clear c0 c1 c2 c3 c4 c5
  obtain ⟨⟨c0, c1, c2⟩, c3, c4, c5⟩ := cnt6_cells H1.st.1
  have hgn1 := H1.st.1.lt
  go_wp2_with fail
  refine (R2.out _ (H1.alloc _) _ (by rw [HIL.out])).mono ?_
  rintro e w2 ⟨A2, n2, q2, rfl, H2⟩
  clear c0 c1 c2 c3 c4 c5
  obtain ⟨⟨c0, c1, c2⟩, c3, c4, c5⟩ := cnt6_cells H2.st.1
  have hgn2 := H2.st.1.lt
  go_wp2_with fail
  refine (R3.out _ H2 _ (by rw [HKL.out]; omega)).mono ?_
  rintro e w3 ⟨A3, n3, q3, rfl, H3⟩
  clear c0 c1 c2 c3 c4 c5
  obtain ⟨⟨c0, c1, c2⟩, c3, c4, c5⟩ := cnt6_cells H3.st.1
  have hgn3 := H3.st.1.lt
  go_wp2_with fail
  refine (R4.out _ (H3.alloc _) _ rfl).mono ?_
  rintro e w4 ⟨A4, n4, q4, rfl, H4⟩
  clear c0 c1 c2 c3 c4 c5
  obtain ⟨⟨c0, c1, c2⟩, c3, c4, c5⟩ := cnt6_cells H4.st.1
  have hgn4 := H4.st.1.lt
  go_wp2_with fail
  refine (R0.out _ H4 _ rfl).mono ?_
  rintro e w5 ⟨A5, n5, q5, rfl, H5⟩
  clear c0 c1 c2 c3 c4 c5
  obtain ⟨⟨c0, c1, c2⟩, c3, c4, c5⟩ := cnt6_cells H5.st.1
  have hgn5 := H5.st.1.lt
  go_wp2_with fail
  refine (R0.out _ H5 _ rfl).mono ?_
  rintro e w6 ⟨A6, n6, q6, rfl, H6⟩
  clear c0 c1 c2 c3 c4 c5
  obtain ⟨⟨c0, c1, c2⟩, c3, c4, c5⟩ := cnt6_cells H6.st.1
  have hgn6 := H6.st.1.lt
  go_wp2_with fail
  refine (R0.out _ H6 _ rfl).mono ?_
  rintro e w7 ⟨A7, n7, q7, rfl, H7⟩
  clear c0 c1 c2 c3 c4 c5
  obtain ⟨⟨c0, c1, c2⟩, c3, c4, c5⟩ := cnt6_cells H7.st.1
  have hgn7 := H7.st.1.lt
  have HN := H7.nil
  obtain ⟨Ad, cd, d0, d1, df, _⟩ := HN.1.cells
  have hb := Lib.hid HN.2.2.1
  have hv0 : w7.cell? ⟨0, 0, none⟩ = some V := (hb.out.cell (p := ⟨0, 0, none⟩) hw0).trans HV.out
  clear H1 H2 H3 H4 H5 H6 H7 HN c0 c1 c2 c3 c4 c5
  go_wp2_with fail
  go_quiet (fail)
  go_wp2_with fail
  go_ret2
  exact ⟨rfl, below_drewN hb.out _⟩

set_option maxRecDepth 1000000 in
set_option maxHeartbeats 16000000 in
theorem cutHead (w : World) (nm : Bs) (V : Value) (ns : List Int) (hns : ns.length = 6) (hni : ∀ (j : Nat) (n : Int), ns[j]? = some n → 0 ≤ n ∧ n ≤ 1000) (m : Nat) (hm : m < 24)
    (hV : w.cell? ⟨0, 0, none⟩ = some V) (hw0 : 0 < w.heap.size)
    (v : Value) (hv : Slb w w.heap.size v (headB 0 ++ (countsB ns).take m)) :
    Calls Tryd.prog 20 #[.string (S nm), v] w (FailPost w V) := by
  have HNI_ns := Lib.hid hni
  have HNL_ns := Lib.hid hns
  have HV := Lib.hid hV
  have HCL := Lib.hid (show (countsB ns).length = 24 by rw [counts_len, hns])
  have hC0 : (countsB ns).take m = (countsB (ns.drop 0)).take (m - 4 * 0) := rfl
  rw [hC0] at hv
  clear hni hns hV hC0
  generalize hR : (countsB (ns.drop 0)).take (m - 4 * 0) = R at *
  have hRR : R.length ≤ 4611686018427380000 := by rw [← hR, List.length_take]; omega
  have HR := Lib.hid hR
  clear hR
  rw [show headB 0 ++ R = [84, 90, 105, 102] ++ ((0 :: byB 0 15) ++ R) from rfl] at hv
  obtain ⟨A, cap, rfl, hr, hc⟩ := hv
  have hD0 := Dio.new w A cap _ hr hc
  have hRl : R.length ≤ 4611686018427380000 := hRR
  have h16 : (0 :: byB 0 15 : List UInt8).length = 16 := rfl
  have hL : ([84, 90, 105, 102] ++ ((0 :: byB 0 15) ++ R) : Bs).length = 20 + R.length := by simp only [List.length_append, h16, List.length_cons, List.length_nil]; omega
  have H1 := Lib.hid (read_ok [84, 90, 105, 102] ((0 :: byB 0 15) ++ R) false _ _ _ hD0 (by rw [hL]; omega) 4 rfl)
  have H2 := Lib.hid (fun W h => read_ok (0 :: byB 0 15) R false w.heap.size w.heap.size W h (by rw [List.length_append, h16]; omega) 16 rfl)
  have hb0 : Below w.heap.size w (w.alloc (.cells #[.slice A ([84, 90, 105, 102] ++ ((0 :: byB 0 15) ++ R) : Bs).length cap, .bool false] 59)) := (Below.refl _ _).alloc (Nat.le_refl _) _
  clear hr hD0 hc hL hRR
  generalize ([84, 90, 105, 102] ++ ((0 :: byB 0 15) ++ R) : Bs).length = L at *
  go_enter Tryd.func20, Tryd.ntmps20
  go_wp2_with fail
  refine H1.out.mono ?_
  rintro e w1 ⟨⟨v1, rfl, A1, q1, rfl, hr1, _⟩, hd1, hg1⟩
  have hb1 := grown_below hb0 hg1 (Nat.le_refl _)
  have hcv : ∀ c, (convert 42 9 (.slice A1 4 c)).run Tryd.prog w1 = .ok (.string (S [84, 90, 105, 102])) w1 := conv_rb hr1
  have HD1 := Lib.hid hd1
  have HB1 := Lib.hid hb1
  clear hb0 hg1 hd1 hb1 hr1 H1
  go_wp2_with fail
  refine (H2.out _ HD1.out).mono ?_
  rintro e w2 ⟨⟨v2, rfl, A2, q2, rfl, hr2, _⟩, hd2, hg2⟩
  obtain ⟨gd, od, rfl, _, hcs⟩ := hr2.at (k := 0) (b := 0) rfl
  have e0 := hcs 0 0 rfl
  rw [Nat.add_zero] at e0
  have HD2 := Lib.hid hd2
  have HB2 := Lib.hid (grown_below HB1.out hg2 (Nat.le_refl _))
  have hlt2 := hd2.lt
  clear HB1 hg2 hd2 hcs hr2 H2 HD1 hcv
  go_wp2_with fail
  have hlt0 := HB2.out.size
  have HB3 := HB2.out.alloc hlt0 (.cells #[.int .i64 0, .int .i64 0, .int .i64 0, .int .i64 0, .int .i64 0, .int .i64 0] 61)
  have HD3 := Lib.hid (HD2.out.alloc (.cells #[.int .i64 0, .int .i64 0, .int .i64 0, .int .i64 0, .int .i64 0, .int .i64 0] 61))
  have HN3 := Blk.new w2 61 #[.int .i64 0, .int .i64 0, .int .i64 0, .int .i64 0, .int .i64 0, .int .i64 0] _ rfl
  clear e0 HB2 HD2
  generalize hgn : w2.heap.size = gn at *
  clear hgn

  go_loopw [11] (fun i W => ∃ j : Nat, 4 * j ≤ m ∧ i = .int .i64 j ∧ Hid (Dio W w.heap.size w.heap.size ((countsB (ns.drop j)).take (m - 4 * j)) false) ∧ Blk W gn 61 (nC [0, 0, 0, 0, 0, 0] ns j) ∧ Below w.heap.size w W) (fun i _ => 6 - (intOf i).toNat)
  case atStart => exact ⟨0, Nat.zero_le _, rfl, by rw [HR.out]; exact HD3, HN3, HB3⟩
  case round =>
    obtain ⟨j, hj, rfl, HD, HB, hb⟩ := hrel
    have hltn := HB.lt
    have hltd := HD.out.lt
    have hszw := hb.size
    have hlt : j < 6 := by omega
    obtain ⟨n, hn'⟩ : ∃ n, ns[j]? = some n := ⟨_, List.getElem?_eq_getElem (by rw [HNL_ns.out]; exact hlt)⟩
    by_cases hm4 : 4 * (j + 1) ≤ m
    · have hnr := HNI_ns.out j n hn'
      have HD := HD.out
      have e : (countsB (ns.drop j)).take (m - 4 * j) = byB n 4 ++ (countsB (ns.drop (j + 1))).take (m - 4 * (j + 1)) := by
        rw [counts_drop ns j n hn', List.take_append, List.take_of_length_le (by rw [byB_len]; omega), byB_len]
        congr 2
      rw [e] at HD
      have hrest : ((countsB (ns.drop (j + 1))).take (m - 4 * (j + 1))).length ≤ 4611686018427387000 := by
        rw [List.length_take]; omega
      have HC := Lib.hid (big4_by n _ false _ _ _ HD hrest)
      have HSET := Lib.hid (nC_set [0, 0, 0, 0, 0, 0] ns rfl HNL_ns.out j n hn')
      have hmod : n % 4294967296 = n := by omega
      obtain ⟨bj, hbj⟩ := nC_at [0, 0, 0, 0, 0, 0] ns rfl HNL_ns.out j hlt
      have HAT := Lib.hid hbj
      have HB' := Lib.hid HB
      have HBB := Lib.hid hb
      clear HD HB hb hn' hrest hbj e
      go_wp2_with fail
      refine HC.out.mono ?_
      rintro e w3 ⟨rfl, hd3, hg3⟩
      have hgr := hg3.size
      have HBk := HB'.out.grown hg3 (by intro e; injection e with e; omega)
      have f0 := HBk.cell j
      rw [HAT.out] at f0
      have f1 := HBk.frozen j
      have HG3 := Lib.hid hg3
      have HD3 := Lib.hid hd3
      clear hg3 hd3
      go_wp2_with fail
      go_roundw
      case rel => exact ⟨j + 1, by omega, by go_num, Lib.hid (HD3.out.other _ (by show _ ≠ gn; omega) (by show _ ≤ gn; omega) _), by rw [← HSET.out]; exact HBk.set j _, (grown_below HBB.out HG3.out (Nat.le_refl _)).setCell (by show _ ≤ gn; omega) _⟩
      case measure => simp [intOf]; omega
    · have HC := Lib.hid (big4_short _ false _ _ _ HD.out (by rw [List.length_take]; omega))
      have HBB := Lib.hid hb
      clear HD HB hb hn'
      go_wp2_with fail
      refine HC.out.mono ?_
      rintro e w3 ⟨rfl, hd3, hg3⟩
      have hB3 := Lib.hid (grown_below HBB.out hg3 (Nat.le_refl _))
      have hv0 : w3.cell? ⟨0, 0, none⟩ = some V := (hB3.out.cell (p := ⟨0, 0, none⟩) hw0).trans HV.out
      clear hg3 hd3
      go_wp2_with fail
      go_quiet (fail)
      go_wp2_with fail
      go_ret2
      exact ⟨rfl, below_drewN hB3.out _⟩

set_option maxRecDepth 1000000 in
set_option maxHeartbeats 4000000 in
theorem magic_short (w : World) (nm : Bs) (V : Value) (l : Bs) (hl : l.length < 4) (hV : w.cell? ⟨0, 0, none⟩ = some V) (hw0 : 0 < w.heap.size) (v : Value) (hv : Slb w w.heap.size v l) :
    Calls Tryd.prog 20 #[.string (S nm), v] w (FailPost w V) := by
  obtain ⟨A, cap, rfl, hr, hc⟩ := hv
  have H1 := Lib.hid (read_short l false _ _ _ (Dio.new w A cap _ hr hc) 4 (by omega))
  have hb0 : Below w.heap.size w (w.alloc (.cells #[.slice A l.length cap, .bool false] 59)) := (Below.refl _ _).alloc (Nat.le_refl _) _
  have HV := Lib.hid hV
  clear hr hc hV
  go_enter Tryd.func20, Tryd.ntmps20
  go_wp2_with fail
  refine H1.out.mono ?_
  rintro e w1 ⟨rfl, hd1, hg1⟩
  have hb1 := Lib.hid (grown_below hb0 hg1 (Nat.le_refl _))
  have hv0 : w1.cell? ⟨0, 0, none⟩ = some V := (hb1.out.cell (p := ⟨0, 0, none⟩) hw0).trans HV.out
  have hcv : (convert 42 9 (.slice none 0 0)).run Tryd.prog w1 = .ok (.string (S [])) w1 := conv_rb (Rb.nil w1 0) 0
  clear hb0 hg1 hd1 H1
  go_wp2_with fail
  go_quiet (fail)
  go_wp2_with fail
  go_ret2
  exact ⟨rfl, below_drewN hb1.out _⟩
set_option maxRecDepth 1000000 in
set_option maxHeartbeats 4000000 in
theorem magic_other (w : World) (nm : Bs) (V : Value) (a b : Bs) (ha : a.length = 4) (hne : a ≠ [84, 90, 105, 102]) (hb : b.length ≤ 4611686018427380000) (hV : w.cell? ⟨0, 0, none⟩ = some V) (hw0 : 0 < w.heap.size) (v : Value) (hv : Slb w w.heap.size v (a ++ b)) :
    Calls Tryd.prog 20 #[.string (S nm), v] w (FailPost w V) := by
  obtain ⟨A, cap, rfl, hr, hc⟩ := hv
  have H1 := Lib.hid (read_ok a b false _ _ _ (Dio.new w A cap _ hr hc) (by rw [List.length_append]; omega) 4 (by omega))
  have hb0 : Below w.heap.size w (w.alloc (.cells #[.slice A (a ++ b).length cap, .bool false] 59)) := (Below.refl _ _).alloc (Nat.le_refl _) _
  have HV := Lib.hid hV
  have HA := Lib.hid ha
  have hq : ((a : List UInt8) == [84, 90, 105, 102]) = false := by rw [beq_eq_false_iff_ne]; exact hne
  have hq2 : ¬ a = [84, 90, 105, 102] := hne
  clear hr hc hV ha hne
  generalize (a ++ b).length = L at *
  go_enter Tryd.func20, Tryd.ntmps20
  go_wp2_with fail
  refine H1.out.mono ?_
  rintro e w1 ⟨⟨v1, rfl, A1, q1, rfl, hr1, _⟩, hd1, hg1⟩
  have hb1 := Lib.hid (grown_below hb0 hg1 (Nat.le_refl _))
  have hv0 : w1.cell? ⟨0, 0, none⟩ = some V := (hb1.out.cell (p := ⟨0, 0, none⟩) hw0).trans HV.out
  have hcv : ∀ c, (convert 42 9 (.slice A1 a.length c)).run Tryd.prog w1 = .ok (.string (S a)) w1 := conv_rb hr1
  clear hb0 hg1 hd1 H1 hr1
  go_wp2_with fail
  go_quiet (fail)
  go_wp2_with fail
  go_ret2
  exact ⟨rfl, below_drewN hb1.out _⟩
set_option maxRecDepth 1000000 in
set_option maxHeartbeats 4000000 in
theorem version_short (w : World) (nm : Bs) (V : Value) (b : Bs) (hb : b.length < 16) (hV : w.cell? ⟨0, 0, none⟩ = some V) (hw0 : 0 < w.heap.size) (v : Value) (hv : Slb w w.heap.size v ([84, 90, 105, 102] ++ b)) :
    Calls Tryd.prog 20 #[.string (S nm), v] w (FailPost w V) := by
  obtain ⟨A, cap, rfl, hr, hc⟩ := hv
  have H1 := Lib.hid (read_ok [84, 90, 105, 102] b false _ _ _ (Dio.new w A cap _ hr hc) (by rw [List.length_append, List.length_cons, List.length_cons, List.length_cons, List.length_cons, List.length_nil]; omega) 4 rfl)
  have H2 := Lib.hid (fun W h => read_short b false w.heap.size w.heap.size W h 16 (by omega))
  have hb0 : Below w.heap.size w (w.alloc (.cells #[.slice A ([84, 90, 105, 102] ++ b : Bs).length cap, .bool false] 59)) := (Below.refl _ _).alloc (Nat.le_refl _) _
  have HV := Lib.hid hV
  clear hr hc hV
  generalize ([84, 90, 105, 102] ++ b : Bs).length = L at *
  go_enter Tryd.func20, Tryd.ntmps20
  go_wp2_with fail
  refine H1.out.mono ?_
  rintro e w1 ⟨⟨v1, rfl, A1, q1, rfl, hr1, _⟩, hd1, hg1⟩
  have hb1 := grown_below hb0 hg1 (Nat.le_refl _)
  have hcv : ∀ c, (convert 42 9 (.slice A1 4 c)).run Tryd.prog w1 = .ok (.string (S [84, 90, 105, 102])) w1 := conv_rb hr1
  have HD1 := Lib.hid hd1
  have HB1 := Lib.hid hb1
  clear hb0 hg1 hd1 hb1 hr1 H1
  go_wp2_with fail
  refine (H2.out _ HD1.out).mono ?_
  rintro e w2 ⟨rfl, hd2, hg2⟩
  have hB2 := Lib.hid (grown_below HB1.out hg2 (Nat.le_refl _))
  have hv0 : w2.cell? ⟨0, 0, none⟩ = some V := (hB2.out.cell (p := ⟨0, 0, none⟩) hw0).trans HV.out
  clear hd2 hg2 hcv
  go_wp2_with fail
  go_quiet (fail)
  go_wp2_with fail
  go_ret2
  exact ⟨rfl, below_drewN hB2.out _⟩

theorem load_cut (w : World) (nm : Bs) (zs : List Zo) (ts : List Tr) (V : Value) (hz : zs.length ≤ 200) (ht : ts.length ≤ 1000) (hn : (charsB zs).length ≤ 255)
    (hV : w.cell? ⟨0, 0, none⟩ = some V) (hw0 : 0 < w.heap.size) (n : Nat) (hlt : n < (blockB 0 4 zs ts).length) (v : Value) (hv : Slb w w.heap.size v ((blockB 0 4 zs ts).take n)) :
    Calls Tryd.prog 20 #[.string (S nm), v] w (FailPost w V) := by
  have hbl : (bodyB 4 zs ts).length ≤ 100000 := by
    have htl := times_len 4 ts
    have hil := ixs_len ts
    have hkl := kinds_len zs 0
    unfold bodyB; simp only [List.length_append]; omega
  have hcl : (countsB (cntL ts.length zs.length (charsB zs).length)).length = 24 := rfl
  have hhl : (headB 0).length = 20 := rfl
  by_cases h4 : n < 4
  · exact magic_short w nm V _ (by rw [List.length_take]; omega) hV hw0 v hv
  by_cases h20 : n < 20
  · have e : (blockB 0 4 zs ts).take n = [84, 90, 105, 102] ++ (([0] ++ byB 0 15) ++ (countsB (cntL ts.length zs.length (charsB zs).length) ++ bodyB 4 zs ts)).take (n - 4) := by
      unfold blockB headB
      rw [List.append_assoc, List.take_append, List.take_of_length_le (by show 4 ≤ n; omega)]
      rfl
    rw [e] at hv
    exact version_short w nm V _ (by rw [List.length_take]; omega) hV hw0 v hv
  by_cases h44 : n < 44
  · have e : (blockB 0 4 zs ts).take n = headB 0 ++ (countsB (cntL ts.length zs.length (charsB zs).length)).take (n - 20) := by
      unfold blockB
      rw [List.take_append, List.take_of_length_le (by rw [hhl]; omega), hhl, List.take_append, hcl, show n - 20 - 24 = 0 by omega, List.take_zero, List.append_nil]
    rw [e] at hv
    exact cutHead w nm V _ rfl (fun j n h => cntL_in _ _ _ ht hz hn j n h) (n - 20) (by omega) hV hw0 v hv
  · have e : (blockB 0 4 zs ts).take n = headB 0 ++ (countsB (cntL ts.length zs.length (charsB zs).length) ++ (bodyB 4 zs ts).take (n - 44)) := by
      unfold blockB
      rw [List.take_append, List.take_of_length_le (by rw [hhl]; omega), hhl, List.take_append, List.take_of_length_le (by rw [hcl]; omega), hcl, show n - 20 - 24 = n - 44 by omega]
    rw [e] at hv
    have hm : n - 44 < (bodyB 4 zs ts).length := by
      unfold blockB at hlt
      rw [List.length_append, List.length_append, hhl, hcl] at hlt
      omega
    refine head1 _ w nm ((bodyB 4 zs ts).take (n - 44)) zs ts hz ht hn (by have := List.length_take_le (n - 44) (bodyB 4 zs ts); omega) ?_ v hv
    intro gn
    intros
    exact cut44 w nm zs ts V hz ht hn hV hw0 gn _ _ _ _ _ _ _ _ _ _ _ _ _ _ _ _ _ _ _ _ _ _ _ _ _ _ _ _ _ _ _ _ _ _ _ _ _ _ _ _ _ _ _ _ _ _ _ _ _ _ _ _ _ _ _ _ _ _ _ _ _ _ _ _ _ _ _ _ _ _ _ _ _ _ _ _ _ _ _ _ _ _ _ _ _ _ _ _ _ _ _ _ _ _ _ _ _ _ _ _ _ _ _ _ _ _ _ _ _ (.inl ⟨_, hm, by assumption⟩)
end Go.Proofs.YtgmlclhdibajiaaDoor
