/- Words for the laws on files; the law's own 'loads'. -/
import Derived.Test.YtgmlclhdibajiaaDoorILoad
import Derived.Test.YtgmlclhdibajiaaDoorFileOk
import Derived.Test.YtgmlclhdibajiaaDoorFilC
namespace Go.Proofs.YtgmlclhdibajiaaDoor
open Go.RowKit

theorem fileOkB_all (p : Pl) (small : Bool) (h : fileOkB p small = true) : zsOk p.zs ∧ p.ts.length ≤ 1000 ∧ (∀ t ∈ p.ts, t.ix < p.zs.length) ∧ (small = true → ∀ t ∈ p.ts, -2147483648 ≤ t.at_ ∧ t.at_ ≤ 2147483647) ∧ plOk p ∧ (∀ b ∈ p.ext, b ≠ 10) := by
  simp only [fileOkB, Bool.and_eq_true, List.all_eq_true, decide_eq_true_eq] at h
  obtain ⟨⟨⟨⟨h1, h2⟩, h3⟩, h4⟩, h5⟩ := h
  have hp := (plOkB_iff p).1 h5
  refine ⟨⟨hp.2.2.1, h4, fun z hz b hb => ?_, hp.1⟩, hp.2.2.2, fun t ht => ?_, fun hs t ht => ?_, hp, fun b hb => ?_⟩
  · have := h1 z hz
    simp only [nmB, List.all_eq_true, nzB, decide_eq_true_eq] at this
    exact this b hb
  · obtain ⟨k, hk⟩ := List.getElem?_of_mem ht
    exact (hp.2.1 k t hk).1
  · have := h2 t ht
    subst hs
    simpa [smB] using this
  · have := h3 b hb
    simpa [nlB] using this
theorem reads1 (V : Value) (nm : Bs) (zs : List Zo) (ts : List Tr) (hzs : zsOk zs) (ht : ts.length ≤ 1000) (hix : ∀ t ∈ ts, t.ix < zs.length) (hta : ∀ t ∈ ts, -2147483648 ≤ t.at_ ∧ t.at_ ≤ 2147483647) : Reads V nm (blockB 0 4 zs ts) ⟨nm, zs, tsAll ts, []⟩ :=
  fun w v hV hw hv => load1_ok w nm zs ts V hzs ht hix hta hV hw v hv
theorem reads2 (V : Value) (nm ext : Bs) (hext : ext.length ≤ 4294967296) (z0 : Zo) (hn0 : (charsB [z0]).length ≤ 255) (zs : List Zo) (ts : List Tr) (hzs : zsOk zs) (ht : ts.length ≤ 1000) (hix : ∀ t ∈ ts, t.ix < zs.length) (hta : ∀ t ∈ ts, -9223372036854775808 ≤ t.at_ ∧ t.at_ ≤ 9223372036854775807) : Reads V nm (file2D z0 zs ts ext) ⟨nm, zs, tsAll ts, ext⟩ :=
  fun w v hV hw hv => load2_ok w nm ext hext z0 hn0 zs ts V hzs ht hix hta hV hw v hv
theorem tsAll_len (ts : List Tr) (h : ts.length ≤ 1000) : (tsAll ts).length ≤ 1000 := by unfold tsAll; split <;> simp_all
theorem tsAll_ne (ts : List Tr) (h : ts ≠ []) : tsAll ts = ts := by unfold tsAll; rw [if_neg h]
/-- the place of the law's own 'loads' -/
def pl0 : Pl := ⟨[], [⟨[65, 66, 67], 60, false⟩], [], []⟩
theorem zsOk0 : zsOk pl0.zs := ⟨⟨by decide, by decide⟩, by decide, by decide, by decide⟩

set_option maxRecDepth 100000 in
set_option maxHeartbeats 2000000 in
theorem loads_ret (V : Value) (w : World) (hV : w.cell? ⟨0, 0, none⟩ = some V) (hw0 : 0 < w.heap.size) :
    Calls Tryd.prog 12 #[] w fun e w' => e = .returned (.bool true) ∧ Below w.heap.size w w' := by
  have hb0 : Below w.heap.size w (w.alloc (.cells #[.string (S [65, 66, 67]), .int .i64 60, .bool false] 45)) := (Below.refl _ _).alloc (Nat.le_refl _) _
  have B0 : Blk (w.alloc (.cells #[.string (S [65, 66, 67]), .int .i64 60, .bool false] 45)) w.heap.size 45 (zosC pl0.zs).toArray := Blk.new w _ _ _ rfl
  have hR : PlIn (w.alloc (.cells #[.string (S [65, 66, 67]), .int .i64 60, .bool false] 45)) (w.alloc (.cells #[.string (S [65, 66, 67]), .int .i64 60, .bool false] 45)).heap.size pl0 ⟨some ⟨w.heap.size, 0, none⟩, 1, none, 0⟩ := ⟨rd_blk B0 _, fun h => absurd h (Nat.lt_irrefl 0), fun t h => by cases h⟩
  have HC := Lib.hid (show Calls Tryd.prog 16 #[.agg #[.string ⟨#[]⟩, .slice (some ⟨w.heap.size, 0, none⟩) 1 1, .slice none 0 0, .string ⟨#[]⟩]] _ _ from File1_ret pl0 ⟨some ⟨w.heap.size, 0, none⟩, 1, none, 0⟩ _ _ (Nat.le_refl _) hR (by decide) (by decide) (by decide))
  have HL := Lib.hid (fun (W : World) (hb : Below w.heap.size w W) => show Calls Tryd.prog 13 #[.string ⟨#[]⟩, .string (S (file1B pl0))] W _ from implLoad_ok V [] (file1B pl0) ⟨[], pl0.zs, tsAll [], []⟩ (by decide) (by decide) (reads1 V [] pl0.zs [] zsOk0 (by decide) (fun t h => by cases h) (fun t h => by cases h)) W ((hb.cell (p := ⟨0, 0, none⟩) hw0).trans hV) (by have := hb.size; omega))
  have HB0 := Lib.hid hb0
  clear hR B0 hb0 hV
  generalize file1B pl0 = D at *
  change Hid (Calls _ _ _ (w.alloc (.cells #[.string (S [65, 66, 67]), .int .i64 60, .bool false] 45)) _) at HC
  unfold S at HC HB0
  go_enter Tryd.func12, Tryd.ntmps12
  go_wp2_with fail
  refine HC.out.mono ?_
  rintro e w1 ⟨rfl, hb1⟩
  have hb2 := Lib.hid (HB0.out.trans (hb1.mono HB0.out.size))
  have HL1 := Lib.hid (HL.out _ hb2.out)
  clear hb1 HC HL HB0
  go_wp2_with fail
  refine HL1.out.mono ?_
  rintro e w2 ⟨⟨Q1, q1, Q2, q2⟩, rfl, _, hb3⟩
  have hb4 := hb2.out.trans (hb3.mono hb2.out.size)
  clear hb3 HL1
  unfold plA
  dsimp only
  go_wp2_with fail
  go_ret
  exact ⟨rfl, hb4.alloc hb4.size _⟩

section
variable {w : World} {p : Pl} {a : Ad}
theorem fits_in (hR : PlIn w w.heap.size p a) (W : World) (h : InP w p a W) : Calls Tryd.prog 10 #[plA p a] W fun e W' => e = .returned (.bool (fits2 p)) ∧ InP w p a W' :=
  (zzFits2_ret p a W w.heap.size h.2.size (hR.below h.2 (Nat.le_refl _))).mono fun _ _ ⟨he, hb⟩ => ⟨he, h.below hb⟩
theorem fok_in (hR : PlIn w w.heap.size p a) (hf : fits2 p = true) (small : Bool) (W : World) (h : InP w p a W) : Calls Tryd.prog 11 #[plA p a, .bool small] W fun e W' => e = .returned (.bool (fileOkB p small)) ∧ InP w p a W' := by
  obtain ⟨_, hz, ht, he, hn⟩ := fits2_all p hf
  exact (FileOk_ret p small a W w.heap.size h.2.size (hR.below h.2 (Nat.le_refl _)) hz ht he hn).mono fun _ _ ⟨he, hb⟩ => ⟨he, h.below hb⟩
theorem loads_in {V : Value} (hV : w.cell? ⟨0, 0, none⟩ = some V) (hw0 : 0 < w.heap.size) (W : World) (h : InP w p a W) : Calls Tryd.prog 12 #[] W fun e W' => e = .returned (.bool true) ∧ InP w p a W' :=
  (loads_ret V W ((h.2.cell (p := ⟨0, 0, none⟩) hw0).trans hV) (by have := h.2.size; omega)).mono fun _ _ ⟨he, hb⟩ => ⟨he, h.below hb⟩
theorem file1_in (hR : PlIn w w.heap.size p a) (hz : p.zs.length ≤ 200) (ht : p.ts.length ≤ 1000) (hn : (charsB p.zs).length ≤ 255) (W : World) (h : InP w p a W) : Calls Tryd.prog 16 #[plA p a] W fun e W' => e = .returned (.string (S (file1B p))) ∧ InP w p a W' :=
  (File1_ret p a W w.heap.size h.2.size (hR.below h.2 (Nat.le_refl _)) hz ht hn).mono fun _ _ ⟨he, hb⟩ => ⟨he, h.below hb⟩
theorem load_in {V : Value} (hV : w.cell? ⟨0, 0, none⟩ = some V) (hw0 : 0 < w.heap.size) (nm D : Bs) (q : Pl) (hz : (q.zs.length : Int) ≤ 2147483647) (ht : (q.ts.length : Int) ≤ 2147483647) (HL : Reads V nm D q) (W : World) (h : InP w p a W) :
    Calls Tryd.prog 13 #[.string (S nm), .string (S D)] W fun e W' => ∃ A : Ad, e = .returned (.tuple #[plA q A, .bool true]) ∧ PlIn W' W'.heap.size q A ∧ InP w p a W' :=
  (implLoad_ok V nm D q hz ht HL W ((h.2.cell (p := ⟨0, 0, none⟩) hw0).trans hV) (by have := h.2.size; omega)).mono fun _ _ ⟨A, he, hP, hb⟩ => ⟨A, he, hP, h.below hb⟩
theorem loadbad_in {T : TypeId} {x : Value} (hV : w.cell? ⟨0, 0, none⟩ = some (.iface T x)) (hw0 : 0 < w.heap.size) (nm D : Bs) (HL : Fails (.iface T x) nm D) (W : World) (h : InP w p a W) :
    Calls Tryd.prog 13 #[.string (S nm), .string (S D)] W fun e W' => e = .returned (.tuple #[.agg #[.string ⟨#[]⟩, .slice none 0 0, .slice none 0 0, .string ⟨#[]⟩], .bool false]) ∧ InP w p a W' :=
  (implLoad_bad T x nm D HL W ((h.2.cell (p := ⟨0, 0, none⟩) hw0).trans hV) (by have := h.2.size; omega)).mono fun _ _ ⟨he, hb⟩ => ⟨he, h.below hb⟩
theorem InP.put03 {W : World} (h : InP w p a W) (nm : Bs) : InP w ⟨nm, p.zs, p.ts, []⟩ a ((W.setCell ⟨w.heap.size, 0, none⟩ (.string (S nm))).setCell ⟨w.heap.size, 3, none⟩ (.string ⟨#[]⟩)) :=
  ⟨(h.1.set 0 _).set 3 _, (h.2.setCell (p := ⟨w.heap.size, 0, none⟩) (Nat.le_refl _) _).setCell (p := ⟨w.heap.size, 3, none⟩) (Nat.le_refl _) _⟩
theorem InP.put023 {W : World} (h : InP w p a W) (nm : Bs) : InP w ⟨nm, p.zs, [], []⟩ ⟨a.A1, a.c1, none, 0⟩ (((W.setCell ⟨w.heap.size, 0, none⟩ (.string (S nm))).setCell ⟨w.heap.size, 3, none⟩ (.string ⟨#[]⟩)).setCell ⟨w.heap.size, 2, none⟩ (.slice none 0 0)) :=
  ⟨((h.1.set 0 _).set 3 _).set 2 _, ((h.2.setCell (p := ⟨w.heap.size, 0, none⟩) (Nat.le_refl _) _).setCell (p := ⟨w.heap.size, 3, none⟩) (Nat.le_refl _) _).setCell (p := ⟨w.heap.size, 2, none⟩) (Nat.le_refl _) _⟩
theorem InP.put0 {W : World} (h : InP w p a W) (nm : Bs) : InP w ⟨nm, p.zs, p.ts, p.ext⟩ a (W.setCell ⟨w.heap.size, 0, none⟩ (.string (S nm))) :=
  ⟨h.1.set 0 _, h.2.setCell (p := ⟨w.heap.size, 0, none⟩) (Nat.le_refl _) _⟩
theorem InP.put3 {W : World} (h : InP w p a W) : InP w ⟨p.nm, p.zs, p.ts, []⟩ a (W.setCell ⟨w.heap.size, 3, none⟩ (.string ⟨#[]⟩)) :=
  ⟨h.1.set 3 _, h.2.setCell (p := ⟨w.heap.size, 3, none⟩) (Nat.le_refl _) _⟩
theorem InP.froz {W : World} (h : InP w p a W) (i : Nat) : W.frozen? ⟨w.heap.size, i, none⟩ = false := h.1.frozen i
theorem fits2_sub (nm : Bs) (p : Pl) (hn : nm.length ≤ 2147483647) (ts : List Tr) (hts : ts.length ≤ p.ts.length) (ext : Bs) (he : ext.length ≤ p.ext.length) (h : fits2 p = true) : fits2 ⟨nm, p.zs, ts, ext⟩ = true := by
  simp only [fits2, fits, Bool.and_eq_true, decide_eq_true_eq] at h ⊢
  exact ⟨⟨⟨by omega, h.1.1.2⟩, by omega⟩, by omega⟩
end
theorem Rd.take {w : World} {B : Nat} {A : Option Addr} {zs : List Zo} (h : Rd w B A zs.length (zosC zs)) (m : Nat) : Rd w B A (zs.take m).length (zosC (zs.take m)) := fun hn => by
  obtain ⟨ad, e, hb, hc⟩ := h (by rw [List.length_take] at hn; omega)
  refine ⟨ad, e, hb, fun j u hu => hc j u ?_⟩
  have e2 : zosC zs = zosC (zs.take m) ++ zosC (zs.drop m) := by
    unfold zosC
    rw [← List.flatMap_append, List.take_append_drop]
  rw [e2, List.getElem?_append_left (List.getElem?_eq_some_iff.1 hu).1]
  exact hu
theorem blockB_len (ver : UInt8) (size : Nat) (zs : List Zo) (ts : List Tr) (hs : size ≤ 8) (hz : zs.length ≤ 200) (ht : ts.length ≤ 1000) (hn : (charsB zs).length ≤ 255) : (blockB ver size zs ts).length ≤ 20000 := by
  have h1 : (headB ver).length = 20 := rfl
  have h2 : (countsB (cntL ts.length zs.length (charsB zs).length)).length = 24 := rfl
  have htl := times_len size ts
  have hil := ixs_len ts
  have hkl := kinds_len zs 0
  have h3 : ts.length * size ≤ 1000 * 8 := Nat.mul_le_mul ht hs
  unfold blockB bodyB
  simp only [List.length_append]
  omega
theorem charsB_take1 (zs : List Zo) (m : Nat) (hn : (charsB zs).length ≤ 255) : (charsB (zs.take m)).length ≤ 255 := Nat.le_trans (chars_take zs m) hn

set_option maxRecDepth 100000 in
set_option maxHeartbeats 4000000 in
theorem File2_ret (p : Pl) (a : Ad) (w : World) (B : Nat) (hB : B ≤ w.heap.size) (hR : PlIn w B p a) (hcap : p.zs.length ≤ a.c1) (hz0 : 1 ≤ p.zs.length) (hz : p.zs.length ≤ 200) (ht : p.ts.length ≤ 1000) (hn : (charsB p.zs).length ≤ 255) (he : p.ext.length ≤ 2147483647) :
    Calls Tryd.prog 14 #[plA p a] w fun e w' => e = .returned (.string (S (file2B p))) ∧ Below w.heap.size w w' := by
  obtain ⟨A1, k1, A2, k2⟩ := a
  have HB0 := InP.new w p ⟨A1, k1, A2, k2⟩
  have hl1 : (p.zs.take 1).length = 1 := by rw [List.length_take]; omega
  have HB1 : ∀ W, InP w p ⟨A1, k1, A2, k2⟩ W → Calls Tryd.prog 22 #[.agg #[.string ⟨#[]⟩, .slice A1 1 k1, .slice none 0 0, .string ⟨#[]⟩], .int .u8 50, .int .i64 4] W fun e W' => e = .returned (.string (S (blockB 50 4 (p.zs.take 1) []))) ∧ InP w p ⟨A1, k1, A2, k2⟩ W' := fun W h => by
    have hR1 : PlIn W W.heap.size ⟨[], p.zs.take 1, [], []⟩ ⟨A1, k1, none, 0⟩ := ⟨((hR.1.below h.2 hB).more (Nat.le_trans hB h.2.size)).take 1, fun h => absurd h (Nat.lt_irrefl 0), fun t h => by cases h⟩
    have := block_ret ⟨[], p.zs.take 1, [], []⟩ ⟨A1, k1, none, 0⟩ W W.heap.size (Nat.le_refl _) hR1 50 4 (.inl rfl) (by show (p.zs.take 1).length ≤ 200; omega) (Nat.zero_le _) (charsB_take1 p.zs 1 hn)
    unfold plA at this
    dsimp only at this
    rw [hl1] at this
    exact this.mono fun _ _ ⟨he, hb⟩ => ⟨he, h.below hb⟩
  have HB2 : ∀ W, InP w p ⟨A1, k1, A2, k2⟩ W → Calls Tryd.prog 22 #[plA p ⟨A1, k1, A2, k2⟩, .int .u8 50, .int .i64 8] W fun e W' => e = .returned (.string (S (blockB 50 8 p.zs p.ts))) ∧ InP w p ⟨A1, k1, A2, k2⟩ W' := fun W h =>
    (block_ret p ⟨A1, k1, A2, k2⟩ W B (Nat.le_trans hB h.2.size) (hR.below h.2 hB) 50 8 (.inr rfl) hz ht hn).mono fun _ _ ⟨he, hb⟩ => ⟨he, h.below hb⟩
  have l1 := blockB_len 50 4 (p.zs.take 1) [] (by decide) (by omega) (Nat.zero_le _) (charsB_take1 p.zs 1 hn)
  have l2 := blockB_len 50 8 p.zs p.ts (by decide) hz ht hn
  have HF := Lib.hid (show file2B p = blockB 50 4 (p.zs.take 1) [] ++ (blockB 50 8 p.zs p.ts ++ ([10] ++ (p.ext ++ [10]))) from rfl)
  generalize blockB 50 4 (p.zs.take 1) [] = b1 at *
  generalize blockB 50 8 p.zs p.ts = b2 at *
  have HB1 := Lib.hid HB1
  have HB2 := Lib.hid HB2
  clear hR hl1 hn
  have f1 : ¬ 9223372036854775807 < b1.length + b2.length := by omega
  have f2 : ¬ 9223372036854775807 < b1.length + b2.length + 1 := by omega
  have f3 : ¬ 9223372036854775807 < b1.length + (b2.length + 1) + p.ext.length := by omega
  have f4 : ¬ 9223372036854775807 < b1.length + (b2.length + (p.ext.length + 1)) + 1 := by omega
  have i0 : (1 : Int) ≤ (k1 : Int) := by dsimp only at hcap; omega
  have i1 : 1 ≤ k1 := by dsimp only at hcap; omega
  obtain ⟨c0, c1, c2, c3⟩ := HB0.cells
  unfold plA at *
  dsimp only at c1 c2 HB0 HB2 ⊢
  go_enter Tryd.func14, Tryd.ntmps14
  go_wp2_with fail
  go_region_held3 (fun w' => (w'.cell? ⟨w.heap.size, 0, none⟩ = some (.string (S p.nm)) ∧ w'.cell? ⟨w.heap.size, 1, none⟩ = some (.slice A1 p.zs.length k1) ∧ w'.cell? ⟨w.heap.size, 2, none⟩ = some (.slice A2 p.ts.length k2) ∧ w'.cell? ⟨w.heap.size, 3, none⟩ = some (.string (S p.ext))) ∧ InP w p ⟨A1, k1, A2, k2⟩ w')
    (first | exact ⟨(InP.drew (by assumption)).cells, InP.drew (by assumption)⟩ | exact ⟨InP.cells (by assumption), by assumption⟩)
    (first | (go_at_call 22; ((with_reducible refine (HB1.out _ ?_).mono ?_); (first | (with_reducible assumption) | ((with_reducible refine InP.drew ?_); (with_reducible assumption))); rintro e w' ⟨rfl, hB'⟩)) | (go_at_call 22; ((with_reducible refine (HB2.out _ ?_).mono ?_); (first | (with_reducible assumption) | ((with_reducible refine InP.drew ?_); (with_reducible assumption))); rintro e w' ⟨rfl, hB'⟩)))
  all_goals
    go_wp2_with fail
    go_ret
    rw [HF.out]
    exact ⟨by simp, hB'.2⟩

theorem file2_in {w : World} {p : Pl} {a : Ad} (hR : PlIn w w.heap.size p a) (hcap : p.zs.length ≤ a.c1) (hz0 : 1 ≤ p.zs.length) (hz : p.zs.length ≤ 200) (ht : p.ts.length ≤ 1000) (hn : (charsB p.zs).length ≤ 255) (he : p.ext.length ≤ 2147483647) (W : World) (h : InP w p a W) : Calls Tryd.prog 14 #[plA p a] W fun e W' => e = .returned (.string (S (file2B p))) ∧ InP w p a W' :=
  (File2_ret p a W w.heap.size h.2.size (hR.below h.2 (Nat.le_refl _)) hcap hz0 hz ht hn he).mono fun _ _ ⟨he, hb⟩ => ⟨he, h.below hb⟩
/-- the file tells the place -/
theorem file2B_eq (p : Pl) (z0 : Zo) (h : p.zs[0]? = some z0) : file2B p = file2D z0 p.zs p.ts p.ext := by
  have e : p.zs.take 1 = [z0] := by
    cases hz : p.zs with
    | nil => rw [hz] at h; cases h
    | cons z l => rw [hz] at h; simp at h; subst h; rfl
  unfold file2B file2D
  rw [e]
theorem reads2p (V : Value) (nm : Bs) (p : Pl) (hext : p.ext.length ≤ 4294967296) (hzs : zsOk p.zs) (ht : p.ts.length ≤ 1000) (hix : ∀ t ∈ p.ts, t.ix < p.zs.length) (hta : ∀ t ∈ p.ts, -9223372036854775808 ≤ t.at_ ∧ t.at_ ≤ 9223372036854775807) : Reads V nm (file2B p) ⟨nm, p.zs, tsAll p.ts, p.ext⟩ := by
  obtain ⟨z0, hz0⟩ : ∃ z0, p.zs[0]? = some z0 := ⟨_, List.getElem?_eq_getElem (by have := hzs.1.1; omega)⟩
  rw [file2B_eq p z0 hz0]
  refine reads2 V nm p.ext hext z0 ?_ p.zs p.ts hzs ht hix hta
  have e : p.zs.take 1 = [z0] := by
    cases hz : p.zs with
    | nil => rw [hz] at hz0; cases hz0
    | cons z l => rw [hz] at hz0; simp at hz0; subst hz0; rfl
  rw [← e]
  exact charsB_take1 p.zs 1 hzs.2.1
end Go.Proofs.YtgmlclhdibajiaaDoor
