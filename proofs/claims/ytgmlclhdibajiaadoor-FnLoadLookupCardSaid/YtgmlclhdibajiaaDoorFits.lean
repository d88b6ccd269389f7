/- The size tests of the laws on places. -/
import Derived.Test.YtgmlclhdibajiaaDoorMem
namespace Go.Proofs.YtgmlclhdibajiaaDoor
open Go.RowKit

def fits (n : Bs) : Bool := decide ((n.length : Int) ≤ 2147483647)
theorem zzFits1_ret (n : Bs) (o : Int) (d : Bool) : Ret 25 #[zonV n o d] (.bool (fits n)) := by
  intro w
  by_cases h : (2147483647 : Int) < (n.length : Int)
  · have HF := Lib.hid (show fits n = false by simp only [fits, decide_eq_false_iff_not]; omega)
    unfold zonV
    go_enter Tryd.func25, Tryd.ntmps25
    go_wp2_with fail
    go_ret
    rw [HF.out]
    exact ⟨rfl, by go_grown⟩
  · have HF := Lib.hid (show fits n = true by simp only [fits, decide_eq_true_eq]; omega)
    unfold zonV
    go_enter Tryd.func25, Tryd.ntmps25
    go_wp2_with fail
    go_ret
    rw [HF.out]
    exact ⟨rfl, by go_grown⟩
def fits3 (zs : List Zo) : Bool := decide ((zs.length : Int) ≤ 2147483647) && zs.all fun z => fits z.nm
set_option maxHeartbeats 1000000 in
theorem zzFits3_ret (zs : List Zo) (A : Option Addr) (c : Nat) (w : World) (B : Nat) (hB : B ≤ w.heap.size) (hR : Rd w B A zs.length (zosC zs)) :
    Calls Tryd.prog 18 #[.slice A zs.length c] w fun e w' => e = .returned (.bool (fits3 zs)) ∧ Below w.heap.size w w' := by
  by_cases h : (2147483647 : Int) < (zs.length : Int)
  · have HF := Lib.hid (show fits3 zs = false by simp only [fits3, Bool.and_eq_false_iff, decide_eq_false_iff_not]; left; omega)
    go_enter Tryd.func18, Tryd.ntmps18
    go_wp2_with fail
    go_ret
    rw [HF.out]
    exact ⟨rfl, Below.refl _ _⟩
  · have hR := Lib.hid hR
    go_enter Tryd.func18, Tryd.ntmps18
    go_wp2_with fail
    go_loopw [10] (fun i W => ∃ k : Nat, k ≤ zs.length ∧ i = .int .i64 k ∧ Below w.heap.size w W ∧ Hid (∀ z ∈ zs.take k, fits z.nm = true)) (fun i _ => zs.length - (intOf i).toNat)
    case atStart => exact ⟨0, Nat.zero_le _, rfl, Below.refl _ _, by simp [Hid]⟩
    case round =>
      obtain ⟨k, hk, rfl, hb, HA⟩ := hrel
      by_cases hlt : k < zs.length
      · obtain ⟨z, hz⟩ : ∃ z, zs[k]? = some z := ⟨_, List.getElem?_eq_getElem hlt⟩
        obtain ⟨ad, rfl, hadB, c0, c1, c2⟩ := ((hR.out).below hb hB).zo hz
        have HZ := Lib.hid hz
        clear hz
        have HC := zzFits1_ret z.nm z.off z.dst
        have hsz := hb.size
        unfold zonV at HC
        cases hf : fits z.nm
        · rw [hf] at HC
          have HC := Lib.hid HC
          have HF := Lib.hid (show fits3 zs = false by
            simp only [fits3, Bool.and_eq_false_iff]; right
            rw [List.all_eq_false]; exact ⟨z, List.mem_of_getElem? HZ.out, by rw [hf]; simp⟩)
          clear hf
          go_wp2_with fail
          refine (HC.out _).mono ?_
          rintro e w1 ⟨rfl, hb1⟩
          go_wp2_with fail
          go_ret
          rw [HF.out]
          exact ⟨rfl, (hb.alloc hsz _).trans (hb1.mono (by simp; omega))⟩
        · rw [hf] at HC
          have HC := Lib.hid HC
          have HA' : Hid (∀ z ∈ zs.take (k + 1), fits z.nm = true) := by
            intro y hy
            rw [List.take_succ_eq_append_getElem hlt] at hy
            rcases List.mem_append.1 hy with hy | hy
            · exact HA.out y hy
            · rw [List.mem_singleton] at hy
              have e := HZ.out
              rw [List.getElem?_eq_getElem hlt] at e
              injection e with e
              rw [hy, e]; exact hf
          clear hf
          go_wp2_with fail
          refine (HC.out _).mono ?_
          rintro e w1 ⟨rfl, hb1⟩
          go_wp2_with fail
          go_roundw
          case rel => exact ⟨k + 1, by omega, by go_num, (hb.alloc hsz _).trans (hb1.mono (by simp; omega)), HA'⟩
          case measure => simp [intOf]; omega
      · have HF := Lib.hid (show fits3 zs = true by
          simp only [fits3, Bool.and_eq_true, decide_eq_true_eq, List.all_eq_true]
          refine ⟨by omega, ?_⟩
          have := HA.out
          rwa [List.take_of_length_le (by omega)] at this)
        go_wp2_with fail
        go_ret
        rw [HF.out]
        exact ⟨rfl, hb⟩

def fits2 (p : Pl) : Bool := fits p.nm && fits3 p.zs && decide ((p.ts.length : Int) ≤ 2147483647) && fits p.ext
theorem fits2_all (p : Pl) (h : fits2 p = true) : p.nm.length ≤ 2147483647 ∧ p.zs.length ≤ 2147483647 ∧ p.ts.length ≤ 2147483647 ∧ p.ext.length ≤ 2147483647 ∧ ∀ z ∈ p.zs, z.nm.length ≤ 2147483647 := by
  simp only [fits2, fits3, fits, Bool.and_eq_true, decide_eq_true_eq, List.all_eq_true] at h
  obtain ⟨⟨⟨a, b, c⟩, d⟩, e⟩ := h
  exact ⟨by omega, by omega, by omega, by omega, fun z hz => by have := c z hz; omega⟩
set_option maxHeartbeats 1000000 in
theorem zzFits2_ret (p : Pl) (a : Ad) (w : World) (B : Nat) (hB : B ≤ w.heap.size) (hR : PlIn w B p a) :
    Calls Tryd.prog 10 #[plA p a] w fun e w' => e = .returned (.bool (fits2 p)) ∧ Below w.heap.size w w' := by
  have HC0 := fun (W : World) (hb : Below w.heap.size w W) => zzFits3_ret p.zs a.A1 a.c1 W B (Nat.le_trans hB hb.size) (hR.1.below hb hB)
  unfold plA
  by_cases h1 : (2147483647 : Int) < (p.nm.length : Int)
  · have HF := Lib.hid (show fits2 p = false by simp only [fits2, fits, Bool.and_eq_false_iff, decide_eq_false_iff_not]; left; left; left; omega)
    clear HC0 hR
    go_enter Tryd.func10, Tryd.ntmps10
    go_wp2_with fail
    go_ret
    rw [HF.out]
    exact ⟨rfl, by go_grown⟩
  have H1 : Hid (fits p.nm = true) := by show fits p.nm = true; simp only [fits, decide_eq_true_eq]; omega
  have Bx := (Blk.new w 25 (plC p a) _ rfl)
  have hb0 : Below w.heap.size w (w.alloc (.cells (plC p a) 25)) := (Below.refl _ _).alloc (Nat.le_refl _) _
  have HC1 := HC0 _ hb0
  unfold plC at HC1 Bx hb0
  clear HC0
  cases h3 : fits3 p.zs
  · rw [h3] at HC1
    have HC := Lib.hid HC1
    have HF := Lib.hid (show fits2 p = false by simp only [fits2, h3, Bool.and_false, Bool.false_and])
    clear h3 HC1 hR Bx
    go_enter Tryd.func10, Tryd.ntmps10
    go_wp2_with fail
    refine HC.out.mono ?_
    rintro e w1 ⟨rfl, hb1⟩
    go_wp2_with fail
    go_ret
    rw [HF.out]
    exact ⟨rfl, hb0.trans (hb1.mono (by simp))⟩
  rw [h3] at HC1
  have HC := Lib.hid HC1
  have H3 := Lib.hid h3
  clear h3 HC1 hR
  by_cases h4 : (2147483647 : Int) < (p.ts.length : Int)
  · have HF := Lib.hid (show fits2 p = false by simp only [fits2, Bool.and_eq_false_iff, decide_eq_false_iff_not]; left; right; omega)
    go_enter Tryd.func10, Tryd.ntmps10
    go_wp2_with fail
    refine HC.out.mono ?_
    rintro e w1 ⟨rfl, hb1⟩
    have Bx1 := Bx.below hb1 (by simp)
    have c2 := Bx1.cell 2
    have c3 := Bx1.cell 3
    simp at c2 c3
    go_wp2_with fail
    go_ret
    rw [HF.out]
    exact ⟨rfl, hb0.trans (hb1.mono (by simp))⟩
  by_cases h5 : (2147483647 : Int) < (p.ext.length : Int)
  · have HF := Lib.hid (show fits2 p = false by simp only [fits2, fits, Bool.and_eq_false_iff, decide_eq_false_iff_not]; right; omega)
    go_enter Tryd.func10, Tryd.ntmps10
    go_wp2_with fail
    refine HC.out.mono ?_
    rintro e w1 ⟨rfl, hb1⟩
    have Bx1 := Bx.below hb1 (by simp)
    have c2 := Bx1.cell 2
    have c3 := Bx1.cell 3
    simp at c2 c3
    go_wp2_with fail
    go_ret
    rw [HF.out]
    exact ⟨rfl, hb0.trans (hb1.mono (by simp))⟩
  have HF := Lib.hid (show fits2 p = true by
    unfold fits2
    rw [H1.out, H3.out]
    simp only [Bool.true_and, Bool.and_eq_true, decide_eq_true_eq, fits]
    omega)
  go_enter Tryd.func10, Tryd.ntmps10
  go_wp2_with fail
  refine HC.out.mono ?_
  rintro e w1 ⟨rfl, hb1⟩
  have Bx1 := Bx.below hb1 (by simp)
  have c2 := Bx1.cell 2
  have c3 := Bx1.cell 3
  simp at c2 c3
  go_wp2_with fail
  go_ret
  rw [HF.out]
  exact ⟨rfl, hb0.trans (hb1.mono (by simp))⟩

end Go.Proofs.YtgmlclhdibajiaaDoor
