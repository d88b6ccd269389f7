/- The reference's Decimal, two and Clock as texts. -/
import Derived.Test.YtcjibjggaleclaaSpecOffset
import Derived.Laws.BytesArg
namespace Go.Proofs.Ytcjibjggaleclaa
open Go.RowKit

theorem conv_bytes1 (w : World) (x : Int) : (convert 52 9 (.slice (some ⟨w.heap.size, 0, none⟩) 1 1)).run Try.prog (w.alloc (.cells #[.int .u8 x] 5)) =
    .ok (.string (S [UInt8.ofNat x.toNat])) (w.alloc (.cells #[.int .u8 x] 5)) := by
  refine (run_convert_bytes_arg (P := Try.prog) (w.alloc (.cells #[.int .u8 x] 5)) 52 5 Try.underlying52 Try.underlying5 w.heap.size 0 1 1 [x] rfl ?_ 9 Try.underlying9).trans rfl
  intro i hi
  obtain rfl : i = 0 := by omega
  simp [go_sem]
theorem conv_bytes2 (w : World) (x y : Int) : (convert 52 9 (.slice (some ⟨w.heap.size, 0, none⟩) 2 2)).run Try.prog (w.alloc (.cells #[.int .u8 x, .int .u8 y] 5)) =
    .ok (.string (S [UInt8.ofNat x.toNat, UInt8.ofNat y.toNat])) (w.alloc (.cells #[.int .u8 x, .int .u8 y] 5)) := by
  refine (run_convert_bytes_arg (P := Try.prog) (w.alloc (.cells #[.int .u8 x, .int .u8 y] 5)) 52 5 Try.underlying52 Try.underlying5 w.heap.size 0 2 2 [x, y] rfl ?_ 9 Try.underlying9).trans rfl
  intro i hi
  obtain rfl | rfl : i = 0 ∨ i = 1 := by omega
  all_goals simp [go_sem]

theorem conv_bytes1' (w : World) (x : Int) (b : Nat) (hb : w.heap.size = b) : (convert 52 9 (.slice (some ⟨b, 0, none⟩) 1 1)).run Try.prog (w.alloc (.cells #[.int .u8 x] 5)) =
    .ok (.string (S [UInt8.ofNat x.toNat])) (w.alloc (.cells #[.int .u8 x] 5)) := by
  subst hb; exact conv_bytes1 w x

theorem two_ret (n : Int) (h0 : 0 ≤ n) (h1 : n ≤ 99) : Ret 20 #[.int .i64 n] (.string (S (twoT n))) := by
  intro w
  have hcv := conv_bytes2
  go_enter Try.func20, Try.ntmps20
  go_wp2
  go_ret
  exact ⟨rfl, (Below.refl _ _).alloc (Nat.le_refl _) _⟩

set_option maxHeartbeats 1000000 in
theorem Decimal_ret (n : Int) (h0 : 0 ≤ n) (h1 : n ≤ 999) : Ret 19 #[.int .i64 n] (.string (S (decT n))) := by
  intro w
  have hcv := conv_bytes1'
  by_cases h10 : n < 10
  · have HF := Lib.hid (show decT n = [dig (n % 10)] by rw [decT, if_pos h10])
    go_enter Try.func19, Try.ntmps19
    go_wp2
    refine wp_loop_rounds 3 ?_
    rw [rounds_succ]
    go_wp2
    go_ret
    rw [HF.out]
    exact ⟨rfl, (Below.refl _ _).alloc (Nat.le_refl _) _⟩
  · by_cases h100 : n < 100
    · have HF := Lib.hid (show decT n = [dig (n / 10 % 10), dig (n % 10)] by rw [decT, if_neg h10, if_pos h100])
      go_enter Try.func19, Try.ntmps19
      go_wp2
      refine wp_loop_rounds 3 ?_
      rw [rounds_succ]
      go_wp2
      rw [rounds_succ]
      go_wp2
      go_ret
      rw [HF.out]
      exact ⟨rfl, by go_grown⟩
    · have HF := Lib.hid (show decT n = [dig (n / 10 / 10 % 10), dig (n / 10 % 10), dig (n % 10)] by rw [decT, if_neg h10, if_neg h100])
      go_enter Try.func19, Try.ntmps19
      go_wp2
      refine wp_loop_rounds 3 ?_
      rw [rounds_succ]
      go_wp2
      rw [rounds_succ]
      go_wp2
      rw [rounds_succ]
      go_wp2
      go_ret
      rw [HF.out]
      exact ⟨rfl, by go_grown⟩

theorem ret_str {a b : Bs} (h : a = b) : Ending.returned (.string (S a)) = .returned (.string (S b)) := by rw [h]
theorem clkA_whole (n : Int) : clkA n true = decT (n / 3600) ++ (58 :: twoT (n / 60 % 60)) ++ (58 :: twoT (n % 60)) := by simp [clkA]
theorem clkA_both (n : Int) (h : (n % 3600 != 0) = true) (h' : (n % 60 != 0) = true) : clkA n false = decT (n / 3600) ++ (58 :: twoT (n / 60 % 60)) ++ (58 :: twoT (n % 60)) := by
  rw [bne_iff_ne] at h h'; simp [clkA, h, h']
theorem clkA_one (n : Int) (h : (n % 3600 != 0) = true) (h' : (n % 60 != 0) = false) : clkA n false = decT (n / 3600) ++ (58 :: twoT (n / 60 % 60)) := by
  rw [bne_iff_ne] at h; simp at h'; simp [clkA, h, h']
theorem clkA_none (n : Int) (h : (n % 3600 != 0) = false) (h' : (n % 60 != 0) = false) : clkA n false = decT (n / 3600) := by
  simp at h h'; simp [clkA, h, h']

set_option maxHeartbeats 4000000 in
theorem Clock_ret (n : Int) (whole : Bool) (h0 : -604799 ≤ n) (h1 : n ≤ 604799) : Ret 10 #[.int .i64 n, .bool whole] (.string (S (clkT n whole))) := by
  intro w
  obtain ⟨neg, m, hn, hm0, hm1, hT⟩ : ∃ (neg : Bool) (m : Int), n = (if neg then -m else m) ∧ 0 ≤ m ∧ m ≤ 604799 ∧ (neg = true → 0 < m) ∧ clkT n whole = (if neg then [45] else []) ++ clkA m whole := by
    by_cases h : n < 0
    · exact ⟨true, -n, by simp, by omega, by omega, by omega, by simp [clkT, h]⟩
    · exact ⟨false, n, by simp, by omega, by omega, by simp, by simp [clkT, h]⟩
  obtain ⟨hneg, hT⟩ := hT
  have g1 := Lib.hid (Decimal_ret (m / 3600) (by omega) (by omega))
  have g2 := Lib.hid (two_ret (m / 60 % 60) (by omega) (by omega))
  have g3 := Lib.hid (two_ret (m % 60) (by omega) (by omega))
  have l1 := decT_len (m / 3600)
  have l2 := twoT_len (m / 60 % 60)
  have l3 := twoT_len (m % 60)
  have HT := Lib.hid hT
  clear hT h0 h1
  have hb60 : (m % 3600 != 0) = false → (m % 60 != 0) = false := by
    intro h; simp at h ⊢; omega
  have hcs : whole = true ∨ (whole = false ∧ (m % 3600 != 0) = true ∧ (m % 60 != 0) = true) ∨ (whole = false ∧ (m % 3600 != 0) = true ∧ (m % 60 != 0) = false) ∨ (whole = false ∧ (m % 3600 != 0) = false ∧ (m % 60 != 0) = false) := by
    cases whole
    · cases ha : (m % 3600 != 0)
      · exact .inr (.inr (.inr ⟨rfl, rfl, hb60 ha⟩))
      · cases hb : (m % 60 != 0)
        · exact .inr (.inr (.inl ⟨rfl, rfl, rfl⟩))
        · exact .inr (.inl ⟨rfl, rfl, rfl⟩)
    · exact .inl rfl
  clear hb60
  cases neg
  all_goals
    simp only [if_true, if_false, Bool.false_eq_true] at hn HT
    subst hn
  · clear hneg
    rcases hcs with rfl | ⟨rfl, ha, hb⟩ | ⟨rfl, ha, hb⟩ | ⟨rfl, ha, hb⟩
    · have HF := Lib.hid (HT.out.trans (congrArg _ (clkA_whole _)))
      clear HT
      go_enter Try.func10, Try.ntmps10
      go_wp2_with fail
      refine (g1.out _).mono ?_
      rintro e w1 ⟨rfl, hb1'⟩
      have hb1 : Below w.heap.size w w1 := hb1'
      clear hb1'
      go_wp2_with fail
      refine (g2.out _).mono ?_
      rintro e w2 ⟨rfl, hb2'⟩
      have hb2 : Below w.heap.size w w2 := hb1.trans (hb2'.mono hb1.size)
      clear hb2'
      go_wp2_with fail
      refine (g3.out _).mono ?_
      rintro e w3 ⟨rfl, hb3'⟩
      have hb3 : Below w.heap.size w w3 := hb2.trans (hb3'.mono hb2.size)
      clear hb3'
      go_wp2_with fail
      go_ret
      rw [HF.out]
      exact ⟨ret_str (by simp), hb3⟩
    · have HF := Lib.hid (HT.out.trans (congrArg _ (clkA_both _ ha hb)))
      clear HT
      go_enter Try.func10, Try.ntmps10
      go_wp2_with fail
      refine (g1.out _).mono ?_
      rintro e w1 ⟨rfl, hb1'⟩
      have hb1 : Below w.heap.size w w1 := hb1'
      clear hb1'
      go_wp2_with fail
      refine (g2.out _).mono ?_
      rintro e w2 ⟨rfl, hb2'⟩
      have hb2 : Below w.heap.size w w2 := hb1.trans (hb2'.mono hb1.size)
      clear hb2'
      go_wp2_with fail
      refine (g3.out _).mono ?_
      rintro e w3 ⟨rfl, hb3'⟩
      have hb3 : Below w.heap.size w w3 := hb2.trans (hb3'.mono hb2.size)
      clear hb3'
      go_wp2_with fail
      go_ret
      rw [HF.out]
      exact ⟨ret_str (by simp), hb3⟩
    · have HF := Lib.hid (HT.out.trans (congrArg _ (clkA_one _ ha hb)))
      clear HT
      go_enter Try.func10, Try.ntmps10
      go_wp2_with fail
      refine (g1.out _).mono ?_
      rintro e w1 ⟨rfl, hb1'⟩
      have hb1 : Below w.heap.size w w1 := hb1'
      clear hb1'
      go_wp2_with fail
      refine (g2.out _).mono ?_
      rintro e w2 ⟨rfl, hb2'⟩
      have hb2 : Below w.heap.size w w2 := hb1.trans (hb2'.mono hb1.size)
      clear hb2'
      go_wp2_with fail
      go_ret
      rw [HF.out]
      exact ⟨ret_str (by simp), hb2⟩
    · have HF := Lib.hid (HT.out.trans (congrArg _ (clkA_none _ ha hb)))
      clear HT
      go_enter Try.func10, Try.ntmps10
      go_wp2_with fail
      refine (g1.out _).mono ?_
      rintro e w1 ⟨rfl, hb1'⟩
      have hb1 : Below w.heap.size w w1 := hb1'
      clear hb1'
      go_wp2_with fail
      go_ret
      rw [HF.out]
      exact ⟨ret_str (by simp), hb1⟩
  · have hlt : -m < 0 := by have := hneg rfl; omega
    clear hneg
    rcases hcs with rfl | ⟨rfl, ha, hb⟩ | ⟨rfl, ha, hb⟩ | ⟨rfl, ha, hb⟩
    · have HF := Lib.hid (HT.out.trans (congrArg _ (clkA_whole _)))
      clear HT
      go_enter Try.func10, Try.ntmps10
      go_wp2_with fail
      refine (g1.out _).mono ?_
      rintro e w1 ⟨rfl, hb1'⟩
      have hb1 : Below w.heap.size w w1 := hb1'
      clear hb1'
      go_wp2_with fail
      refine (g2.out _).mono ?_
      rintro e w2 ⟨rfl, hb2'⟩
      have hb2 : Below w.heap.size w w2 := hb1.trans (hb2'.mono hb1.size)
      clear hb2'
      go_wp2_with fail
      refine (g3.out _).mono ?_
      rintro e w3 ⟨rfl, hb3'⟩
      have hb3 : Below w.heap.size w w3 := hb2.trans (hb3'.mono hb2.size)
      clear hb3'
      go_wp2_with fail
      go_ret
      rw [HF.out]
      exact ⟨ret_str (by simp), hb3⟩
    · have HF := Lib.hid (HT.out.trans (congrArg _ (clkA_both _ ha hb)))
      clear HT
      go_enter Try.func10, Try.ntmps10
      go_wp2_with fail
      refine (g1.out _).mono ?_
      rintro e w1 ⟨rfl, hb1'⟩
      have hb1 : Below w.heap.size w w1 := hb1'
      clear hb1'
      go_wp2_with fail
      refine (g2.out _).mono ?_
      rintro e w2 ⟨rfl, hb2'⟩
      have hb2 : Below w.heap.size w w2 := hb1.trans (hb2'.mono hb1.size)
      clear hb2'
      go_wp2_with fail
      refine (g3.out _).mono ?_
      rintro e w3 ⟨rfl, hb3'⟩
      have hb3 : Below w.heap.size w w3 := hb2.trans (hb3'.mono hb2.size)
      clear hb3'
      go_wp2_with fail
      go_ret
      rw [HF.out]
      exact ⟨ret_str (by simp), hb3⟩
    · have HF := Lib.hid (HT.out.trans (congrArg _ (clkA_one _ ha hb)))
      clear HT
      go_enter Try.func10, Try.ntmps10
      go_wp2_with fail
      refine (g1.out _).mono ?_
      rintro e w1 ⟨rfl, hb1'⟩
      have hb1 : Below w.heap.size w w1 := hb1'
      clear hb1'
      go_wp2_with fail
      refine (g2.out _).mono ?_
      rintro e w2 ⟨rfl, hb2'⟩
      have hb2 : Below w.heap.size w w2 := hb1.trans (hb2'.mono hb1.size)
      clear hb2'
      go_wp2_with fail
      go_ret
      rw [HF.out]
      exact ⟨ret_str (by simp), hb2⟩
    · have HF := Lib.hid (HT.out.trans (congrArg _ (clkA_none _ ha hb)))
      clear HT
      go_enter Try.func10, Try.ntmps10
      go_wp2_with fail
      refine (g1.out _).mono ?_
      rintro e w1 ⟨rfl, hb1'⟩
      have hb1 : Below w.heap.size w w1 := hb1'
      clear hb1'
      go_wp2_with fail
      go_ret
      rw [HF.out]
      exact ⟨ret_str (by simp), hb1⟩

end Go.Proofs.Ytcjibjggaleclaa
