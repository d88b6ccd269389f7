/- The reference's Digits, Num and Offset return what the plain functions compute. -/
import Derived.Test.YtcjibjggaleclaaOffset
namespace Go.Proofs.Ytcjibjggaleclaa
open Go.RowKit

theorem cntDig_stop' (l : Bs) (n : Nat) (hn : cntDig l = n) (h : n < l.length) : ¬ (48 ≤ (l[n]'h).toNat ∧ (l[n]'h).toNat ≤ 57) := by
  subst hn; exact cntDig_stop l h

theorem specLoop_snoc (mx : Int) : ∀ (l : Bs) (n : Int) (c : UInt8), specLoop mx n (l ++ [c]) = if specLoop mx n l ≤ mx then specLoop mx n l * 10 + ((c.toNat : Int) - 48) else specLoop mx n l := by
  intro l
  induction l with
  | nil => intro n c; by_cases h : n ≤ mx <;> simp [specLoop, h]
  | cons d ds ih =>
    intro n c
    simp only [List.cons_append, specLoop]
    by_cases h : n ≤ mx
    · simp only [if_pos h]; exact ih _ _
    · simp only [if_neg h]
theorem specLoop_stop (mx : Int) : ∀ (l : Bs) (k : Nat) (n : Int), mx < specLoop mx n (l.take k) → specLoop mx n l = specLoop mx n (l.take k) := by
  intro l
  induction l with
  | nil => intro k n _; simp
  | cons d ds ih =>
    intro k n h
    cases k with
    | zero => simp only [List.take_zero, specLoop] at h ⊢; rw [if_neg (by omega)]
    | succ k =>
      simp only [List.take_succ_cons, specLoop] at h ⊢
      by_cases hn : n ≤ mx
      · simp only [if_pos hn] at h ⊢; exact ih k _ h
      · simp only [if_neg hn]
theorem takeWhile_dig (l : Bs) : ∀ c ∈ l.takeWhile isDig, 48 ≤ c.toNat ∧ c.toNat ≤ 57 := fun c hc => (isDig_iff c).1 (by
  induction l with
  | nil => simp at hc
  | cons d ds ih =>
    by_cases h : isDig d = true
    · rw [List.takeWhile_cons_of_pos h] at hc
      rcases List.mem_cons.1 hc with rfl | h'
      · exact h
      · exact ih h'
    · rw [List.takeWhile_cons_of_neg h] at hc; simp at hc)

end Go.Proofs.Ytcjibjggaleclaa
