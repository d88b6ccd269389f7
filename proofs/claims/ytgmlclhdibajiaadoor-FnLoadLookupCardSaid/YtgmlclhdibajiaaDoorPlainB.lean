/- Plain laws: a number, a clock as text is read back. -/
import Derived.Test.YtgmlclhdibajiaaDoorPlain
namespace Go.Proofs.YtgmlclhdibajiaaDoor

def noDig (r : Bs) : Prop := ∀ c, r.head? = some c → c.toNat < 48 ∨ 57 < c.toNat
theorem noDig_nil : noDig [] := fun c h => by simp at h
theorem noDig_cons {c : UInt8} {r : Bs} (h : c.toNat < 48 ∨ 57 < c.toNat) : noDig (c :: r) := fun d hd => by
  simp at hd; subst hd; exact h

theorem dig_toNat (d : Int) (h0 : 0 ≤ d) (h1 : d ≤ 9) : ((dig d).toNat : Int) = 48 + d := by
  unfold dig
  rw [UInt8.toNat_ofNat']
  omega
theorem numGo_dig (mn mx : Int) (f : Bool) (num d : Int) (cs : Bs) (h0 : 0 ≤ d) (h1 : d ≤ 9) :
    numGo mn mx f num (dig d :: cs) = if mx < num * 10 + d then (0, [], false) else numGo mn mx false (num * 10 + d) cs := by
  have h := dig_toNat d h0 h1
  have e : num * 10 + (((dig d).toNat : Int) - 48) = num * 10 + d := by omega
  rw [numGo, if_neg (by omega), e]
theorem numGo_end (mn mx num : Int) (r : Bs) (h : noDig r) : numGo mn mx false num r = if num < mn then (0, [], false) else (num, r, true) := by
  cases r with
  | nil => rfl
  | cons c cs =>
    rw [numGo, if_pos (h c rfl)]
    simp

/-- the number of a text that begins with one below a thousand -/
theorem numF_dec (k mn mx : Int) (r : Bs) (h0 : 0 ≤ k) (h1 : k ≤ 999) (hr : noDig r) :
    numF (decT k ++ r) mn mx = if mn ≤ k ∧ k ≤ mx then (k, r, true) else (0, [], false) := by
  unfold decT
  by_cases h10 : k < 10
  · rw [if_pos h10, numF, if_neg (by simp)]
    simp only [List.cons_append, List.nil_append]
    rw [numGo_dig _ _ _ _ _ _ (by omega) (by omega), numGo_end _ _ _ _ hr]
    have e : 0 * 10 + k % 10 = k := by omega
    rw [e]
    by_cases ha : mx < k
    · rw [if_pos ha, if_neg (by omega)]
    · by_cases hb : k < mn
      · rw [if_neg ha, if_pos hb, if_neg (by omega)]
      · rw [if_neg ha, if_neg hb, if_pos (by omega)]
  · rw [if_neg h10]
    by_cases h100 : k < 100
    · rw [if_pos h100, numF, if_neg (by simp)]
      simp only [List.cons_append, List.nil_append]
      rw [numGo_dig _ _ _ _ _ _ (by omega) (by omega), numGo_dig _ _ _ _ _ _ (by omega) (by omega), numGo_end _ _ _ _ hr]
      have e : (0 * 10 + k / 10 % 10) * 10 + k % 10 = k := by omega
      rw [e]
      by_cases ha : mx < k
      · rw [if_pos ha, if_neg (show ¬ (mn ≤ k ∧ k ≤ mx) by omega)]; split <;> rfl
      · rw [if_neg (by omega)]
        by_cases hb : k < mn
        · rw [if_neg ha, if_pos hb, if_neg (by omega)]
        · rw [if_neg ha, if_neg hb, if_pos (by omega)]
    · rw [if_neg h100, numF, if_neg (by simp)]
      simp only [List.cons_append, List.nil_append]
      rw [numGo_dig _ _ _ _ _ _ (by omega) (by omega), numGo_dig _ _ _ _ _ _ (by omega) (by omega), numGo_dig _ _ _ _ _ _ (by omega) (by omega), numGo_end _ _ _ _ hr]
      have e : ((0 * 10 + k / 10 / 10 % 10) * 10 + k / 10 % 10) * 10 + k % 10 = k := by omega
      rw [e]
      by_cases ha : mx < k
      · rw [if_pos ha, if_neg (show ¬ (mn ≤ k ∧ k ≤ mx) by omega)]; split <;> (try split) <;> rfl
      · rw [if_neg (by omega), if_neg (by omega)]
        by_cases hb : k < mn
        · rw [if_neg ha, if_pos hb, if_neg (by omega)]
        · rw [if_neg ha, if_neg hb, if_pos (by omega)]
theorem numF_two (k : Int) (r : Bs) (h0 : 0 ≤ k) (h1 : k ≤ 59) (hr : noDig r) : numF (twoT k ++ r) 0 59 = (k, r, true) := by
  rw [twoT, numF, if_neg (by simp)]
  simp only [List.cons_append, List.nil_append]
  rw [numGo_dig _ _ _ _ _ _ (by omega) (by omega), numGo_dig _ _ _ _ _ _ (by omega) (by omega), numGo_end _ _ _ _ hr]
  have e : (0 * 10 + k / 10) * 10 + k % 10 = k := by omega
  rw [e, if_neg (by omega), if_neg (by omega), if_neg (by omega)]

/-- what stands behind a clock does not go on with it -/
def noClk (r : Bs) : Prop := noDig r ∧ r.head? ≠ some 58
theorem noDig_58 (r : Bs) : noDig (58 :: r) := noDig_cons (by decide)

theorem decT_head (k : Int) : ∃ d cs, decT k = dig d :: cs ∧ 0 ≤ d ∧ d ≤ 9 := by
  unfold decT
  split
  · exact ⟨_, _, rfl, by omega, by omega⟩
  · split
    · exact ⟨_, _, rfl, by omega, by omega⟩
    · exact ⟨_, _, rfl, by omega, by omega⟩
theorem clkA_head (n : Int) (whole : Bool) : ∃ d cs, clkA n whole = dig d :: cs ∧ 0 ≤ d ∧ d ≤ 9 := by
  obtain ⟨d, cs, h, a, b⟩ := decT_head (n / 3600)
  exact ⟨d, _, by rw [clkA, h, List.cons_append], a, b⟩

theorem offA_clk (neg : Bool) (n : Int) (whole : Bool) (r : Bs) (h0 : 0 ≤ n) (h1 : n ≤ 604799) (hr : noClk r) : offA neg (clkA n whole ++ r) = (sgn neg n, r, true) := by
  have dd (r' : Bs) (hr' : noDig r') : numF (decT (n / 3600) ++ r') 0 168 = (n / 3600, r', true) := by
    rw [numF_dec _ _ _ _ (by omega) (by omega) hr', if_pos (by omega)]
  unfold clkA
  by_cases hA : whole = true ∨ n % 3600 ≠ 0
  · rw [if_pos hA]
    have e1 : numF (decT (n / 3600) ++ (58 :: twoT (n / 60 % 60) ++ if whole = true ∨ n % 60 ≠ 0 then 58 :: twoT (n % 60) else []) ++ r) 0 168 = (n / 3600, 58 :: (twoT (n / 60 % 60) ++ ((if whole = true ∨ n % 60 ≠ 0 then 58 :: twoT (n % 60) else []) ++ r)), true) := by
      rw [List.append_assoc, List.cons_append, List.cons_append, List.append_assoc]; exact dd _ (noDig_58 _)
    rw [offA_go e1]
    by_cases hB : whole = true ∨ n % 60 ≠ 0
    · rw [if_pos hB]
      have e2 : numF (twoT (n / 60 % 60) ++ (58 :: twoT (n % 60) ++ r)) 0 59 = (n / 60 % 60, 58 :: (twoT (n % 60) ++ r), true) := numF_two _ _ (by omega) (by omega) (noDig_58 _)
      rw [offB_go e2, offC_yes (numF_two _ _ (by omega) (by omega) hr.1)]
      have e : n / 3600 * 3600 + n / 60 % 60 * 60 + n % 60 = n := by omega
      rw [e]
    · rw [if_neg hB]
      have e2 : numF (twoT (n / 60 % 60) ++ ([] ++ r)) 0 59 = (n / 60 % 60, r, true) := numF_two _ _ (by omega) (by omega) hr.1
      have e : n / 3600 * 3600 + n / 60 % 60 * 60 = n := by have : n % 60 = 0 := by (rcases Decidable.em (n % 60 = 0) with h | h; exact h; exact absurd (.inr h) hB)
                                                            omega
      cases r with
      | nil => rw [offB_nil e2, e]
      | cons c cs => rw [offB_end e2 (fun h => hr.2 (by simp [h])), e]
  · rw [if_neg hA]
    have hz : n % 3600 = 0 := by (rcases Decidable.em (n % 3600 = 0) with h | h; exact h; exact absurd (.inr h) hA)
    have hw : whole = false := by cases whole; rfl; exact absurd (.inl rfl) hA
    have hB : ¬ (whole = true ∨ n % 60 ≠ 0) := by rw [hw]; rintro (h | h); cases h; omega
    rw [if_neg hB]
    have e1 : numF (decT (n / 3600) ++ ([] ++ []) ++ r) 0 168 = (n / 3600, r, true) := by
      rw [List.append_nil, List.append_nil]; exact dd _ hr.1
    have e : n / 3600 * 3600 = n := by omega
    cases r with
    | nil => rw [offA_nil e1, e]
    | cons c cs => rw [offA_end e1 (fun h => hr.2 (by simp [h])), e]

theorem offF_clk (n : Int) (whole : Bool) (r : Bs) (h0 : -604799 ≤ n) (h1 : n ≤ 604799) (hr : noClk r) : offF (clkT n whole ++ r) = (n, r, true) := by
  unfold clkT
  by_cases hn : n < 0
  · rw [if_pos hn, offF, if_neg (by simp), List.cons_append]
    have e : signOf (45 :: (clkA (-n) whole ++ r)) = (true, clkA (-n) whole ++ r) := rfl
    rw [e]
    simp only []
    rw [offA_clk _ _ _ _ (by omega) (by omega) hr]
    simp [sgn]
  · rw [if_neg hn]
    obtain ⟨d, cs, h, a, b⟩ := clkA_head n whole
    have hd := dig_toNat d a b
    have e : signOf (clkA n whole ++ r) = (false, clkA n whole ++ r) := by
      rw [h, List.cons_append, signOf, if_neg, if_neg]
      · intro hc; rw [hc] at hd; change (45 : Int) = _ at hd; omega
      · intro hc; rw [hc] at hd; change (43 : Int) = _ at hd; omega
    rw [offF, if_neg (by rw [h]; simp), e]
    simp only []
    rw [offA_clk _ _ _ _ (by omega) (by omega) hr]
    simp [sgn]

end Go.Proofs.YtgmlclhdibajiaaDoor
