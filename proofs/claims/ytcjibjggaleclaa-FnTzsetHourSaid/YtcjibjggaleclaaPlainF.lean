/- Plain laws: a rule as text is read back; days, weeks and months that there are not are no rule. -/
import Derived.Test.YtcjibjggaleclaaRuleOk
namespace Go.Proofs.Ytcjibjggaleclaa

/-- what stands behind a rule does not go on with it -/
def noRul (r : Bs) : Prop := noClk r ∧ r.head? ≠ some 47
def timT (t : Int) (whole : Bool) : Bs := if whole = true ∨ t ≠ 7200 then 47 :: clkT t whole else []
theorem timT_noDig (t : Int) (whole : Bool) (r : Bs) (hr : noRul r) : noDig (timT t whole ++ r) := by
  unfold timT
  split
  · exact noDig_cons (by decide)
  · exact hr.1.1
theorem ruTail_back (k d wk m t : Int) (whole : Bool) (r : Bs) (h0 : -604799 ≤ t) (h1 : t ≤ 604799) (hr : noRul r) : ruTail k d wk m (timT t whole ++ r) = (⟨k, d, wk, m, t⟩, r, true) := by
  unfold timT
  by_cases h : whole = true ∨ t ≠ 7200
  · rw [if_pos h, List.cons_append]
    exact ruTail_yes _ _ _ _ _ _ _ (offF_clk t whole r h0 h1 hr.1)
  · rw [if_neg h, List.nil_append]
    have ht : t = 7200 := by
      rcases Decidable.em (t = 7200) with h' | h'
      · exact h'
      · exact absurd (.inr h') h
    subst ht
    cases r with
    | nil => exact ruTail_nil _ _ _ _
    | cons c cs => exact ruTail_end _ _ _ _ _ _ (fun e => hr.2 (by simp [e]))
theorem ruT_eq (r : Ru) (whole : Bool) : ruT r whole = (if r.kind = 0 then 74 :: decT r.day else if r.kind = 1 then decT r.day else 77 :: (decT r.mon ++ 46 :: (decT r.week ++ 46 :: decT r.day))) ++ timT r.time whole := rfl

theorem ruleF_J (l : Bs) : ruleF (74 :: l) = ruJ l := by rw [ruleF, if_pos rfl]
theorem ruleF_M (l : Bs) : ruleF (77 :: l) = ruM l := by rw [ruleF, if_neg (by decide), if_pos rfl]
theorem ruleF_D (k : Int) (l : Bs) : ruleF (decT k ++ l) = ruD (decT k ++ l) := by
  obtain ⟨d, cs, h, a, b⟩ := decT_head k
  have hd := dig_toNat d a b
  rw [h, List.cons_append, ruleF, if_neg, if_neg]
  · intro e; rw [e] at hd; change (77 : Int) = _ at hd; omega
  · intro e; rw [e] at hd; change (74 : Int) = _ at hd; omega

theorem ru_eta (r : Ru) (k wk m : Int) (hk : r.kind = k) (hw : r.week = wk) (hm : r.mon = m) : (⟨k, r.day, wk, m, r.time⟩ : Ru) = r := by
  subst hk hw hm; rfl
theorem noDig_46 (r : Bs) : noDig (46 :: r) := noDig_cons (by decide)

/-- the reader at a rule's text: read if its days, weeks and months are there -/
theorem ruleF_ruT (r : Ru) (whole : Bool) (s : Bs) (hd0 : 0 ≤ r.day) (hd1 : r.day ≤ 999) (hw0 : 0 ≤ r.week) (hw1 : r.week ≤ 999) (hm0 : 0 ≤ r.mon) (hm1 : r.mon ≤ 999) (ht0 : -604799 ≤ r.time) (ht1 : r.time ≤ 604799) (hs : noRul s)
    (hk : r.kind = 0 ∧ r.week = 0 ∧ r.mon = 0 ∨ r.kind = 1 ∧ r.week = 0 ∧ r.mon = 0 ∨ r.kind = 2) :
    ruleF (ruT r whole ++ s) = if ruOk r then (r, s, true) else noRu := by
  have hit : inB r.time (-604799) 604799 = true := (inB_iff _ _ _).2 ⟨ht0, ht1⟩
  rw [ruT_eq, List.append_assoc]
  have hnd := timT_noDig r.time whole s hs
  have hback := fun k d wk m => ruTail_back k d wk m r.time whole s ht0 ht1 hs
  rcases hk with ⟨hk, hw, hm⟩ | ⟨hk, hw, hm⟩ | hk
  · rw [if_pos hk, List.cons_append, ruleF_J]
    have e := numF_dec r.day 1 365 (timT r.time whole ++ s) hd0 hd1 hnd
    by_cases hd : 1 ≤ r.day ∧ r.day ≤ 365
    · rw [if_pos hd] at e
      have hb : inB r.day 1 365 = true := (inB_iff _ _ _).2 hd
      rw [ruJ_yes e, hback, if_pos (by simp [ruOk, hit, hk, hb, hw, hm])]
      rw [ru_eta r 0 0 0 hk hw hm]
    · rw [if_neg hd] at e
      have hb : inB r.day 1 365 = false := by rw [← Bool.not_eq_true, inB_iff]; exact hd
      rw [ruJ_no e, if_neg (by simp [ruOk, hk, hb])]
  · rw [if_neg (by omega), if_pos hk, ruleF_D]
    have e := numF_dec r.day 0 365 (timT r.time whole ++ s) hd0 hd1 hnd
    by_cases hd : 0 ≤ r.day ∧ r.day ≤ 365
    · rw [if_pos hd] at e
      have hb : inB r.day 0 365 = true := (inB_iff _ _ _).2 hd
      rw [ruD_yes e, hback, if_pos (by simp [ruOk, hit, hk, hb, hw, hm])]
      rw [ru_eta r 1 0 0 hk hw hm]
    · rw [if_neg hd] at e
      have hb : inB r.day 0 365 = false := by rw [← Bool.not_eq_true, inB_iff]; exact hd
      rw [ruD_no e, if_neg (by simp [ruOk, hk, hb])]
  · rw [if_neg (by omega), if_neg (by omega), List.cons_append, ruleF_M]
    have ea : decT r.mon ++ 46 :: (decT r.week ++ 46 :: decT r.day) ++ (timT r.time whole ++ s) = decT r.mon ++ (46 :: (decT r.week ++ (46 :: (decT r.day ++ (timT r.time whole ++ s))))) := by simp
    rw [ea]
    have e1 := numF_dec r.mon 1 12 (46 :: (decT r.week ++ (46 :: (decT r.day ++ (timT r.time whole ++ s))))) hm0 hm1 (noDig_46 _)
    by_cases hmm : 1 ≤ r.mon ∧ r.mon ≤ 12
    · rw [if_pos hmm] at e1
      have hbm : inB r.mon 1 12 = true := (inB_iff _ _ _).2 hmm
      rw [ruM_yes e1]
      have e2 := numF_dec r.week 1 5 (46 :: (decT r.day ++ (timT r.time whole ++ s))) hw0 hw1 (noDig_46 _)
      by_cases hww : 1 ≤ r.week ∧ r.week ≤ 5
      · rw [if_pos hww] at e2
        have hbw : inB r.week 1 5 = true := (inB_iff _ _ _).2 hww
        rw [ruM2_yes e2]
        have e3 := numF_dec r.day 0 6 (timT r.time whole ++ s) hd0 hd1 hnd
        by_cases hd : 0 ≤ r.day ∧ r.day ≤ 6
        · rw [if_pos hd] at e3
          have hbd : inB r.day 0 6 = true := (inB_iff _ _ _).2 hd
          rw [ruM3_yes e3, hback, if_pos (by simp [ruOk, hit, hk, hbm, hbw, hbd])]
          rw [ru_eta r 2 r.week r.mon hk rfl rfl]
        · rw [if_neg hd] at e3
          have hbd : inB r.day 0 6 = false := by rw [← Bool.not_eq_true, inB_iff]; exact hd
          rw [ruM3_no e3, if_neg (by simp [ruOk, hk, hbd])]
      · rw [if_neg hww] at e2
        have hbw : inB r.week 1 5 = false := by rw [← Bool.not_eq_true, inB_iff]; exact hww
        rw [ruM2_no e2, if_neg (by simp [ruOk, hk, hbw])]
    · rw [if_neg hmm] at e1
      have hbm : inB r.mon 1 12 = false := by rw [← Bool.not_eq_true, inB_iff]; exact hmm
      rw [ruM_no e1, if_neg (by simp [ruOk, hk, hbm])]

/-- what a rule (RuleOk) keeps to -/
theorem ruOk_bd (r : Ru) (h : ruOk r = true) : 0 ≤ r.day ∧ r.day ≤ 999 ∧ 0 ≤ r.week ∧ r.week ≤ 999 ∧ 0 ≤ r.mon ∧ r.mon ≤ 999 ∧ -604799 ≤ r.time ∧ r.time ≤ 604799 ∧
    (r.kind = 0 ∧ r.week = 0 ∧ r.mon = 0 ∨ r.kind = 1 ∧ r.week = 0 ∧ r.mon = 0 ∨ r.kind = 2) := by
  unfold ruOk at h
  rw [Bool.and_eq_true, inB_iff] at h
  obtain ⟨ht, h⟩ := h
  by_cases h0 : r.kind = 0
  · rw [if_pos h0] at h
    simp [inB_iff] at h
    omega
  · rw [if_neg h0] at h
    by_cases h1 : r.kind = 1
    · rw [if_pos h1] at h
      simp [inB_iff] at h
      omega
    · rw [if_neg h1] at h
      by_cases h2 : r.kind = 2
      · rw [if_pos h2] at h
        simp [inB_iff] at h
        omega
      · rw [if_neg h2] at h; cases h
theorem ruleF_back (r : Ru) (whole : Bool) (s : Bs) (h : ruOk r = true) (hs : noRul s) : ruleF (ruT r whole ++ s) = (r, s, true) := by
  obtain ⟨a, b, c, d, e, f, g, i, j⟩ := ruOk_bd r h
  rw [ruleF_ruT r whole s a b c d e f g i hs j, if_pos h]
theorem noRul_nil : noRul [] := ⟨⟨noDig_nil, by simp⟩, by simp⟩
theorem ruT_len (r : Ru) (whole : Bool) : (ruT r whole).length ≤ 30 := by
  have h1 := decT_len r.day
  have h2 := decT_len r.week
  have h3 := decT_len r.mon
  have h4 := clkT_len r.time whole
  unfold ruT
  rw [List.length_append]
  split <;> split <;> (try split) <;> simp only [List.length_cons, List.length_append, List.length_nil] <;> omega

end Go.Proofs.Ytcjibjggaleclaa
