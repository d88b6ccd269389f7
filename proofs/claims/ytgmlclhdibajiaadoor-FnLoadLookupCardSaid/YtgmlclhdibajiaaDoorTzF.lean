/- Plain functions: what the reader of whole TZ strings computes; bounds of what the readers give. -/
import Derived.Test.YtgmlclhdibajiaaDoorName
import Derived.Test.YtgmlclhdibajiaaDoorRuleTime
namespace Go.Proofs.YtgmlclhdibajiaaDoor

abbrev TzP := Option (Bs × Int × Option (Bs × Int × Ru × Ru))
def tzDflt : Bs := [44, 77, 51, 46, 50, 46, 48, 44, 77, 49, 49, 46, 49, 46, 48]
def tzR2 (sn : Bs) (so : Int) (dn : Bs) (dd : Int) (r1 : Ru) (l : Bs) : TzP :=
  match ruleF l with
  | (r2, [], true) => some (sn, so, some (dn, dd, r1, r2))
  | _ => none
def tzR1 (sn : Bs) (so : Int) (dn : Bs) (dd : Int) (l : Bs) : TzP :=
  match ruleF l with
  | (r1, s, true) => if s.head? = some 44 then tzR2 sn so dn dd r1 s.tail else none
  | _ => none
def tzC (sn : Bs) (so : Int) (dn : Bs) (dd : Int) (l : Bs) : TzP :=
  if (if l = [] then tzDflt else l).head? = some 44 ∨ (if l = [] then tzDflt else l).head? = some 59 then tzR1 sn so dn dd (if l = [] then tzDflt else l).tail else none
def tzB (sn : Bs) (so : Int) (l : Bs) : TzP :=
  match nameF l with
  | (dn, s, true) =>
    if s = [] ∨ s.head? = some 44 then tzC sn so dn (so + 3600) s
    else match offF s with
      | (o, s', true) => tzC sn so dn (-o) s'
      | _ => none
  | _ => none
def tzA (l : Bs) : TzP :=
  match nameF l with
  | (sn, s, true) =>
    match offF s with
    | (o, s', true) => if s' = [] ∨ s'.head? = some 44 then some (sn, -o, none) else tzB sn (-o) s'
    | _ => none
  | _ => none

theorem numF_ok (l : Bs) (mn mx k : Int) (r : Bs) (h0 : 0 ≤ mx) (h : numF l mn mx = (k, r, true)) : mn ≤ k ∧ k ≤ mx := by
  rw [← specNum_eq l mn mx h0, specNum] at h
  split at h
  · simp at h
  · rename_i hn
    simp at h
    obtain ⟨rfl, _⟩ := h
    simp only [not_or] at hn
    omega
theorem sgn_bd (neg : Bool) (n b : Int) (h0 : 0 ≤ n) (h1 : n ≤ b) : -b ≤ sgn neg n ∧ sgn neg n ≤ b := by
  cases neg <;> simp [sgn] <;> omega
/-- what the reader of offsets gives: small, and no more text than it was given -/
theorem offC_bd (neg : Bool) (n : Int) (l : Bs) (h0 : 0 ≤ n) (h1 : n ≤ 608340) : (-608399 ≤ (offC neg n l).1 ∧ (offC neg n l).1 ≤ 608399) ∧ (offC neg n l).2.1.length ≤ l.length := by
  have hb := numF_bd l 0 59 (by omega)
  have hl := numF_len l 0 59
  obtain ⟨k, r, ok, hq⟩ : ∃ k r ok, numF l 0 59 = (k, r, ok) := ⟨_, _, _, rfl⟩
  rw [hq] at hb hl
  simp only [] at hb hl
  cases ok with
  | false => rw [offC_no hq]; simp
  | true =>
    rw [offC_yes hq]
    have := sgn_bd neg (n + k) 608399 (by omega) (by omega)
    exact ⟨this, hl⟩
theorem offB_bd (neg : Bool) (n : Int) (l : Bs) (h0 : 0 ≤ n) (h1 : n ≤ 604800) : (-608399 ≤ (offB neg n l).1 ∧ (offB neg n l).1 ≤ 608399) ∧ (offB neg n l).2.1.length ≤ l.length := by
  have hb := numF_bd l 0 59 (by omega)
  have hl := numF_len l 0 59
  obtain ⟨k, r, ok, hq⟩ : ∃ k r ok, numF l 0 59 = (k, r, ok) := ⟨_, _, _, rfl⟩
  rw [hq] at hb hl
  simp only [] at hb hl
  cases ok with
  | false => rw [offB_no hq]; simp
  | true =>
    have hs := sgn_bd neg (n + k * 60) 608399 (by omega) (by omega)
    cases r with
    | nil => rw [offB_nil hq]; exact ⟨hs, hl⟩
    | cons c cs =>
      by_cases hc : c = 58
      · subst hc
        rw [offB_go hq]
        have := offC_bd neg (n + k * 60) cs (by omega) (by omega)
        exact ⟨this.1, by simp only [List.length_cons] at hl; omega⟩
      · rw [offB_end hq hc]; exact ⟨hs, hl⟩
theorem offA_bd (neg : Bool) (l : Bs) : (-608399 ≤ (offA neg l).1 ∧ (offA neg l).1 ≤ 608399) ∧ (offA neg l).2.1.length ≤ l.length := by
  have hb := numF_bd l 0 168 (by omega)
  have hl := numF_len l 0 168
  obtain ⟨k, r, ok, hq⟩ : ∃ k r ok, numF l 0 168 = (k, r, ok) := ⟨_, _, _, rfl⟩
  rw [hq] at hb hl
  simp only [] at hb hl
  cases ok with
  | false => rw [offA_no hq]; simp
  | true =>
    have hs := sgn_bd neg (k * 3600) 608399 (by omega) (by omega)
    cases r with
    | nil => rw [offA_nil hq]; exact ⟨hs, hl⟩
    | cons c cs =>
      by_cases hc : c = 58
      · subst hc
        rw [offA_go hq]
        have := offB_bd neg (k * 3600) cs (by omega) (by omega)
        exact ⟨this.1, by simp only [List.length_cons] at hl; omega⟩
      · rw [offA_end hq hc]; exact ⟨hs, hl⟩
theorem signOf_len (l : Bs) : (signOf l).2.length ≤ l.length := by
  cases l with
  | nil => simp [signOf]
  | cons c cs => simp only [signOf]; split <;> (try split) <;> simp
theorem offF_bd (l : Bs) : (-608399 ≤ (offF l).1 ∧ (offF l).1 ≤ 608399) ∧ (offF l).2.1.length ≤ l.length := by
  unfold offF
  split
  · simp
  · have h := offA_bd (signOf l).1 (signOf l).2
    have := signOf_len l
    exact ⟨h.1, by omega⟩
theorem nameF_len (l : Bs) : (nameF l).2.1.length ≤ l.length := by
  cases l with
  | nil => simp [nameF]
  | cons c cs =>
    rw [nameF]
    split
    · unfold nameBr; split
      · simp only [List.length_drop]; omega
      · simp
    · unfold nameA; split <;> (split <;> simp)
theorem ruTail_fine (k d wk m : Int) (l : Bs) (r : Ru) (s : Bs) (h : ruTail k d wk m l = (r, s, true)) (hf : ∀ t, -1000000 ≤ t → t ≤ 1000000 → ruFine ⟨k, d, wk, m, t⟩) : ruFine r := by
  unfold ruTail at h
  split at h
  · have hb := offF_bd l.tail
    obtain ⟨t, r', ok, hq⟩ : ∃ t r' ok, offF l.tail = (t, r', ok) := ⟨_, _, _, rfl⟩
    rw [hq] at h hb
    cases ok with
    | false => simp [noRu] at h
    | true =>
      simp at h
      obtain ⟨rfl, _⟩ := h
      simp only [] at hb
      exact hf t (by omega) (by omega)
  · simp at h
    obtain ⟨rfl, _⟩ := h
    exact hf 7200 (by omega) (by omega)
theorem ruleF_fine (l : Bs) (r : Ru) (s : Bs) (h : ruleF l = (r, s, true)) : ruFine r := by
  cases l with
  | nil => simp [ruleF, noRu] at h
  | cons c cs =>
    rw [ruleF] at h
    split at h
    · obtain ⟨d, r', ok, hq⟩ : ∃ d r' ok, numF cs 1 365 = (d, r', ok) := ⟨_, _, _, rfl⟩
      cases ok with
      | false => rw [ruJ_no hq] at h; simp [noRu] at h
      | true =>
        rw [ruJ_yes hq] at h
        have hb := numF_ok _ _ _ _ _ (by omega) hq
        exact ruTail_fine _ _ _ _ _ _ _ h (fun t a b => .inl ⟨.inl rfl, by simp only []; omega, by simp only []; omega, a, b⟩)
    · split at h
      · obtain ⟨m, r', ok, hq⟩ : ∃ m r' ok, numF cs 1 12 = (m, r', ok) := ⟨_, _, _, rfl⟩
        cases ok with
        | false => rw [ruM_no hq] at h; simp [noRu] at h
        | true =>
          have hm := numF_ok _ _ _ _ _ (by omega) hq
          by_cases h46 : r'.head? = some 46
          · obtain ⟨r1, rfl⟩ : ∃ r1, r' = 46 :: r1 := by cases r' with
              | nil => simp at h46
              | cons a b => simp at h46; exact ⟨b, by rw [h46]⟩
            rw [ruM_yes hq] at h
            obtain ⟨wk, r2, ok2, hq2⟩ : ∃ wk r2 ok2, numF r1 1 5 = (wk, r2, ok2) := ⟨_, _, _, rfl⟩
            cases ok2 with
            | false => rw [ruM2_no hq2] at h; simp [noRu] at h
            | true =>
              have hw := numF_ok _ _ _ _ _ (by omega) hq2
              by_cases h462 : r2.head? = some 46
              · obtain ⟨r3, rfl⟩ : ∃ r3, r2 = 46 :: r3 := by cases r2 with
                  | nil => simp at h462
                  | cons a b => simp at h462; exact ⟨b, by rw [h462]⟩
                rw [ruM2_yes hq2] at h
                obtain ⟨d, r4, ok4, hq4⟩ : ∃ d r4 ok4, numF r3 0 6 = (d, r4, ok4) := ⟨_, _, _, rfl⟩
                cases ok4 with
                | false => rw [ruM3_no hq4] at h; simp [noRu] at h
                | true =>
                  have hd := numF_ok _ _ _ _ _ (by omega) hq4
                  rw [ruM3_yes hq4] at h
                  exact ruTail_fine _ _ _ _ _ _ _ h (fun t a b => .inr ⟨rfl, hd.1, hd.2, hw.1, hw.2, hm.1, hm.2, a, b⟩)
              · rw [ruM2_end hq2 h462] at h; simp [noRu] at h
          · rw [ruM_end hq h46] at h; simp [noRu] at h
      · obtain ⟨d, r', ok, hq⟩ : ∃ d r' ok, numF (c :: cs) 0 365 = (d, r', ok) := ⟨_, _, _, rfl⟩
        cases ok with
        | false => rw [ruD_no hq] at h; simp [noRu] at h
        | true =>
          rw [ruD_yes hq] at h
          have hb := numF_ok _ _ _ _ _ (by omega) hq
          exact ruTail_fine _ _ _ _ _ _ _ h (fun t a b => .inl ⟨.inr rfl, hb.1, by simp only []; omega, a, b⟩)

end Go.Proofs.YtgmlclhdibajiaaDoor
