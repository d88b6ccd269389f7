/- Plain laws: a name as text is read back; one or two letters are no name. -/
import Derived.Test.YtcjibjggaleclaaName
import Derived.Test.YtcjibjggaleclaaPlainC
namespace Go.Proofs.Ytcjibjggaleclaa

theorem decode_S (l : Bs) (k : Nat) (h : k < l.length) (ha : l[k].toNat < 128) : Utf8.decode (S l) k = (l[k].toNat, 1) := by
  have hs : k < (S l).size := by rw [S_size]; exact h
  have hg : (S l)[k]'hs = l[k] := S_get l k hs
  have := decode_ascii (S l) k hs (by rw [hg]; exact ha)
  rw [hg] at this
  exact this

theorem scan_some (stop : Nat → Bool) (l : Bs) (k : Nat) (hk : k < l.length) (hka : l[k].toNat < 128) (hks : stop l[k].toNat = true) :
    ∀ (b pos : Nat), pos ≤ k → k < pos + b → (∀ i (h : i < l.length), pos ≤ i → i < k → l[i].toNat < 128 ∧ stop l[i].toNat = false) → scan stop (S l) b pos = some k := by
  intro b
  induction b with
  | zero => intro pos h1 h2; omega
  | succ b ih =>
    intro pos h1 h2 hall
    have hp : pos < (S l).size := by rw [S_size]; omega
    rw [scan, if_pos hp]
    by_cases he : pos = k
    · subst he
      rw [decode_S l pos hk hka]
      simp [hks]
    · obtain ⟨ha, hs⟩ := hall pos (by omega) (Nat.le_refl _) (by omega)
      rw [decode_S l pos (by omega) ha]
      simp only [hs, Bool.false_eq_true, if_false]
      exact ih (pos + 1) (by omega) (by omega) (fun i h h3 h4 => hall i h (by omega) h4)
theorem scan_none (stop : Nat → Bool) (l : Bs) : ∀ (b pos : Nat), (∀ i (h : i < l.length), pos ≤ i → l[i].toNat < 128 ∧ stop l[i].toNat = false) → scan stop (S l) b pos = none := by
  intro b
  induction b with
  | zero => intro pos _; rfl
  | succ b ih =>
    intro pos hall
    by_cases hp : pos < (S l).size
    · rw [scan, if_pos hp]
      have hp' : pos < l.length := by rw [S_size] at hp; exact hp
      obtain ⟨ha, hs⟩ := hall pos hp' (Nat.le_refl _)
      rw [decode_S l pos hp' ha]
      simp only [hs, Bool.false_eq_true, if_false]
      exact ih (pos + 1) (fun i h h3 => hall i h (by omega))
    · exact scan_end _ _ _ _ hp

theorem letB_stop (c : UInt8) (h : letB c = true) : c.toNat < 128 ∧ nameStop c.toNat = false := by
  simp [letB] at h
  refine ⟨by omega, ?_⟩
  simp [nameStop]; omega
theorem brkB_stop (c : UInt8) (h : brkB c = true) : c.toNat < 128 ∧ brkStop c.toNat = false := by
  simp [brkB, letB] at h
  refine ⟨by omega, ?_⟩
  simp [brkStop]; omega

/-- what may stand behind a name of letters -/
def nameEnd (r : Bs) : Prop := ∀ c, r.head? = some c → nameStop c.toNat = true
theorem nameStop_lt (r : Nat) (h : nameStop r = true) : r < 128 := by simp [nameStop] at h; omega

/-- the scan over letters with a stop, or nothing, behind them -/
theorem scan_letters (n r : Bs) (hn : ∀ c ∈ n, letB c = true) (hr : nameEnd r) :
    scan nameStop (S (n ++ r)) (n ++ r).length 0 = if r = [] then none else some n.length := by
  cases r with
  | nil =>
    rw [if_pos rfl, List.append_nil]
    exact scan_none _ _ _ _ (fun i h _ => letB_stop _ (hn _ (List.getElem_mem h)))
  | cons c cs =>
    rw [if_neg (by simp)]
    have hst := hr c rfl
    have hl : n.length < (n ++ c :: cs).length := by simp
    have hg : (n ++ c :: cs)[n.length]'hl = c := by simp
    refine scan_some nameStop _ n.length hl (by rw [hg]; exact nameStop_lt _ hst) (by rw [hg]; exact hst) _ 0 (Nat.zero_le _) (by omega) ?_
    intro i h _ h2
    have : (n ++ c :: cs)[i]'h = n[i]'h2 := List.getElem_append_left h2
    rw [this]
    exact letB_stop _ (hn _ (List.getElem_mem h2))

theorem nameF_first (n r : Bs) (hn : ∀ c ∈ n, letB c = true) (hr : nameEnd r) (h : n ++ r ≠ []) : nameF (n ++ r) = nameA (n ++ r) (if r = [] then none else some n.length) := by
  have hs := scan_letters n r hn hr
  have h60 : ∀ c, (n ++ r).head? = some c → c ≠ 60 := by
    intro c hc
    cases n with
    | nil =>
      have := hr c (by simpa using hc)
      intro e; subst e; exact absurd this (by decide)
    | cons d ds =>
      simp at hc
      subst hc
      have := hn d (by simp)
      intro e; subst e; exact absurd this (by decide)
  generalize n ++ r = l at *
  cases l with
  | nil => exact absurd rfl h
  | cons c cs => rw [nameF, if_neg (h60 c rfl), hs]

theorem nameF_named (n r : Bs) (hn : namedB n = true) (hr : nameEnd r) : nameF (n ++ r) = (n, r, true) := by
  have hlen : 3 ≤ n.length := by simp [namedB, lenB] at hn; exact hn.2.1
  have hne : n ++ r ≠ [] := by intro h; simp at h; rw [h.1] at hlen; simp at hlen
  rw [nameF_first n r (namedB_all n hn) hr hne]
  by_cases h : r = []
  · subst h
    rw [if_pos rfl, nameA, List.append_nil, if_neg (by omega)]
  · rw [if_neg h, nameA, if_neg (by omega)]
    simp
theorem nameF_brk (n r : Bs) (hn : brackB n = true) : nameF (60 :: (n ++ 62 :: r)) = (n, r, true) := by
  have hb := brackB_all n hn
  rw [nameF, if_pos rfl]
  have hl : n.length + 1 < (60 :: (n ++ 62 :: r)).length := by simp
  have hg : (60 :: (n ++ 62 :: r))[n.length + 1]'hl = 62 := by simp
  have hs := scan_some brkStop (60 :: (n ++ 62 :: r)) (n.length + 1) hl (by rw [hg]; decide) (by rw [hg]; decide) (60 :: (n ++ 62 :: r)).length 0 (Nat.zero_le _) (by omega) (by
    intro i h _ h2
    cases i with
    | zero => exact ⟨show (60 : UInt8).toNat < 128 by decide, show brkStop (60 : UInt8).toNat = false by decide⟩
    | succ i =>
      have h3 : i < n.length := by omega
      have e : (60 :: (n ++ 62 :: r))[i + 1]'h = n[i]'h3 := by
        rw [List.getElem_cons_succ]; exact List.getElem_append_left h3
      rw [e]
      exact brkB_stop _ (hb _ (List.getElem_mem h3)))
  rw [hs]
  simp [nameBr]

theorem nameF_nameT (n r : Bs) (hn : brackB n = true) (hr : namedB n = true → nameEnd r) : nameF (nameT n ++ r) = (n, r, true) := by
  unfold nameT
  cases h : namedB n
  · simp only [Bool.false_eq_true, if_false]
    have := nameF_brk n r hn
    simpa using this
  · simp only [if_true]
    exact nameF_named n r h (hr h)

theorem nameF_short (n r : Bs) (hl : n.length ≤ 2) (hn : ∀ c ∈ n, letB c = true) (hr : nameEnd r) : (nameF (n ++ r)).2.2 = false := by
  by_cases hne : n ++ r = []
  · rw [hne]; rfl
  · rw [nameF_first n r hn hr hne]
    by_cases h : r = []
    · subst h
      rw [if_pos rfl, nameA, List.append_nil, if_pos (by omega)]
    · rw [if_neg h, nameA, if_pos (by omega)]

theorem end_yes (c : UInt8) (h : nameStop c.toNat = true) : (decide (48 ≤ (c.toNat : Int)) = false ∧ (c.toNat : Int) ≤ 57 ∧ ((c.toNat : Int) == 43) = true ∧ ((c.toNat : Int) == 45) = false ∧ ((c.toNat : Int) == 44) = false) ∨ (decide (48 ≤ (c.toNat : Int)) = false ∧ (c.toNat : Int) ≤ 57 ∧ ((c.toNat : Int) == 43) = false ∧ ((c.toNat : Int) == 45) = false ∧ ((c.toNat : Int) == 44) = true) ∨ (decide (48 ≤ (c.toNat : Int)) = false ∧ (c.toNat : Int) ≤ 57 ∧ ((c.toNat : Int) == 43) = false ∧ ((c.toNat : Int) == 45) = true ∧ ((c.toNat : Int) == 44) = false) ∨ (48 ≤ (c.toNat : Int) ∧ (c.toNat : Int) ≤ 57 ∧ ((c.toNat : Int) == 43) = false ∧ ((c.toNat : Int) == 45) = false ∧ ((c.toNat : Int) == 44) = false) := by
  simp only [beq_iff_eq, beq_eq_false_iff_ne, ne_eq, decide_eq_false_iff_not]
  simp [nameStop] at h
  omega
theorem end_no (c : UInt8) (h : nameStop c.toNat = false) : (decide (48 ≤ (c.toNat : Int)) = false ∧ (c.toNat : Int) ≤ 57 ∧ ((c.toNat : Int) == 43) = false ∧ ((c.toNat : Int) == 45) = false ∧ ((c.toNat : Int) == 44) = false) ∨ (48 ≤ (c.toNat : Int) ∧ decide ((c.toNat : Int) ≤ 57) = false ∧ ((c.toNat : Int) == 43) = false ∧ ((c.toNat : Int) == 45) = false ∧ ((c.toNat : Int) == 44) = false) := by
  simp only [beq_eq_false_iff_ne, ne_eq, decide_eq_false_iff_not]
  simp [nameStop] at h
  omega

end Go.Proofs.Ytcjibjggaleclaa
