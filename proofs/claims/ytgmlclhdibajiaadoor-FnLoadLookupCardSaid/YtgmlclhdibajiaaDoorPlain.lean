/- Plain functions on lists of bytes: what the readers of TZ strings compute. No conditions. -/
import Derived.Laws.RangeAny
namespace Go.Proofs.YtgmlclhdibajiaaDoor

abbrev Bs := List UInt8

/-- tzsetNum's loop: 'first' tells that no byte has been read yet -/
def numGo (mn mx : Int) : Bool → Int → Bs → Int × Bs × Bool
  | _, num, [] => if num < mn then (0, [], false) else (num, [], true)
  | first, num, c :: cs =>
    if c.toNat < 48 ∨ 57 < c.toNat then (if first = true ∨ num < mn then (0, [], false) else (num, c :: cs, true))
    else if mx < num * 10 + ((c.toNat : Int) - 48) then (0, [], false) else numGo mn mx false (num * 10 + ((c.toNat : Int) - 48)) cs

def numF (l : Bs) (mn mx : Int) : Int × Bs × Bool := if l = [] then (0, [], false) else numGo mn mx true 0 l

theorem numGo_bd (mn mx : Int) : ∀ (l : Bs) (first : Bool) (num : Int), 0 ≤ num → num ≤ mx ∨ num = 0 →
    0 ≤ (numGo mn mx first num l).1 ∧ ((numGo mn mx first num l).1 ≤ mx ∨ (numGo mn mx first num l).1 = 0) := by
  intro l
  induction l with
  | nil => intro first num h0 h1; simp only [numGo]; split <;> simp <;> omega
  | cons c cs ih =>
    intro first num h0 h1
    simp only [numGo]
    split
    · split <;> simp <;> omega
    · split
      · simp
      · exact ih _ _ (by omega) (by omega)

theorem numF_bd (l : Bs) (mn mx : Int) (h : 0 ≤ mx) : 0 ≤ (numF l mn mx).1 ∧ (numF l mn mx).1 ≤ mx := by
  unfold numF
  split
  · simp; omega
  · have := numGo_bd mn mx l true 0 (by omega) (by omega); omega

theorem numGo_len (mn mx : Int) : ∀ (l : Bs) (first : Bool) (num : Int), (numGo mn mx first num l).2.1.length ≤ l.length := by
  intro l
  induction l with
  | nil => intro first num; simp only [numGo]; split <;> simp
  | cons c cs ih =>
    intro first num
    simp only [numGo]
    split
    · split <;> simp
    · split
      · simp
      · have := ih false (num * 10 + ((c.toNat : Int) - 48)); simp only [List.length_cons]; omega
theorem numF_len (l : Bs) (mn mx : Int) : (numF l mn mx).2.1.length ≤ l.length := by
  unfold numF
  split
  · simp
  · exact numGo_len _ _ _ _ _

/-- a sign that a text may begin with -/
def signOf : Bs → Bool × Bs
  | [] => (false, [])
  | c :: cs => if c = 43 then (false, cs) else if c = 45 then (true, cs) else (false, c :: cs)

def sgn (neg : Bool) (n : Int) : Int := if neg then -n else n

/-- tzsetOffset behind the seconds, the minutes, the hours -/
def offC (neg : Bool) (n : Int) (l : Bs) : Int × Bs × Bool :=
  match numF l 0 59 with
  | (k, l', true) => (sgn neg (n + k), l', true)
  | (_, _, false) => (0, [], false)
def offB (neg : Bool) (n : Int) (l : Bs) : Int × Bs × Bool :=
  match numF l 0 59 with
  | (k, l', true) => if l'.head? = some 58 then offC neg (n + k * 60) l'.tail else (sgn neg (n + k * 60), l', true)
  | (_, _, false) => (0, [], false)
def offA (neg : Bool) (l : Bs) : Int × Bs × Bool :=
  match numF l 0 168 with
  | (k, l', true) => if l'.head? = some 58 then offB neg (k * 3600) l'.tail else (sgn neg (k * 3600), l', true)
  | (_, _, false) => (0, [], false)
def offF (l : Bs) : Int × Bs × Bool := if l = [] then (0, [], false) else offA (signOf l).1 (signOf l).2

theorem offA_no {neg : Bool} {l l' : Bs} {k : Int} (h : numF l 0 168 = (k, l', false)) : offA neg l = (0, [], false) := by simp [offA, h]
theorem offA_nil {neg : Bool} {l : Bs} {k : Int} (h : numF l 0 168 = (k, [], true)) : offA neg l = (sgn neg (k * 3600), [], true) := by simp [offA, h]
theorem offA_end {neg : Bool} {l l' : Bs} {k : Int} {c : UInt8} (h : numF l 0 168 = (k, c :: l', true)) (hc : c ≠ 58) : offA neg l = (sgn neg (k * 3600), c :: l', true) := by simp [offA, h, hc]
theorem offA_go {neg : Bool} {l l' : Bs} {k : Int} (h : numF l 0 168 = (k, 58 :: l', true)) : offA neg l = offB neg (k * 3600) l' := by simp [offA, h]
theorem offB_no {neg : Bool} {n : Int} {l l' : Bs} {k : Int} (h : numF l 0 59 = (k, l', false)) : offB neg n l = (0, [], false) := by simp [offB, h]
theorem offB_nil {neg : Bool} {n : Int} {l : Bs} {k : Int} (h : numF l 0 59 = (k, [], true)) : offB neg n l = (sgn neg (n + k * 60), [], true) := by simp [offB, h]
theorem offB_end {neg : Bool} {n : Int} {l l' : Bs} {k : Int} {c : UInt8} (h : numF l 0 59 = (k, c :: l', true)) (hc : c ≠ 58) : offB neg n l = (sgn neg (n + k * 60), c :: l', true) := by simp [offB, h, hc]
theorem offB_go {neg : Bool} {n : Int} {l l' : Bs} {k : Int} (h : numF l 0 59 = (k, 58 :: l', true)) : offB neg n l = offC neg (n + k * 60) l' := by simp [offB, h]
theorem offC_no {neg : Bool} {n : Int} {l l' : Bs} {k : Int} (h : numF l 0 59 = (k, l', false)) : offC neg n l = (0, [], false) := by simp [offC, h]
theorem offC_yes {neg : Bool} {n : Int} {l l' : Bs} {k : Int} (h : numF l 0 59 = (k, l', true)) : offC neg n l = (sgn neg (n + k), l', true) := by simp [offC, h]
theorem signOf_cases (c : UInt8) (cs : Bs) : (((c.toNat : Int) == 43) = true ∧ signOf (c :: cs) = (false, cs)) ∨ (((c.toNat : Int) == 43) = false ∧ ((c.toNat : Int) == 45) = true ∧ signOf (c :: cs) = (true, cs)) ∨
    (((c.toNat : Int) == 43) = false ∧ ((c.toNat : Int) == 45) = false ∧ signOf (c :: cs) = (false, c :: cs)) := by
  by_cases h1 : c = 43
  · subst h1; exact .inl ⟨rfl, rfl⟩
  · have e1 : ((c.toNat : Int) == 43) = false := by
      rw [beq_eq_false_iff_ne]; intro h; exact h1 (UInt8.toNat_inj.1 (by show c.toNat = 43; omega))
    by_cases h2 : c = 45
    · subst h2; exact .inr (.inl ⟨rfl, rfl, rfl⟩)
    · have e2 : ((c.toNat : Int) == 45) = false := by
        rw [beq_eq_false_iff_ne]; intro h; exact h2 (UInt8.toNat_inj.1 (by show c.toNat = 45; omega))
      exact .inr (.inr ⟨e1, e2, by simp [signOf, h1, h2]⟩)
theorem byte_cases (c : UInt8) (n : UInt8) : (c = n ∧ ((c.toNat : Int) == (n.toNat : Int)) = true) ∨ (c ≠ n ∧ ((c.toNat : Int) == (n.toNat : Int)) = false) := by
  by_cases h : c = n
  · exact .inl ⟨h, by simp [h]⟩
  · refine .inr ⟨h, ?_⟩
    rw [beq_eq_false_iff_ne]; intro e; exact h (UInt8.toNat_inj.1 (by omega))

def isDig (c : UInt8) : Bool := decide (48 ≤ c.toNat) && decide (c.toNat ≤ 57)
theorem isDig_iff (c : UInt8) : isDig c = true ↔ 48 ≤ c.toNat ∧ c.toNat ≤ 57 := by simp [isDig]
def cntDig (l : Bs) : Nat := (l.takeWhile isDig).length
theorem cntDig_le (l : Bs) : cntDig l ≤ l.length := by
  unfold cntDig; exact (List.takeWhile_prefix _).length_le
theorem cntDig_lt : ∀ (l : Bs) (k : Nat) (h : k < l.length), k < cntDig l → 48 ≤ (l[k]'h).toNat ∧ (l[k]'h).toNat ≤ 57 := by
  intro l
  induction l with
  | nil => intro k h; simp at h
  | cons c cs ih =>
    intro k h hk
    by_cases hc : isDig c = true
    · cases k with
      | zero => simpa [isDig] using hc
      | succ k =>
        have : k < cntDig cs := by simp [cntDig, hc] at hk; exact hk
        exact ih k _ this
    · simp [cntDig, hc] at hk
theorem cntDig_stop : ∀ (l : Bs) (h : cntDig l < l.length), ¬ (48 ≤ (l[cntDig l]'h).toNat ∧ (l[cntDig l]'h).toNat ≤ 57) := by
  intro l
  induction l with
  | nil => intro h; simp at h
  | cons c cs ih =>
    intro h
    by_cases hc : isDig c = true
    · have e : cntDig (c :: cs) = cntDig cs + 1 := by simp [cntDig, hc]
      simp only [e, List.getElem_cons_succ]
      rw [e] at h
      exact ih (by simpa using h)
    · have e : cntDig (c :: cs) = 0 := by simp [cntDig, hc]
      simp only [e, List.getElem_cons_zero]
      rw [isDig_iff] at hc
      exact hc
theorem take_cnt (l : Bs) : l.take (cntDig l) = l.takeWhile isDig := by
  have := List.prefix_iff_eq_take.1 (List.takeWhile_prefix (l := l) isDig)
  exact this.symm
theorem drop_cnt (l : Bs) : l.drop (cntDig l) = l.dropWhile isDig := by
  have h := List.takeWhile_append_dropWhile (p := isDig) (l := l)
  have h2 : (l.takeWhile isDig ++ l.dropWhile isDig).drop (cntDig l) = l.dropWhile isDig := by
    rw [cntDig, List.drop_append_of_le_length (Nat.le_refl _)]; simp
  rw [h] at h2
  exact h2

/-- the reference's loop over digits -/
def specLoop (mx : Int) : Int → Bs → Int
  | n, [] => n
  | n, c :: cs => if n ≤ mx then specLoop mx (n * 10 + ((c.toNat : Int) - 48)) cs else n
def specNum (l : Bs) (mn mx : Int) : Int × Bs × Bool :=
  if l.takeWhile isDig = [] ∨ specLoop mx 0 (l.takeWhile isDig) < mn ∨ mx < specLoop mx 0 (l.takeWhile isDig) then (0, [], false)
  else (specLoop mx 0 (l.takeWhile isDig), l.dropWhile isDig, true)
theorem specLoop_big (mx n : Int) (h : mx < n) (l : Bs) : specLoop mx n l = n := by
  cases l with
  | nil => rfl
  | cons c cs => simp only [specLoop]; rw [if_neg (by omega)]
theorem numGo_spec (mn mx : Int) : ∀ (l : Bs) (num : Int), num ≤ mx → numGo mn mx false num l =
    if specLoop mx num (l.takeWhile isDig) < mn ∨ mx < specLoop mx num (l.takeWhile isDig) then (0, [], false) else (specLoop mx num (l.takeWhile isDig), l.dropWhile isDig, true) := by
  intro l
  induction l with
  | nil =>
    intro num h
    simp only [numGo, List.takeWhile_nil, specLoop, List.dropWhile_nil]
    by_cases h1 : num < mn
    · rw [if_pos h1, if_pos (.inl h1)]
    · rw [if_neg h1, if_neg (by omega)]
  | cons c cs ih =>
    intro num h
    by_cases hc : isDig c = true
    · have hn : ¬ (c.toNat < 48 ∨ 57 < c.toNat) := by rw [isDig_iff] at hc; omega
      simp only [numGo, if_neg hn, List.takeWhile_cons_of_pos hc, List.dropWhile_cons_of_pos hc, specLoop, if_pos h]
      by_cases hm : mx < num * 10 + ((c.toNat : Int) - 48)
      · rw [if_pos hm, specLoop_big _ _ hm, if_pos (.inr hm)]
      · rw [if_neg hm]
        exact ih _ (by omega)
    · have hn : c.toNat < 48 ∨ 57 < c.toNat := by rw [isDig_iff] at hc; omega
      simp only [numGo, if_pos hn, List.takeWhile_cons_of_neg hc, List.dropWhile_cons_of_neg hc, specLoop]
      by_cases h1 : num < mn
      · rw [if_pos (.inr h1), if_pos (.inl h1)]
      · rw [if_neg (by simp [h1]), if_neg (by omega)]
theorem specNum_eq (l : Bs) (mn mx : Int) (h : 0 ≤ mx) : specNum l mn mx = numF l mn mx := by
  cases l with
  | nil => simp [specNum, numF]
  | cons c cs =>
    by_cases hc : isDig c = true
    · have e : numF (c :: cs) mn mx = numGo mn mx false 0 (c :: cs) := by
        have hn : ¬ (c.toNat < 48 ∨ 57 < c.toNat) := by rw [isDig_iff] at hc; omega
        simp [numF, numGo, hn]
      rw [e, numGo_spec _ _ _ _ h, specNum]
      have : (c :: cs).takeWhile isDig ≠ [] := by simp [hc]
      simp only [this, false_or]
    · have hn : c.toNat < 48 ∨ 57 < c.toNat := by rw [isDig_iff] at hc; omega
      simp [specNum, numF, numGo, hn, hc]

/-- a digit; a number of two digits; one below a thousand -/
def dig (d : Int) : UInt8 := UInt8.ofNat (48 + d).toNat
def twoT (n : Int) : Bs := [dig (n / 10), dig (n % 10)]
def decT (n : Int) : Bs :=
  if n < 10 then [dig (n % 10)] else if n < 100 then [dig (n / 10 % 10), dig (n % 10)] else [dig (n / 10 / 10 % 10), dig (n / 10 % 10), dig (n % 10)]
theorem decT_len (n : Int) : (decT n).length ≤ 3 := by unfold decT; split; simp; split <;> simp
theorem twoT_len (n : Int) : (twoT n).length ≤ 2 := by simp [twoT]
/-- a number of seconds as a clock: behind its sign -/
def clkA (n : Int) (whole : Bool) : Bs :=
  decT (n / 3600) ++ ((if whole = true ∨ n % 3600 ≠ 0 then 58 :: twoT (n / 60 % 60) else []) ++ (if whole = true ∨ n % 60 ≠ 0 then 58 :: twoT (n % 60) else []))
theorem clkA_len (n : Int) (whole : Bool) : (clkA n whole).length ≤ 9 := by
  have h1 := decT_len (n / 3600)
  have h2 := twoT_len (n / 60 % 60)
  have h3 := twoT_len (n % 60)
  unfold clkA
  rw [List.length_append, List.length_append]
  split <;> split <;> simp only [List.length_cons, List.length_nil] <;> omega
def clkT (n : Int) (whole : Bool) : Bs := if n < 0 then 45 :: clkA (-n) whole else clkA n whole
theorem clkT_len (n : Int) (whole : Bool) : (clkT n whole).length ≤ 10 := by
  have h1 := clkA_len n whole
  have h2 := clkA_len (-n) whole
  unfold clkT
  split
  · simp only [List.length_cons]; omega
  · omega

end Go.Proofs.YtgmlclhdibajiaaDoor
