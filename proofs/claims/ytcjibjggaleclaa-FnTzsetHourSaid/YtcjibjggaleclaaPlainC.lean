/- Plain words on names of zones. -/
import Derived.Test.YtcjibjggaleclaaPlainB
namespace Go.Proofs.Ytcjibjggaleclaa

def letB (c : UInt8) : Bool := (decide (65 ≤ c.toNat) && decide (c.toNat ≤ 90)) || (decide (97 ≤ c.toNat) && decide (c.toNat ≤ 122))
def brkB (c : UInt8) : Bool := letB c || (decide (48 ≤ c.toNat) && decide (c.toNat ≤ 57)) || decide (c.toNat = 43) || decide (c.toNat = 45)
def lenB (l : Bs) : Bool := decide (3 ≤ l.length) && decide (l.length ≤ 100)
def namedB (l : Bs) : Bool := l.all letB && lenB l
def brackB (l : Bs) : Bool := l.all brkB && lenB l
def nameT (l : Bs) : Bs := if namedB l then l else 60 :: (l ++ [62])

theorem letB_yes (c : UInt8) (h : letB c = true) : (65 ≤ (c.toNat : Int) ∧ (c.toNat : Int) ≤ 90 ∧ ¬ 97 ≤ (c.toNat : Int) ∧ (c.toNat : Int) ≤ 122) ∨ (65 ≤ (c.toNat : Int) ∧ ¬ (c.toNat : Int) ≤ 90 ∧ 97 ≤ (c.toNat : Int) ∧ (c.toNat : Int) ≤ 122) := by
  simp [letB] at h
  omega
theorem letB_no (c : UInt8) (h : ¬ letB c = true) : (¬ 65 ≤ (c.toNat : Int) ∧ (c.toNat : Int) ≤ 90 ∧ ¬ 97 ≤ (c.toNat : Int) ∧ (c.toNat : Int) ≤ 122) ∨ (65 ≤ (c.toNat : Int) ∧ ¬ (c.toNat : Int) ≤ 90 ∧ ¬ 97 ≤ (c.toNat : Int) ∧ (c.toNat : Int) ≤ 122) ∨ (65 ≤ (c.toNat : Int) ∧ ¬ (c.toNat : Int) ≤ 90 ∧ 97 ≤ (c.toNat : Int) ∧ ¬ (c.toNat : Int) ≤ 122) := by
  simp [letB] at h
  omega
theorem brkB_yes (c : UInt8) (h : brkB c = true) : (¬ 65 ≤ (c.toNat : Int) ∧ (c.toNat : Int) ≤ 90 ∧ ¬ 97 ≤ (c.toNat : Int) ∧ (c.toNat : Int) ≤ 122 ∧ ¬ 48 ≤ (c.toNat : Int) ∧ (c.toNat : Int) ≤ 57 ∧ ((c.toNat : Int) == 43) = true ∧ ((c.toNat : Int) == 45) = false) ∨ (¬ 65 ≤ (c.toNat : Int) ∧ (c.toNat : Int) ≤ 90 ∧ ¬ 97 ≤ (c.toNat : Int) ∧ (c.toNat : Int) ≤ 122 ∧ ¬ 48 ≤ (c.toNat : Int) ∧ (c.toNat : Int) ≤ 57 ∧ ((c.toNat : Int) == 43) = false ∧ ((c.toNat : Int) == 45) = true) ∨ (¬ 65 ≤ (c.toNat : Int) ∧ (c.toNat : Int) ≤ 90 ∧ ¬ 97 ≤ (c.toNat : Int) ∧ (c.toNat : Int) ≤ 122 ∧ 48 ≤ (c.toNat : Int) ∧ (c.toNat : Int) ≤ 57 ∧ ((c.toNat : Int) == 43) = false ∧ ((c.toNat : Int) == 45) = false) ∨ (65 ≤ (c.toNat : Int) ∧ (c.toNat : Int) ≤ 90 ∧ ¬ 97 ≤ (c.toNat : Int) ∧ (c.toNat : Int) ≤ 122 ∧ 48 ≤ (c.toNat : Int) ∧ ¬ (c.toNat : Int) ≤ 57 ∧ ((c.toNat : Int) == 43) = false ∧ ((c.toNat : Int) == 45) = false) ∨ (65 ≤ (c.toNat : Int) ∧ ¬ (c.toNat : Int) ≤ 90 ∧ 97 ≤ (c.toNat : Int) ∧ (c.toNat : Int) ≤ 122 ∧ 48 ≤ (c.toNat : Int) ∧ ¬ (c.toNat : Int) ≤ 57 ∧ ((c.toNat : Int) == 43) = false ∧ ((c.toNat : Int) == 45) = false) := by
  simp only [beq_iff_eq, beq_eq_false_iff_ne, ne_eq]
  simp [brkB, letB] at h
  omega
theorem brkB_no (c : UInt8) (h : ¬ brkB c = true) : (¬ 65 ≤ (c.toNat : Int) ∧ (c.toNat : Int) ≤ 90 ∧ ¬ 97 ≤ (c.toNat : Int) ∧ (c.toNat : Int) ≤ 122 ∧ ¬ 48 ≤ (c.toNat : Int) ∧ (c.toNat : Int) ≤ 57 ∧ ((c.toNat : Int) == 43) = false ∧ ((c.toNat : Int) == 45) = false) ∨ (¬ 65 ≤ (c.toNat : Int) ∧ (c.toNat : Int) ≤ 90 ∧ ¬ 97 ≤ (c.toNat : Int) ∧ (c.toNat : Int) ≤ 122 ∧ 48 ≤ (c.toNat : Int) ∧ ¬ (c.toNat : Int) ≤ 57 ∧ ((c.toNat : Int) == 43) = false ∧ ((c.toNat : Int) == 45) = false) ∨ (65 ≤ (c.toNat : Int) ∧ ¬ (c.toNat : Int) ≤ 90 ∧ ¬ 97 ≤ (c.toNat : Int) ∧ (c.toNat : Int) ≤ 122 ∧ 48 ≤ (c.toNat : Int) ∧ ¬ (c.toNat : Int) ≤ 57 ∧ ((c.toNat : Int) == 43) = false ∧ ((c.toNat : Int) == 45) = false) ∨ (65 ≤ (c.toNat : Int) ∧ ¬ (c.toNat : Int) ≤ 90 ∧ 97 ≤ (c.toNat : Int) ∧ ¬ (c.toNat : Int) ≤ 122 ∧ 48 ≤ (c.toNat : Int) ∧ ¬ (c.toNat : Int) ≤ 57 ∧ ((c.toNat : Int) == 43) = false ∧ ((c.toNat : Int) == 45) = false) := by
  simp only [beq_eq_false_iff_ne, ne_eq]
  simp [brkB, letB] at h
  omega
theorem all_take_succ (p : UInt8 → Bool) (l : Bs) (k : Nat) (h : k < l.length) (ha : (l.take k).all p = true) (hk : p l[k] = true) : (l.take (k + 1)).all p = true := by
  rw [List.take_succ_eq_append_getElem h, List.all_append, ha]; simp [hk]
theorem all_false (p : UInt8 → Bool) (l : Bs) (k : Nat) (h : k < l.length) (hk : ¬ p l[k] = true) : l.all p = false := by
  rw [List.all_eq_false]; exact ⟨l[k], List.getElem_mem h, hk⟩
theorem lenB_cases (l : Bs) : (lenB l = true ∧ (3 : Int) ≤ (l.length : Int) ∧ (l.length : Int) ≤ 100) ∨ (lenB l = false ∧ ¬ ((3 : Int) ≤ (l.length : Int) ∧ (l.length : Int) ≤ 100)) := by
  cases h : lenB l
  · right; simp [lenB] at h; exact ⟨rfl, by omega⟩
  · left; simp [lenB] at h; exact ⟨rfl, by omega, by omega⟩
theorem letB_brkB (c : UInt8) (h : letB c = true) : brkB c = true := by simp [brkB, h]
theorem brackB_all (l : Bs) (h : brackB l = true) : ∀ c ∈ l, brkB c = true := by
  simp [brackB] at h; exact h.1
theorem brackB_len (l : Bs) (h : brackB l = true) : 3 ≤ l.length ∧ l.length ≤ 100 := by
  simp [brackB, lenB] at h; exact h.2
theorem namedB_all (l : Bs) (h : namedB l = true) : ∀ c ∈ l, letB c = true := by
  simp [namedB] at h; exact h.1
theorem nameT_len (l : Bs) : (nameT l).length ≤ l.length + 2 := by
  unfold nameT; split <;> simp

end Go.Proofs.Ytcjibjggaleclaa
