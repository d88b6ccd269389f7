/- OffsetOf, reads, and the reference's Offset. -/
import Derived.Test.YtcjibjggaleclaaSpecNum
namespace Go.Proofs.Ytcjibjggaleclaa
open Go.RowKit

theorem TzsetOffset_ret (l : Bs) : Ret 24 #[.string (S l)] (numV (offF l)) := by
  intro w
  go_enter Try.func24, Try.ntmps24
  go_wp2_with fail
  refine (tzsetOffset_ret l _).mono ?_
  rintro e w1 ⟨rfl, hb⟩
  unfold numV
  go_wp2
  go_ret3
  exact ⟨rfl, hb⟩
theorem OffsetOf_ret (l : Bs) : Ret 16 #[.string (S l)] (numV (offF l)) := by
  intro w
  go_enter Try.func16, Try.ntmps16
  go_wp2_with fail
  refine (TzsetOffset_ret l _).mono ?_
  rintro e w1 ⟨rfl, hb⟩
  unfold numV
  go_wp2
  go_ret3
  exact ⟨rfl, hb⟩
theorem reads_ret : Ret 7 #[] (.bool true) := by
  intro w
  go_enter Try.func7, Try.ntmps7
  go_wp2_with fail
  refine (OffsetOf_ret [45, 49, 58, 51, 48, 44, 120] _).mono ?_
  rintro e w1 ⟨rfl, hb⟩
  rw [show offF [45, 49, 58, 51, 48, 44, 120] = (-5400, [44, 120], true) by decide]
  unfold numV
  go_wp2
  go_ret
  exact ⟨rfl, hb⟩

/-- the reference's loop over minutes and seconds: k units are still to come -/
def unitOf : Nat → Int
  | 0 => 0
  | 1 => 1
  | _ => 60
def offL : Nat → Int → Bs → Bool → Int × Bs × Bool
  | _, _, _, false => (0, [], false)
  | 0, n, r, true => (n, r, true)
  | k + 1, n, r, true => if r.head? = some 58 then offL k (n + (numF r.tail 0 59).1 * unitOf (k + 1)) (numF r.tail 0 59).2.1 (numF r.tail 0 59).2.2 else (n, r, true)
def signed (neg : Bool) (x : Int × Bs × Bool) : Int × Bs × Bool := if x.2.2 then (sgn neg x.1, x.2.1, true) else (0, [], false)
theorem offL_false (k : Nat) (n : Int) (r : Bs) : offL k n r false = (0, [], false) := by cases k <;> rfl
theorem offL_end (k : Nat) (n : Int) (r : Bs) (h : r.head? ≠ some 58) : offL k n r true = (n, r, true) := by
  cases k with
  | zero => rfl
  | succ k => simp [offL, h]
theorem offL_go (k : Nat) (n m : Int) (r r' : Bs) (ok : Bool) (h : numF r 0 59 = (m, r', ok)) : offL (k + 1) n (58 :: r) true = offL k (n + m * unitOf (k + 1)) r' ok := by
  simp [offL, h]
theorem offL_eq (neg : Bool) (l : Bs) : offA neg l = signed neg (offL 2 ((numF l 0 168).1 * 3600) (numF l 0 168).2.1 (numF l 0 168).2.2) := by
  unfold offA
  rcases numF l 0 168 with ⟨h, l2, ok⟩
  cases ok with
  | false => rfl
  | true =>
    simp only []
    by_cases h2 : l2.head? = some 58
    · rw [if_pos h2]
      simp only [offL, if_pos h2, offB]
      rcases numF l2.tail 0 59 with ⟨m, l3, ok3⟩
      cases ok3 with
      | false => rfl
      | true =>
        simp only []
        by_cases h3 : l3.head? = some 58
        · rw [if_pos h3]
          simp only [offL, if_pos h3, offC]
          rcases numF l3.tail 0 59 with ⟨sc, l4, ok4⟩
          cases ok4 with
          | false => rfl
          | true => simp [offL, signed, unitOf]
        · rw [if_neg h3]
          simp only [offL, if_neg h3]
          simp [signed, unitOf]
    · rw [if_neg h2]
      simp only [offL, if_neg h2]
      simp [signed]
theorem offF_eq (l : Bs) : offF l = signed (signOf l).1 (offL 2 ((numF (signOf l).2 0 168).1 * 3600) (numF (signOf l).2 0 168).2.1 (numF (signOf l).2 0 168).2.2) := by
  cases l with
  | nil => rfl
  | cons c cs => rw [offF, if_neg (by simp), offL_eq]

def sg (neg : Bool) : Int := if neg then -1 else 1
theorem sg_mul (neg : Bool) (n : Int) : sg neg * n = sgn neg n := by cases neg <;> simp [sg, sgn]

end Go.Proofs.Ytcjibjggaleclaa
