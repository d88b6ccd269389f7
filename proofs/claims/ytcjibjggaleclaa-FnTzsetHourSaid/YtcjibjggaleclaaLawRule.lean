/- FnExactRule and FnRuleSpoilt: their walks. -/
import Derived.Test.YtcjibjggaleclaaPlainF
namespace Go.Proofs.Ytcjibjggaleclaa
open Go.RowKit

def ruStop (c : UInt8) : Bool := (decide (48 ≤ c.toNat) && decide (c.toNat ≤ 57)) || decide (c.toNat = 47) || decide (c.toNat = 58)
theorem ruStop_yes (c : UInt8) (h : ruStop c = true) : (((c.toNat : Int) == 47) = true ∧ ((c.toNat : Int) == 58) = false ∧ decide (48 ≤ (c.toNat : Int)) = false ∧ (c.toNat : Int) ≤ 57) ∨ (((c.toNat : Int) == 47) = false ∧ ((c.toNat : Int) == 58) = false ∧ 48 ≤ (c.toNat : Int) ∧ (c.toNat : Int) ≤ 57) ∨ (((c.toNat : Int) == 47) = false ∧ ((c.toNat : Int) == 58) = true ∧ 48 ≤ (c.toNat : Int) ∧ decide ((c.toNat : Int) ≤ 57) = false) := by
  simp only [beq_iff_eq, beq_eq_false_iff_ne, ne_eq, decide_eq_false_iff_not]
  simp [ruStop] at h
  omega
theorem ruStop_no (c : UInt8) (h : ruStop c = false) : (((c.toNat : Int) == 47) = false ∧ ((c.toNat : Int) == 58) = false ∧ decide (48 ≤ (c.toNat : Int)) = false ∧ (c.toNat : Int) ≤ 57) ∨ (((c.toNat : Int) == 47) = false ∧ ((c.toNat : Int) == 58) = false ∧ 48 ≤ (c.toNat : Int) ∧ decide ((c.toNat : Int) ≤ 57) = false) := by
  simp only [beq_eq_false_iff_ne, ne_eq, decide_eq_false_iff_not]
  simp [ruStop] at h
  omega
theorem noRul_of (r : Bs) (hp : 0 < r.length) (h : ruStop r[0] = false) : noRul r := by
  have hh : r.head? = some r[0] := by cases r; simp at hp; rfl
  simp [ruStop] at h
  refine ⟨⟨fun c hc => ?_, ?_⟩, ?_⟩
  · rw [hh] at hc; injection hc with hc; subst hc; omega
  · rw [hh]; intro hc; injection hc with hc; rw [hc] at h; revert h; decide
  · rw [hh]; intro hc; injection hc with hc; rw [hc] at h; revert h; decide
theorem Ret.box {f : FuncId} {args : Array Value} {v : Value} (h : Ret f args v) {w : World} {r : Ru} {W : World} (hB : InBox w r W) : Calls Try.prog f args W fun e W' => e = .returned v ∧ InBox w r W' :=
  (h W).mono fun _ _ ⟨he, hb⟩ => ⟨he, hB.below hb⟩
theorem RuleText_ok (r : Ru) (whole : Bool) (h : ruOk r = true) : Ret 11 #[ruA r, .bool whole] (.string (S (ruT r whole))) := by
  obtain ⟨a, b, c, d, e, f, g, i, _⟩ := ruOk_bd r h
  exact RuleText_ret r whole a b c d e f g i

end Go.Proofs.Ytcjibjggaleclaa
