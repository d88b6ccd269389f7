/- What tzset computes, as plain functions; words for its walk. -/
import Derived.Test.YtgmlclhdibajiaaDoorTzF
import Derived.Test.YtgmlclhdibajiaaDoorDate
import Derived.Deep.Cut
namespace Go.Proofs.YtgmlclhdibajiaaDoor
open Go.RowKit

def tzV (n : Bs) (off st en : Int) (dst ok : Bool) : Value := .tuple #[.string (S n), .int .i64 off, .int .i64 st, .int .i64 en, .bool dst, .bool ok]
def absF (sec : Int) : Int := IntKind.u64.wrap (wrap64 (wrap64 (sec + 62135596800) + 9223371966606163200))
def tzYear (sec : Int) : Int := yearF (absF sec / 86400)
def tzYsec (sec : Int) : Int := (ydayF (absF sec / 86400) - 1) * 86400 + sec.tmod 86400
def tzYst (sec : Int) : Int := wrap64 (sec - tzYsec sec)
/-- the zone by the seconds of the year: first one, then the other, then the first again -/
def seas (n1 : Bs) (o1 : Int) (d1 : Bool) (n2 : Bs) (o2 : Int) (d2 : Bool) (a b ys yst : Int) : Value :=
  if ys < a then tzV n1 o1 yst (wrap64 (a + yst)) d1 true else if b ≤ ys then tzV n1 o1 (wrap64 (b + yst)) (wrap64 (yst + 31536000)) d1 true else tzV n2 o2 (wrap64 (a + yst)) (wrap64 (b + yst)) d2 true
def tzSeason (sn : Bs) (so : Int) (dn : Bs) (dd : Int) (a b ys yst : Int) : Value :=
  if b < a then seas dn dd true sn so false b a ys yst else seas sn so false dn dd true a b ys yst
def tzEval (last sec : Int) : TzP → Value
  | none => tzV [] 0 0 0 false false
  | some (sn, so, none) => tzV sn so last 9223372036854775807 false true
  | some (sn, so, some (dn, dd, r1, r2)) => tzSeason sn so dn dd (ruTime (tzYear sec) r1 so) (ruTime (tzYear sec) r2 dd) (tzYsec sec) (tzYst sec)
theorem results_six {fn : Func} {a b c d e f : Tmp} (h : fn.results = #[.tmp a, .tmp b, .tmp c, .tmp d, .tmp e, .tmp f]) (tmps : Array Value) (P : Program) (w : World) :
    (results fn tmps).run P w = .ok (.tuple #[tmps.getD a undef, tmps.getD b undef, tmps.getD c undef, tmps.getD d undef, tmps.getD e undef, tmps.getD f undef]) w := by simp [results, h]
theorem absF_bd (sec : Int) : 0 ≤ absF sec ∧ absF sec ≤ 18446744073709551615 := by unfold absF; rw [IntKind.wrap_u64]; omega
theorem year_bd (n : Int) (h0 : 0 ≤ n) (h1 : n ≤ 300000000000000) : -1000000000000 ≤ yearF n ∧ yearF n ≤ 1000000000000 := by
  have hc : 0 ≤ cenF n ∧ cenF n ≤ 8300000000 := by unfold cenF; omega
  have hd := cd_bd n
  unfold yearF
  split <;> omega
theorem yday_bd (n : Int) : 0 ≤ ydayF n + 400 ∧ ydayF n ≤ 1000 := by
  have hd := cd_bd n
  have hl := lpA_01 (cenF n) (cdF n / 1461)
  unfold ydayF
  split <;> split <;> omega
theorem tmod_bd (x : Int) : -86399 ≤ x.tmod 86400 ∧ x.tmod 86400 ≤ 86399 := by
  have h1 := Int.tmod_lt_of_pos x (show (0 : Int) < 86400 by decide)
  have h2 := Int.lt_tmod_of_pos x (show (0 : Int) < 86400 by decide)
  omega
theorem name_call (l : Bs) (hl : l.length ≤ 4294967296) (n r : Bs) (ok : Bool) (h : nameF l = (n, r, ok)) : Ret 43 #[.string (S l)] (.tuple #[.string (S n), .string (S r), .bool ok]) := by
  have := tzsetName_ret l hl
  rw [h] at this
  exact this
theorem rule_call (l : Bs) (r : Ru) (s : Bs) (ok : Bool) (h : ruleF l = (r, s, ok)) : Ret 45 #[.string (S l)] (.tuple #[ruA r, .string (S s), .bool ok]) := by
  have := tzsetRule_ret l
  rw [h] at this
  exact this
theorem comma_cases (c : UInt8) : (c = 44 ∧ ((c.toNat : Int) == 44) = true ∧ ((c.toNat : Int) != 44) = false) ∨ (c ≠ 44 ∧ ((c.toNat : Int) == 44) = false ∧ ((c.toNat : Int) != 44) = true) := by
  rcases byte_cases c 44 with ⟨h, e⟩ | ⟨h, e⟩
  · subst h; exact .inl ⟨rfl, rfl, rfl⟩
  · change ((c.toNat : Int) == 44) = false at e
    exact .inr ⟨h, e, by rw [bne, e]; rfl⟩

end Go.Proofs.YtgmlclhdibajiaaDoor
