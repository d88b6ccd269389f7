/- What tzset answers, as parts. -/
import Derived.Test.YtgmlclhdibajiaaDoorTzsetP
namespace Go.Proofs.YtgmlclhdibajiaaDoor
open Go.RowKit

/-- what tzset answers, as parts -/
structure Fo where
  nm : Bs
  off : Int
  st : Int
  en : Int
  dst : Bool
def foA (f : Fo) : Value := .agg #[.string (S f.nm), .int .i64 f.off, .int .i64 f.st, .int .i64 f.en, .bool f.dst]
def noFo : Fo := ⟨[], 0, 0, 0, false⟩
def seasF (n1 : Bs) (o1 : Int) (d1 : Bool) (n2 : Bs) (o2 : Int) (d2 : Bool) (a b ys yst : Int) : Fo :=
  if ys < a then ⟨n1, o1, yst, wrap64 (a + yst), d1⟩ else if b ≤ ys then ⟨n1, o1, wrap64 (b + yst), wrap64 (yst + 31536000), d1⟩ else ⟨n2, o2, wrap64 (a + yst), wrap64 (b + yst), d2⟩
def tzFo (last sec : Int) : TzP → Fo × Bool
  | none => (noFo, false)
  | some (sn, so, none) => (⟨sn, so, last, 9223372036854775807, false⟩, true)
  | some (sn, so, some (dn, dd, r1, r2)) =>
    (if ruTime (tzYear sec) r2 dd < ruTime (tzYear sec) r1 so then seasF dn dd true sn so false (ruTime (tzYear sec) r2 dd) (ruTime (tzYear sec) r1 so) (tzYsec sec) (tzYst sec)
     else seasF sn so false dn dd true (ruTime (tzYear sec) r1 so) (ruTime (tzYear sec) r2 dd) (tzYsec sec) (tzYst sec), true)
def foV (x : Fo × Bool) : Value := tzV x.1.nm x.1.off x.1.st x.1.en x.1.dst x.2
theorem seas_fo (n1 : Bs) (o1 : Int) (d1 : Bool) (n2 : Bs) (o2 : Int) (d2 : Bool) (a b ys yst : Int) : seas n1 o1 d1 n2 o2 d2 a b ys yst = foV (seasF n1 o1 d1 n2 o2 d2 a b ys yst, true) := by
  unfold seas seasF
  split
  · rfl
  · split <;> rfl
theorem tzEval_fo (last sec : Int) (x : TzP) : tzEval last sec x = foV (tzFo last sec x) := by
  match x with
  | none => rfl
  | some (_, _, none) => rfl
  | some (sn, so, some (dn, dd, r1, r2)) =>
    simp only [tzEval, tzSeason, tzFo]
    split <;> exact seas_fo _ _ _ _ _ _ _ _ _ _

end Go.Proofs.YtgmlclhdibajiaaDoor
