/- Tzset of the package and of the thin package. -/
import Derived.Test.YtjcmbghhlloejaaTzset
namespace Go.Proofs.Ytjcmbghhlloejaa
open Go.RowKit

/-- what tzset answers, as parts -/
structure Fo where
  nm : Bs
  off : Int
  st : Int
  en : Int
  dst : Bool
def foA (f : Fo) : Value := .agg #[.string (S f.nm), .int .i64 f.off, .int .i64 f.st, .int .i64 f.en, .bool f.dst]
def noFo : Fo := ⟨[], 0, 0, 0, false⟩
def seasF (n1 : Bs) (o1 : Int) (d1 : Bool) (n2 : Bs) (o2 : Int) (d2 : Bool) (a b ys yst : Int) : Fo :=
  if ys < a then ⟨n1, o1, yst, wrap64 (a + yst), d1⟩ else if b ≤ ys then ⟨n1, o1, wrap64 (b + yst), wrap64 (yst + 31536000), d1⟩ else ⟨n2, o2, wrap64 (a + yst), wrap64 (b + yst), d2⟩
def tzFo (last sec : Int) : TzP → Fo × Bool
  | none => (noFo, false)
  | some (sn, so, none) => (⟨sn, so, last, 9223372036854775807, false⟩, true)
  | some (sn, so, some (dn, dd, r1, r2)) =>
    (if ruTime (tzYear sec) r2 dd < ruTime (tzYear sec) r1 so then seasF dn dd true sn so false (ruTime (tzYear sec) r2 dd) (ruTime (tzYear sec) r1 so) (tzYsec sec) (tzYst sec)
     else seasF sn so false dn dd true (ruTime (tzYear sec) r1 so) (ruTime (tzYear sec) r2 dd) (tzYsec sec) (tzYst sec), true)
def foV (x : Fo × Bool) : Value := tzV x.1.nm x.1.off x.1.st x.1.en x.1.dst x.2
theorem seas_fo (n1 : Bs) (o1 : Int) (d1 : Bool) (n2 : Bs) (o2 : Int) (d2 : Bool) (a b ys yst : Int) : seas n1 o1 d1 n2 o2 d2 a b ys yst = foV (seasF n1 o1 d1 n2 o2 d2 a b ys yst, true) := by
  unfold seas seasF
  split
  · rfl
  · split <;> rfl
theorem tzEval_fo (last sec : Int) (x : TzP) : tzEval last sec x = foV (tzFo last sec x) := by
  match x with
  | none => rfl
  | some (_, _, none) => rfl
  | some (sn, so, some (dn, dd, r1, r2)) =>
    simp only [tzEval, tzSeason, tzFo]
    split <;> exact seas_fo _ _ _ _ _ _ _ _ _ _

theorem pubTzset_ret (s : Bs) (hs : s.length ≤ 4294967296) (last sec : Int) : Ret 30 #[.string (S s), .int .i64 last, .int .i64 sec] (foV (tzFo last sec (tzA s))) := by
  intro w
  have HC0 := tzset_ret s hs last sec
  rw [tzEval_fo] at HC0
  have HC := Lib.hid HC0
  clear HC0
  generalize tzFo last sec (tzA s) = x at *
  obtain ⟨⟨n, o, st, en, d⟩, ok⟩ := x
  go_enter Try.func30, Try.ntmps30
  go_wp2_with fail
  refine (HC.out _).mono ?_
  rintro e w1 ⟨rfl, hb⟩
  unfold foV tzV
  go_wp2
  refine bodyPost_ret (results_six rfl _ _ _) rfl ?_
  exact ⟨rfl, hb⟩

theorem implTzset_ret (s : Bs) (hs : s.length ≤ 4294967296) (last sec : Int) : Ret 22 #[.string (S s), .int .i64 last, .int .i64 sec] (.tuple #[foA (tzFo last sec (tzA s)).1, .bool (tzFo last sec (tzA s)).2]) := by
  intro w
  have HC := Lib.hid (pubTzset_ret s hs last sec)
  have hno : Hid ((tzFo last sec (tzA s)).2 = false → (tzFo last sec (tzA s)).1 = noFo) := by
    show _ → _
    generalize tzA s = y
    intro h
    match y, h with
    | none, _ => rfl
    | some (_, _, none), h => simp [tzFo] at h
    | some (sn, so, some (dn, dd, r1, r2)), h => simp [tzFo] at h
  generalize tzFo last sec (tzA s) = x at *
  obtain ⟨⟨n, o, st, en, d⟩, ok⟩ := x
  cases ok
  · have h := hno.out rfl
    simp only [noFo] at h
    injection h with h1 h2 h3 h4 h5
    subst h1 h2 h3 h4 h5
    go_enter Try.func22, Try.ntmps22
    go_wp2_with fail
    refine (HC.out _).mono ?_
    rintro e w1 ⟨rfl, hb⟩
    have B1a : Blk w1 w.heap.size 34 #[.string (S []), .int .i64 0, .int .i64 0, .int .i64 0, .bool false] := (Blk.new w _ _ _ rfl).below hb (by simp)
    have hb1 : Below w.heap.size w w1 := ((Below.refl _ _).alloc (Nat.le_refl _) _).trans (hb.mono (by simp))
    have hlt := B1a.lt
    obtain ⟨ca0, ca1, ca2, ca3, ca4, fa⟩ := B1a.five
    clear hb HC
    unfold foV tzV
    go_wp2_with fail
    refine bodyPost_ret (v := .tuple #[.agg #[.string ⟨#[]⟩, .int .i64 0, .int .i64 0, .int .i64 0, .bool false], .bool false]) (by simp only [results, Try.results22]; go_simp) rfl ?_
    exact ⟨rfl, by go_grown⟩
  · go_enter Try.func22, Try.ntmps22
    go_wp2_with fail
    refine (HC.out _).mono ?_
    rintro e w1 ⟨rfl, hb⟩
    have B1a : Blk w1 w.heap.size 34 #[.string (S []), .int .i64 0, .int .i64 0, .int .i64 0, .bool false] := (Blk.new w _ _ _ rfl).below hb (by simp)
    have hb1 : Below w.heap.size w w1 := ((Below.refl _ _).alloc (Nat.le_refl _) _).trans (hb.mono (by simp))
    have hlt := B1a.lt
    obtain ⟨ca0, ca1, ca2, ca3, ca4, fa⟩ := B1a.five
    clear hb HC
    unfold foV tzV
    go_wp2_with fail
    refine bodyPost_ret (v := .tuple #[.agg #[.string (S n), .int .i64 o, .int .i64 st, .int .i64 en, .bool d], .bool true]) (by simp only [results, Try.results22]; go_simp) rfl ?_
    exact ⟨rfl, by go_grown⟩

end Go.Proofs.Ytjcmbghhlloejaa
