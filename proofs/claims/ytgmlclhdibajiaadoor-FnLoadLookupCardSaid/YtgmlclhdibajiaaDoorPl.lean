/- Plain words on places: zones, transitions; which zone is the first one; which one is in use at a time. -/
import Derived.Test.YtgmlclhdibajiaaDoorTzFo
namespace Go.Proofs.YtgmlclhdibajiaaDoor

structure Zo where
  nm : Bs
  off : Int
  dst : Bool
structure Tr where
  at_ : Int
  ix : Nat
structure Pl where
  nm : Bs
  zs : List Zo
  ts : List Tr
  ext : Bs

/-- cells of zones and transitions: of the thin package's and of the package's public types (2 cells a transition), and of its own (4 cells) -/
def zoC (z : Zo) : List Value := [.string (S z.nm), .int .i64 z.off, .bool z.dst]
def trC (t : Tr) : List Value := [.int .i64 t.at_, .int .u8 (t.ix : Int)]
def ttC (t : Tr) : List Value := [.int .i64 t.at_, .int .u8 (t.ix : Int), .bool false, .bool false]
def zosC (l : List Zo) : List Value := l.flatMap zoC
def trsC (l : List Tr) : List Value := l.flatMap trC
def ttsC (l : List Tr) : List Value := l.flatMap ttC

theorem flat_len {α : Type} (f : α → List Value) (c : Nat) (hf : ∀ a, (f a).length = c) (l : List α) : (l.flatMap f).length = l.length * c := by
  induction l with
  | nil => simp
  | cons a l ih => simp [List.flatMap_cons, hf, ih, Nat.add_mul]; omega
theorem flat_get {α : Type} (f : α → List Value) (c : Nat) (hf : ∀ a, (f a).length = c) : ∀ (l : List α) (k : Nat) (a : α) (j : Nat), l[k]? = some a → j < c → (l.flatMap f)[k * c + j]? = (f a)[j]? := by
  intro l
  induction l with
  | nil => intro k a j h; simp at h
  | cons x l ih =>
    intro k a j h hj
    cases k with
    | zero =>
      simp at h
      subst h
      rw [List.flatMap_cons, List.getElem?_append_left (by rw [hf]; omega)]
      simp
    | succ k =>
      simp at h
      rw [List.flatMap_cons, List.getElem?_append_right (by rw [hf, Nat.add_mul]; omega), hf]
      have : (k + 1) * c + j - c = k * c + j := by rw [Nat.add_mul]; omega
      rw [this]
      exact ih k a j h hj
theorem flat_snoc {α : Type} (f : α → List Value) (l : List α) (k : Nat) (a : α) (h : l[k]? = some a) : (l.take (k + 1)).flatMap f = (l.take k).flatMap f ++ f a := by
  obtain ⟨hk, rfl⟩ := List.getElem?_eq_some_iff.1 h
  rw [List.take_succ_eq_append_getElem hk, List.flatMap_append]
  simp

/-- a place is one (the reference's PlaceOk) -/
def plOk (p : Pl) : Prop :=
  (∀ z ∈ p.zs, -2147483647 ≤ z.off ∧ z.off ≤ 2147483647) ∧ (∀ (k : Nat) (t : Tr), p.ts[k]? = some t → t.ix < p.zs.length ∧ ∀ u, 0 < k → p.ts[k - 1]? = some u → u.at_ < t.at_) ∧
  (1 ≤ p.zs.length ∧ p.zs.length ≤ 200) ∧ p.ts.length ≤ 1000

/-- the zone that is in use ahead of the first transition -/
def dnF (zs : List Zo) : Nat → Option Nat
  | 0 => none
  | k + 1 => if (zs.getD k ⟨[], 0, true⟩).dst = false then some k else dnF zs k
def upF (zs : List Zo) (n : Nat) : Nat → Option Nat
  | 0 => none
  | m + 1 => if (zs.getD (n - (m + 1)) ⟨[], 0, true⟩).dst = false then some (n - (m + 1)) else upF zs n m
def usedB (ts : List Tr) : Bool := ts.any fun t => decide (t.ix = 0)
def up0 (zs : List Zo) : Nat := (upF zs zs.length zs.length).getD 0
def firstZ (zs : List Zo) (ts : List Tr) : Nat :=
  if usedB ts = false then 0 else
  match ts with
  | [] => up0 zs
  | t :: _ => if (zs.getD t.ix ⟨[], 0, true⟩).dst then (dnF zs t.ix).getD (up0 zs) else up0 zs

/-- how many transitions lie up to a time -/
def cntT : List Tr → Int → Nat
  | [], _ => 0
  | t :: ts, sec => if t.at_ ≤ sec then cntT ts sec + 1 else 0
def endT (ts : List Tr) (k : Nat) : Int := match ts[k]? with
  | some t => t.at_
  | none => 9223372036854775807
def zoAt (zs : List Zo) (k : Nat) : Zo := zs.getD k ⟨[], 0, true⟩
def fo (z : Zo) (st en : Int) : Fo := ⟨z.nm, z.off, st, en, z.dst⟩
/-- the zone at a time by the transitions alone -/
def plainF (p : Pl) (sec : Int) : Fo :=
  if p.zs = [] then ⟨[85, 84, 67], 0, -9223372036854775808, 9223372036854775807, false⟩ else
  if cntT p.ts sec = 0 then fo (zoAt p.zs (firstZ p.zs p.ts)) (-9223372036854775808) (endT p.ts 0)
  else fo (zoAt p.zs ((p.ts.getD (cntT p.ts sec - 1) ⟨0, 0⟩).ix)) (p.ts.getD (cntT p.ts sec - 1) ⟨0, 0⟩).at_ (endT p.ts (cntT p.ts sec))
/-- .. and by the rule behind them -/
def lookF (p : Pl) (sec : Int) : Fo :=
  if p.zs ≠ [] ∧ cntT p.ts sec = p.ts.length ∧ p.ts ≠ [] ∧ p.ext ≠ [] ∧ (tzFo (p.ts.getD (p.ts.length - 1) ⟨0, 0⟩).at_ sec (tzA p.ext)).2 = true then (tzFo (p.ts.getD (p.ts.length - 1) ⟨0, 0⟩).at_ sec (tzA p.ext)).1
  else plainF p sec

end Go.Proofs.YtgmlclhdibajiaaDoor
