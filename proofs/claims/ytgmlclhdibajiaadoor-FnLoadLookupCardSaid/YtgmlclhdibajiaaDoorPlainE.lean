/- Plain functions: what the reader of rules computes. -/
import Derived.Test.YtgmlclhdibajiaaDoorPlainB
namespace Go.Proofs.YtgmlclhdibajiaaDoor

/-- a rule: kind, day, week, month, time -/
structure Ru where
  kind : Int
  day : Int
  week : Int
  mon : Int
  time : Int

abbrev RuR := Ru × Bs × Bool
def noRu : RuR := (⟨0, 0, 0, 0, 0⟩, [], false)
/-- behind the day: the time, if there is one -/
def ruTail (k d wk m : Int) (r : Bs) : RuR :=
  if r.head? = some 47 then
    match offF r.tail with
    | (t, r', true) => (⟨k, d, wk, m, t⟩, r', true)
    | (_, _, false) => noRu
  else (⟨k, d, wk, m, 7200⟩, r, true)
def ruM3 (m wk : Int) (r : Bs) : RuR :=
  match numF r 0 6 with
  | (d, r', true) => ruTail 2 d wk m r'
  | (_, _, false) => noRu
def ruM2 (m : Int) (r : Bs) : RuR :=
  match numF r 1 5 with
  | (wk, r', true) => if r'.head? = some 46 then ruM3 m wk r'.tail else noRu
  | (_, _, false) => noRu
def ruM (r : Bs) : RuR :=
  match numF r 1 12 with
  | (m, r', true) => if r'.head? = some 46 then ruM2 m r'.tail else noRu
  | (_, _, false) => noRu
def ruJ (r : Bs) : RuR :=
  match numF r 1 365 with
  | (d, r', true) => ruTail 0 d 0 0 r'
  | (_, _, false) => noRu
def ruD (r : Bs) : RuR :=
  match numF r 0 365 with
  | (d, r', true) => ruTail 1 d 0 0 r'
  | (_, _, false) => noRu
def ruleF : Bs → RuR
  | [] => noRu
  | c :: cs => if c = 74 then ruJ cs else if c = 77 then ruM cs else ruD (c :: cs)

theorem ruTail_nil (k d wk m : Int) : ruTail k d wk m [] = (⟨k, d, wk, m, 7200⟩, [], true) := by simp [ruTail]
theorem ruTail_end (k d wk m : Int) (c : UInt8) (r : Bs) (h : c ≠ 47) : ruTail k d wk m (c :: r) = (⟨k, d, wk, m, 7200⟩, c :: r, true) := by simp [ruTail, h]
theorem ruTail_yes (k d wk m t : Int) (r r' : Bs) (h : offF r = (t, r', true)) : ruTail k d wk m (47 :: r) = (⟨k, d, wk, m, t⟩, r', true) := by simp [ruTail, h]
theorem ruTail_no (k d wk m t : Int) (r r' : Bs) (h : offF r = (t, r', false)) : ruTail k d wk m (47 :: r) = noRu := by simp [ruTail, h]
theorem ruJ_no {r r' : Bs} {d : Int} (h : numF r 1 365 = (d, r', false)) : ruJ r = noRu := by simp [ruJ, h]
theorem ruJ_yes {r r' : Bs} {d : Int} (h : numF r 1 365 = (d, r', true)) : ruJ r = ruTail 0 d 0 0 r' := by simp [ruJ, h]
theorem ruD_no {r r' : Bs} {d : Int} (h : numF r 0 365 = (d, r', false)) : ruD r = noRu := by simp [ruD, h]
theorem ruD_yes {r r' : Bs} {d : Int} (h : numF r 0 365 = (d, r', true)) : ruD r = ruTail 1 d 0 0 r' := by simp [ruD, h]
theorem ruM_no {r r' : Bs} {d : Int} (h : numF r 1 12 = (d, r', false)) : ruM r = noRu := by simp [ruM, h]
theorem ruM_end {r r' : Bs} {d : Int} (h : numF r 1 12 = (d, r', true)) (hr : r'.head? ≠ some 46) : ruM r = noRu := by simp [ruM, h, hr]
theorem ruM_yes {r r' : Bs} {d : Int} (h : numF r 1 12 = (d, 46 :: r', true)) : ruM r = ruM2 d r' := by simp [ruM, h]
theorem ruM2_no {m : Int} {r r' : Bs} {d : Int} (h : numF r 1 5 = (d, r', false)) : ruM2 m r = noRu := by simp [ruM2, h]
theorem ruM2_end {m : Int} {r r' : Bs} {d : Int} (h : numF r 1 5 = (d, r', true)) (hr : r'.head? ≠ some 46) : ruM2 m r = noRu := by simp [ruM2, h, hr]
theorem ruM2_yes {m : Int} {r r' : Bs} {d : Int} (h : numF r 1 5 = (d, 46 :: r', true)) : ruM2 m r = ruM3 m d r' := by simp [ruM2, h]
theorem ruM3_no {m wk : Int} {r r' : Bs} {d : Int} (h : numF r 0 6 = (d, r', false)) : ruM3 m wk r = noRu := by simp [ruM3, h]
theorem ruM3_yes {m wk : Int} {r r' : Bs} {d : Int} (h : numF r 0 6 = (d, r', true)) : ruM3 m wk r = ruTail 2 d wk m r' := by simp [ruM3, h]

end Go.Proofs.YtgmlclhdibajiaaDoor
