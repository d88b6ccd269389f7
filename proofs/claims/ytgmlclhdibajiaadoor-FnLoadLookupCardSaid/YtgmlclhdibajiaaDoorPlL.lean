/- Plain laws on places: the count of transitions up to a time; the first zone is one. -/
import Derived.Test.YtgmlclhdibajiaaDoorPl
namespace Go.Proofs.YtgmlclhdibajiaaDoor

/-- transitions in ascending order -/
def asc (ts : List Tr) : Prop := ∀ (i j : Nat) (t u : Tr), i < j → ts[i]? = some t → ts[j]? = some u → t.at_ < u.at_
theorem asc_of {p : Pl} (h : plOk p) : asc p.ts := by
  intro i j
  induction j with
  | zero => intro t u hij; omega
  | succ j ih =>
    intro t u hij ht hu
    have hj : j < p.ts.length := by have := (List.getElem?_eq_some_iff.1 hu).1; omega
    obtain ⟨v, hv⟩ : ∃ v, p.ts[j]? = some v := ⟨_, List.getElem?_eq_getElem hj⟩
    have h1 := (h.2.1 (j + 1) u hu).2 v (by omega) hv
    rcases Nat.lt_or_ge i j with h2 | h2
    · have := ih t v h2 ht hv; omega
    · obtain rfl : i = j := by omega
      rw [ht] at hv; injection hv with hv; rw [hv]; exact h1
theorem cntT_le : ∀ (ts : List Tr) (sec : Int), cntT ts sec ≤ ts.length := by
  intro ts sec
  induction ts with
  | nil => simp [cntT]
  | cons t ts ih => rw [cntT]; split <;> simp; omega
theorem cnt_lt : ∀ (ts : List Tr) (sec : Int) (k : Nat) (t : Tr), k < cntT ts sec → ts[k]? = some t → t.at_ ≤ sec := by
  intro ts sec
  induction ts with
  | nil => intro k t h; simp [cntT] at h
  | cons x ts ih =>
    intro k t hk ht
    rw [cntT] at hk
    by_cases hx : x.at_ ≤ sec
    · rw [if_pos hx] at hk
      cases k with
      | zero => simp at ht; rw [← ht]; exact hx
      | succ k => simp at ht; exact ih k t (by omega) ht
    · rw [if_neg hx] at hk; omega
theorem cnt_stop : ∀ (ts : List Tr) (sec : Int) (t : Tr), ts[cntT ts sec]? = some t → sec < t.at_ := by
  intro ts sec
  induction ts with
  | nil => intro t h; simp at h
  | cons x ts ih =>
    intro t ht
    rw [cntT] at ht
    by_cases hx : x.at_ ≤ sec
    · rw [if_pos hx] at ht; simp at ht; exact ih t ht
    · rw [if_neg hx] at ht; simp at ht; rw [← ht]; omega
theorem cnt_iff {ts : List Tr} (ha : asc ts) (sec : Int) (m : Nat) (t : Tr) (ht : ts[m]? = some t) : m < cntT ts sec ↔ t.at_ ≤ sec := by
  constructor
  · intro h; exact cnt_lt ts sec m t h ht
  · intro h
    rcases Nat.lt_or_ge m (cntT ts sec) with h1 | h1
    · exact h1
    · exfalso
      have hm : m < ts.length := (List.getElem?_eq_some_iff.1 ht).1
      obtain ⟨u, hu⟩ : ∃ u, ts[cntT ts sec]? = some u := ⟨_, List.getElem?_eq_getElem (by omega)⟩
      have h2 := cnt_stop ts sec u hu
      rcases Nat.lt_or_ge (cntT ts sec) m with h3 | h3
      · have := ha _ _ u t h3 hu ht; omega
      · have e : cntT ts sec = m := by omega
        rw [e, ht] at hu; injection hu with hu; rw [← hu] at h2; omega
theorem cnt_zero {ts : List Tr} {sec : Int} {t : Tr} (ht : ts[0]? = some t) : cntT ts sec = 0 ↔ sec < t.at_ := by
  cases ts with
  | nil => simp at ht
  | cons x ts => simp at ht; subst ht; rw [cntT]; split <;> simp <;> omega
theorem dnF_lt : ∀ (zs : List Zo) (n k : Nat), dnF zs n = some k → k < n := by
  intro zs n
  induction n with
  | zero => intro k h; simp [dnF] at h
  | succ n ih =>
    intro k h
    rw [dnF] at h
    split at h
    · injection h with h; omega
    · have := ih k h; omega
theorem upF_lt : ∀ (zs : List Zo) (n m k : Nat), 0 < n → upF zs n m = some k → k < n := by
  intro zs n m
  induction m with
  | zero => intro k _ h; simp [upF] at h
  | succ m ih =>
    intro k hn h
    rw [upF] at h
    split at h
    · injection h with h; omega
    · exact ih k hn h
theorem up0_lt (zs : List Zo) (h : 0 < zs.length) : up0 zs < zs.length := by
  unfold up0
  cases hu : upF zs zs.length zs.length with
  | none => simpa using h
  | some k => simpa using upF_lt zs _ _ k h hu
theorem firstZ_lt (zs : List Zo) (ts : List Tr) (h : 0 < zs.length) (hix : ∀ t ∈ ts, t.ix < zs.length) : firstZ zs ts < zs.length := by
  unfold firstZ
  split
  · exact h
  · cases ts with
    | nil => exact up0_lt zs h
    | cons t l =>
      simp only []
      split
      · cases hd : dnF zs t.ix with
        | none => simpa using up0_lt zs h
        | some k =>
          have := dnF_lt zs _ k hd
          have := hix t (by simp)
          simp; omega
      · exact up0_lt zs h
theorem endT_some {ts : List Tr} {k : Nat} {t : Tr} (h : ts[k]? = some t) : endT ts k = t.at_ := by unfold endT; rw [h]
theorem endT_none {ts : List Tr} {k : Nat} (h : ts.length ≤ k) : endT ts k = 9223372036854775807 := by unfold endT; rw [List.getElem?_eq_none h]
theorem zoAt_some {zs : List Zo} {k : Nat} {z : Zo} (h : zs[k]? = some z) : zoAt zs k = z := by simp [zoAt, List.getD, h]
/-- the zone at a time, by cases -/
theorem lookF_first (p : Pl) (sec : Int) (z : Zo) (hz : p.zs[firstZ p.zs p.ts]? = some z) (hc : cntT p.ts sec = 0) : lookF p sec = fo z (-9223372036854775808) (endT p.ts 0) := by
  have hne : p.zs ≠ [] := by intro h; rw [h] at hz; simp at hz
  unfold lookF
  rw [if_neg]
  · unfold plainF; rw [if_neg hne, if_pos hc, zoAt_some hz]
  · rintro ⟨_, h1, h2, _⟩
    rw [hc] at h1
    exact h2 (List.eq_nil_of_length_eq_zero h1.symm)
theorem plainF_at (p : Pl) (sec : Int) (k : Nat) (t : Tr) (z : Zo) (ht : p.ts[k]? = some t) (hz : p.zs[t.ix]? = some z) (hc : cntT p.ts sec = k + 1) : plainF p sec = fo z t.at_ (endT p.ts (k + 1)) := by
  have hne : p.zs ≠ [] := by intro h; rw [h] at hz; simp at hz
  unfold plainF
  rw [if_neg hne, if_neg (by omega), hc]
  simp only [Nat.add_sub_cancel, List.getD, ht, Option.getD_some]
  rw [zoAt_some hz]
theorem lookF_mid (p : Pl) (sec : Int) (h : cntT p.ts sec ≠ p.ts.length ∨ p.ext = []) : lookF p sec = plainF p sec := by
  unfold lookF
  rw [if_neg]
  rintro ⟨_, h1, _, h2, _⟩
  rcases h with h | h
  · exact h h1
  · exact h2 h
theorem lookF_ext (p : Pl) (sec : Int) (k : Nat) (t : Tr) (hz : p.zs ≠ []) (ht : p.ts[k]? = some t) (hk : p.ts.length = k + 1) (hc : cntT p.ts sec = k + 1) (he : p.ext ≠ []) (x : Fo) (ok : Bool) (hx : tzFo t.at_ sec (tzA p.ext) = (x, ok)) : lookF p sec = if ok then x else plainF p sec := by
  have hg : p.ts.getD (p.ts.length - 1) ⟨0, 0⟩ = t := by rw [hk]; simp [List.getD, ht]
  unfold lookF
  rw [hg, hx]
  have hne : p.ts ≠ [] := by intro h; rw [h] at ht; simp at ht
  cases ok
  · rw [if_neg (by rintro ⟨_, _, _, _, h⟩; cases h)]; rfl
  · rw [if_pos ⟨hz, by omega, hne, he, rfl⟩]; rfl

end Go.Proofs.YtgmlclhdibajiaaDoor
