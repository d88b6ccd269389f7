/- Plain laws on places: the reference's look-up, transition by transition. -/
import Derived.Test.YtjgidakfpdmfdaaPlL
namespace Go.Proofs.Ytjgidakfpdmfdaa

/-- all times of a place's transitions are numbers of 64 bits -/
def plRg (p : Pl) : Prop := ∀ t ∈ p.ts, -9223372036854775808 ≤ t.at_ ∧ t.at_ ≤ 9223372036854775807
def slStep (sec : Int) (s : Nat × Int × Int) (t : Tr) : Nat × Int × Int :=
  if t.at_ ≤ sec then (t.ix, t.at_, s.2.2) else if s.2.2 = 9223372036854775807 then (s.1, s.2.1, t.at_) else s
def slSt (ts : List Tr) (first : Nat) (sec : Int) (k : Nat) : Nat × Int × Int := (ts.take k).foldl (slStep sec) (first, -9223372036854775808, 9223372036854775807)
def slFo (p : Pl) (first : Nat) (sec : Int) : Fo := fo (zoAt p.zs (slSt p.ts first sec p.ts.length).1) (slSt p.ts first sec p.ts.length).2.1 (slSt p.ts first sec p.ts.length).2.2
theorem slSt_succ (ts : List Tr) (first : Nat) (sec : Int) (k : Nat) (t : Tr) (h : ts[k]? = some t) : slSt ts first sec (k + 1) = slStep sec (slSt ts first sec k) t := by
  obtain ⟨hk, rfl⟩ := List.getElem?_eq_some_iff.1 h
  unfold slSt
  rw [List.take_succ_eq_append_getElem hk, List.foldl_append]
  rfl
theorem slSt_ix (p : Pl) (first : Nat) (sec : Int) (hf : first < p.zs.length) (hix : ∀ t ∈ p.ts, t.ix < p.zs.length) : ∀ k, k ≤ p.ts.length → (slSt p.ts first sec k).1 < p.zs.length := by
  intro k
  induction k with
  | zero => intro _; exact hf
  | succ k ih =>
    intro hk
    obtain ⟨t, ht⟩ : ∃ t, p.ts[k]? = some t := ⟨_, List.getElem?_eq_getElem (by omega)⟩
    rw [slSt_succ _ _ _ _ t ht]
    have := ih (by omega)
    unfold slStep
    split
    · exact hix t (List.mem_of_getElem? ht)
    · split <;> exact this
theorem slSt_up (ts : List Tr) (first : Nat) (sec : Int) : ∀ k, k ≤ cntT ts sec → slSt ts first sec k = if k = 0 then (first, -9223372036854775808, 9223372036854775807) else ((ts.getD (k - 1) ⟨0, 0⟩).ix, (ts.getD (k - 1) ⟨0, 0⟩).at_, 9223372036854775807) := by
  intro k
  induction k with
  | zero => intro _; rfl
  | succ k ih =>
    intro hk
    have hl := cntT_le ts sec
    obtain ⟨t, ht⟩ : ∃ t, ts[k]? = some t := ⟨_, List.getElem?_eq_getElem (by omega)⟩
    rw [slSt_succ _ _ _ _ t ht, if_neg (by omega)]
    have h1 := cnt_lt ts sec k t (by omega) ht
    have e : (slSt ts first sec k).2.2 = 9223372036854775807 := by rw [ih (by omega)]; split <;> rfl
    unfold slStep
    rw [if_pos h1, e]
    simp [List.getD, ht]
theorem slSt_on (ts : List Tr) (ha : asc ts) (hrg : ∀ t ∈ ts, t.at_ ≤ 9223372036854775807) (first : Nat) (sec : Int) : ∀ j, cntT ts sec + j ≤ ts.length → slSt ts first sec (cntT ts sec + j) = ((slSt ts first sec (cntT ts sec)).1, (slSt ts first sec (cntT ts sec)).2.1, if j = 0 then 9223372036854775807 else endT ts (cntT ts sec)) := by
  intro j
  have h0 : (slSt ts first sec (cntT ts sec)).2.2 = 9223372036854775807 := by rw [slSt_up ts first sec _ (Nat.le_refl _)]; split <;> rfl
  induction j with
  | zero => intro _; rw [if_pos rfl, ← h0]; rfl
  | succ j ih =>
    intro hk
    obtain ⟨t, ht⟩ : ∃ t, ts[cntT ts sec + j]? = some t := ⟨_, List.getElem?_eq_getElem (by omega)⟩
    have hn : ¬ t.at_ ≤ sec := fun h => by have := (cnt_iff ha sec _ t ht).2 h; omega
    rw [show cntT ts sec + (j + 1) = cntT ts sec + j + 1 from rfl, slSt_succ _ _ _ _ t ht, ih (by omega)]
    rw [if_neg (Nat.succ_ne_zero j)]
    unfold slStep
    rw [if_neg hn]
    by_cases hj : j = 0
    · subst hj
      rw [if_pos rfl]
      simp only [if_true]
      rw [show cntT ts sec + 0 = cntT ts sec from rfl] at ht
      rw [endT_some ht]
    · rw [if_neg hj]
      obtain ⟨u, hu⟩ : ∃ u, ts[cntT ts sec]? = some u := ⟨_, List.getElem?_eq_getElem (by omega)⟩
      have h1 := ha _ _ u t (by omega) hu ht
      have h2 := hrg t (List.mem_of_getElem? ht)
      simp only []
      rw [endT_some hu, if_neg (by omega)]
theorem slFo_eq (p : Pl) (hok : plOk p) (hrg : plRg p) (sec : Int) : slFo p (firstZ p.zs p.ts) sec = plainF p sec := by
  have ha := asc_of hok
  have hl := cntT_le p.ts sec
  have hz : p.zs ≠ [] := by intro h; have := hok.2.2.1; rw [h] at this; simp at this
  have h1 := slSt_on p.ts ha (fun t ht => (hrg t ht).2) (firstZ p.zs p.ts) sec (p.ts.length - cntT p.ts sec) (by omega)
  rw [show cntT p.ts sec + (p.ts.length - cntT p.ts sec) = p.ts.length by omega] at h1
  have h2 := slSt_up p.ts (firstZ p.zs p.ts) sec _ (Nat.le_refl _)
  have he : (if p.ts.length - cntT p.ts sec = 0 then 9223372036854775807 else endT p.ts (cntT p.ts sec)) = endT p.ts (cntT p.ts sec) := by
    by_cases h : p.ts.length - cntT p.ts sec = 0
    · rw [if_pos h, endT_none (by omega)]
    · rw [if_neg h]
  unfold slFo plainF
  rw [h1, h2, he, if_neg hz]
  by_cases hc : cntT p.ts sec = 0
  · rw [if_pos hc, if_pos hc, hc]
  · rw [if_neg hc, if_neg hc]

end Go.Proofs.Ytjgidakfpdmfdaa
