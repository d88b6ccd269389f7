/- Plain laws on places: the bounds of the zone at a time. -/
import Derived.Test.YtjgidakfpdmfdaaPlL
namespace Go.Proofs.Ytjgidakfpdmfdaa

theorem plainF_st (p : Pl) (sec : Int) (hz : p.zs ≠ []) (hs : -9223372036854775808 ≤ sec) : (plainF p sec).st ≤ sec := by
  unfold plainF
  rw [if_neg hz]
  split
  · exact hs
  · rename_i hc
    have hl := cntT_le p.ts sec
    obtain ⟨t, ht⟩ : ∃ t, p.ts[cntT p.ts sec - 1]? = some t := ⟨_, List.getElem?_eq_getElem (by omega)⟩
    have := cnt_lt p.ts sec _ t (by omega) ht
    show (p.ts.getD (cntT p.ts sec - 1) ⟨0, 0⟩).at_ ≤ sec
    simp only [List.getD, ht, Option.getD_some]
    exact this
theorem endT_cnt (ts : List Tr) (sec : Int) : sec < endT ts (cntT ts sec) ∨ endT ts (cntT ts sec) = 9223372036854775807 := by
  unfold endT
  cases h : ts[cntT ts sec]? with
  | none => right; rfl
  | some t => left; exact cnt_stop ts sec t h
theorem plainF_en (p : Pl) (sec : Int) (hz : p.zs ≠ []) : (plainF p sec).en = endT p.ts (cntT p.ts sec) := by
  unfold plainF
  rw [if_neg hz]
  split
  · rename_i hc; rw [hc]; rfl
  · rfl
theorem cnt_same {ts : List Tr} (ha : asc ts) (sec other : Int) (h1 : ∀ t, 0 < cntT ts sec → ts[cntT ts sec - 1]? = some t → t.at_ ≤ other) (h2 : ∀ t, ts[cntT ts sec]? = some t → other < t.at_) : cntT ts other = cntT ts sec := by
  have hl := cntT_le ts sec
  have hlo := cntT_le ts other
  rcases Nat.lt_trichotomy (cntT ts other) (cntT ts sec) with h | h | h
  · exfalso
    obtain ⟨t, ht⟩ : ∃ t, ts[cntT ts sec - 1]? = some t := ⟨_, List.getElem?_eq_getElem (by omega)⟩
    have := (cnt_iff ha other _ t ht).2 (h1 t (by omega) ht)
    omega
  · exact h
  · exfalso
    obtain ⟨t, ht⟩ : ∃ t, ts[cntT ts sec]? = some t := ⟨_, List.getElem?_eq_getElem (by omega)⟩
    have := cnt_lt ts other _ t h ht
    have := h2 t ht
    omega
theorem plainF_same (p : Pl) (ha : asc p.ts) (sec other : Int) (hz : p.zs ≠ []) (h1 : (plainF p sec).st ≤ other) (h2 : other < (plainF p sec).en) : plainF p other = plainF p sec := by
  have hc : cntT p.ts other = cntT p.ts sec := by
    refine cnt_same ha sec other ?_ ?_
    · intro t hp ht
      have e : (plainF p sec).st = t.at_ := by
        unfold plainF
        rw [if_neg hz, if_neg (by omega)]
        show (p.ts.getD (cntT p.ts sec - 1) ⟨0, 0⟩).at_ = _
        simp only [List.getD, ht, Option.getD_some]
      omega
    · intro t ht
      rw [plainF_en p sec hz, endT_some ht] at h2
      exact h2
  unfold plainF
  rw [hc]

end Go.Proofs.Ytjgidakfpdmfdaa
