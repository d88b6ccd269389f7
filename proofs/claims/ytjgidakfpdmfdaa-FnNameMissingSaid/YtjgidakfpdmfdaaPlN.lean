/- Plain laws on places: the zone of a name. -/
import Derived.Test.YtjgidakfpdmfdaaPlL
namespace Go.Proofs.Ytjgidakfpdmfdaa

/-- a zone of the name that is in use at its own time -/
def nmHit (p : Pl) (name : Bs) (unix : Int) (z : Zo) : Bool := decide (z.nm = name) && decide ((lookF p (unix - z.off)).nm = name)
def nmA (p : Pl) (name : Bs) (unix : Int) : List Zo → Option Int
  | [] => none
  | z :: l => if nmHit p name unix z = true then some (lookF p (unix - z.off)).off else nmA p name unix l
def nmB (name : Bs) : List Zo → Option Int
  | [] => none
  | z :: l => if z.nm = name then some z.off else nmB name l
def nmF (p : Pl) (name : Bs) (unix : Int) : Option Int := match nmA p name unix p.zs with
  | some o => some o
  | none => nmB name p.zs
theorem drop_cons {α : Type} (l : List α) (k : Nat) (a : α) (h : l[k]? = some a) : l.drop k = a :: l.drop (k + 1) := by
  obtain ⟨hk, rfl⟩ := List.getElem?_eq_some_iff.1 h
  exact List.drop_eq_getElem_cons hk
theorem nmA_hit (p : Pl) (name : Bs) (unix : Int) (k : Nat) (z : Zo) (h : p.zs[k]? = some z) (hh : nmHit p name unix z = true) : nmA p name unix (p.zs.drop k) = some (lookF p (unix - z.off)).off := by
  rw [drop_cons _ _ _ h, nmA, if_pos hh]
theorem nmA_miss (p : Pl) (name : Bs) (unix : Int) (k : Nat) (z : Zo) (h : p.zs[k]? = some z) (hh : nmHit p name unix z = false) : nmA p name unix (p.zs.drop k) = nmA p name unix (p.zs.drop (k + 1)) := by
  rw [drop_cons _ _ _ h, nmA, if_neg (by rw [hh]; decide)]
theorem nmB_hit (p : Pl) (name : Bs) (k : Nat) (z : Zo) (h : p.zs[k]? = some z) (hh : z.nm = name) : nmB name (p.zs.drop k) = some z.off := by
  rw [drop_cons _ _ _ h, nmB, if_pos hh]
theorem nmB_miss (p : Pl) (name : Bs) (k : Nat) (z : Zo) (h : p.zs[k]? = some z) (hh : ¬ z.nm = name) : nmB name (p.zs.drop k) = nmB name (p.zs.drop (k + 1)) := by
  rw [drop_cons _ _ _ h, nmB, if_neg hh]
theorem nmA_some (p : Pl) (name : Bs) (unix : Int) : ∀ (l : List Zo) (o : Int), nmA p name unix l = some o → ∃ z ∈ l, nmHit p name unix z = true ∧ (lookF p (unix - z.off)).off = o := by
  intro l
  induction l with
  | nil => intro o h; simp [nmA] at h
  | cons x l ih =>
    intro o h
    rw [nmA] at h
    split at h
    · rename_i hx
      injection h with h
      exact ⟨x, by simp, hx, h⟩
    · obtain ⟨z, hz, h1⟩ := ih o h
      exact ⟨z, by simp [hz], h1⟩
theorem nmA_none (p : Pl) (name : Bs) (unix : Int) : ∀ (l : List Zo), nmA p name unix l = none → ∀ z ∈ l, nmHit p name unix z = false := by
  intro l
  induction l with
  | nil => intro _ z hz; simp at hz
  | cons x l ih =>
    intro h z hz
    rw [nmA] at h
    split at h
    · cases h
    · rename_i hx
      rcases List.mem_cons.1 hz with rfl | hz
      · simpa using hx
      · exact ih h z hz
theorem nmB_some (name : Bs) : ∀ (l : List Zo) (o : Int), nmB name l = some o → ∃ z ∈ l, z.nm = name ∧ z.off = o := by
  intro l
  induction l with
  | nil => intro o h; simp [nmB] at h
  | cons x l ih =>
    intro o h
    rw [nmB] at h
    split at h
    · rename_i hx
      injection h with h
      exact ⟨x, by simp, hx, h⟩
    · obtain ⟨z, hz, h1⟩ := ih o h
      exact ⟨z, by simp [hz], h1⟩
theorem nmB_none (name : Bs) : ∀ (l : List Zo), nmB name l = none → ∀ z ∈ l, ¬ z.nm = name := by
  intro l
  induction l with
  | nil => intro _ z hz; simp at hz
  | cons x l ih =>
    intro h z hz
    rw [nmB] at h
    split at h
    · cases h
    · rename_i hx
      rcases List.mem_cons.1 hz with rfl | hz
      · exact hx
      · exact ih h z hz
def hasN (name : Bs) (l : List Zo) : Bool := l.any fun z => decide (z.nm = name)
theorem nmF_has (p : Pl) (name : Bs) (unix : Int) : (nmF p name unix).isSome = hasN name p.zs := by
  unfold nmF hasN
  cases hA : nmA p name unix p.zs with
  | some o =>
    obtain ⟨z, hz, hh, _⟩ := nmA_some p name unix _ o hA
    unfold nmHit at hh
    rw [Bool.and_eq_true] at hh
    simp only [Option.isSome_some]
    exact (List.any_eq_true.2 ⟨z, hz, hh.1⟩).symm
  | none =>
    simp only []
    cases hB : nmB name p.zs with
    | some o =>
      obtain ⟨z, hz, hh, _⟩ := nmB_some name _ o hB
      exact (List.any_eq_true.2 ⟨z, hz, decide_eq_true hh⟩).symm
    | none =>
      have hn := nmB_none name _ hB
      symm
      rw [Option.isSome_none, List.any_eq_false]
      intro z hz
      simpa using hn z hz
def hasO (name : Bs) (o : Int) (l : List Zo) : Bool := l.any fun z => decide (z.nm = name) && decide (z.off = o)
def usedN (p : Pl) (name : Bs) (unix : Int) (l : List Zo) : Bool := l.any (nmHit p name unix)
def rightN (p : Pl) (name : Bs) (unix o : Int) (l : List Zo) : Bool := l.any fun z => nmHit p name unix z && decide ((lookF p (unix - z.off)).off = o)
theorem plainF_zone (p : Pl) (hok : plOk p) (sec : Int) : ∃ z ∈ p.zs, (plainF p sec).nm = z.nm ∧ (plainF p sec).off = z.off := by
  have hz : p.zs ≠ [] := by intro h; have := hok.2.2.1; rw [h] at this; simp at this
  have hix : ∀ t ∈ p.ts, t.ix < p.zs.length := fun t ht => by
    obtain ⟨k, hk⟩ := List.getElem?_of_mem ht
    exact (hok.2.1 k t hk).1
  have key : ∀ k, k < p.zs.length → zoAt p.zs k ∈ p.zs := fun k hk => by
    rw [zoAt_some (List.getElem?_eq_getElem hk)]; exact List.getElem_mem hk
  unfold plainF
  rw [if_neg hz]
  split
  · exact ⟨_, key _ (firstZ_lt p.zs p.ts (by have := hok.2.2.1; omega) hix), rfl, rfl⟩
  · rename_i hc
    have hl := cntT_le p.ts sec
    obtain ⟨t, ht⟩ : ∃ t, p.ts[cntT p.ts sec - 1]? = some t := ⟨_, List.getElem?_eq_getElem (by omega)⟩
    have : p.ts.getD (cntT p.ts sec - 1) ⟨0, 0⟩ = t := by simp only [List.getD, ht, Option.getD_some]
    rw [this]
    exact ⟨_, key _ (hix t (List.mem_of_getElem? ht)), rfl, rfl⟩
theorem nm_law (p : Pl) (hok : plOk p) (hext : p.ext = []) (name : Bs) (unix o : Int) (h : nmF p name unix = some o) : hasO name o p.zs = true ∧ (usedN p name unix p.zs = false ∨ rightN p name unix o p.zs = true) := by
  unfold nmF at h
  cases hA : nmA p name unix p.zs with
  | some o' =>
    rw [hA] at h
    injection h with h
    subst h
    obtain ⟨z, hz, hh, ho⟩ := nmA_some p name unix _ _ hA
    refine ⟨?_, .inr (List.any_eq_true.2 ⟨z, hz, by rw [hh, Bool.true_and]; exact decide_eq_true ho⟩)⟩
    obtain ⟨y, hy, h1, h2⟩ := plainF_zone p hok (unix - z.off)
    unfold nmHit at hh
    rw [Bool.and_eq_true] at hh
    have h3 := of_decide_eq_true hh.2
    rw [lookF_mid p _ (.inr hext)] at h3 ho
    refine List.any_eq_true.2 ⟨y, hy, ?_⟩
    rw [Bool.and_eq_true]
    exact ⟨decide_eq_true (by rw [← h1]; exact h3), decide_eq_true (by rw [← h2]; exact ho)⟩
  | none =>
    rw [hA] at h
    simp only [] at h
    obtain ⟨z, hz, hh, ho⟩ := nmB_some name _ _ h
    refine ⟨List.any_eq_true.2 ⟨z, hz, by rw [Bool.and_eq_true]; exact ⟨decide_eq_true hh, decide_eq_true ho⟩⟩, .inl ?_⟩
    unfold usedN
    rw [List.any_eq_false]
    intro y hy
    rw [nmA_none p name unix _ hA y hy]
    decide

end Go.Proofs.Ytjgidakfpdmfdaa
