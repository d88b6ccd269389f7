/- Words for the laws on places. -/
import Derived.Test.YtjgidakfpdmfdaaFinds
import Derived.Test.YtjgidakfpdmfdaaImplFirst
namespace Go.Proofs.Ytjgidakfpdmfdaa
open Go.RowKit

section
variable {w : World} {p : Pl} {a : Ad}
theorem fits_at (hR : PlIn w w.heap.size p a) (W : World) (h : InP w p a W) : Calls Try.prog 8 #[plA p a] W fun e W' => e = .returned (.bool (fits2 p)) ∧ InP w p a W' :=
  (zzFits2_ret p a W w.heap.size h.2.size (hR.below h.2 (Nat.le_refl _))).mono fun _ _ ⟨he, hb⟩ => ⟨he, h.below hb⟩
theorem ok_at (hR : PlIn w w.heap.size p a) (hf : fits2 p = true) (W : World) (h : InP w p a W) : Calls Try.prog 9 #[plA p a] W fun e W' => e = .returned (.bool (plOkB p)) ∧ InP w p a W' := by
  obtain ⟨_, hz, ht, _⟩ := fits2_all p hf
  exact (PlaceOk_ret p a W w.heap.size h.2.size (hR.below h.2 (Nat.le_refl _)) (by omega) (by omega)).mono fun _ _ ⟨he, hb⟩ => ⟨he, h.below hb⟩
theorem finds_at (W : World) (h : InP w p a W) : Calls Try.prog 10 #[] W fun e W' => e = .returned (.bool true) ∧ InP w p a W' :=
  (finds_ret W).mono fun _ _ ⟨he, hb⟩ => ⟨he, h.below hb⟩
theorem first_in (hR : PlIn w w.heap.size p a) (hok : plOk p) (W : World) (h : InP w p a W) : Calls Try.prog 13 #[plA p a] W fun e W' => e = .returned (.int .i64 (firstZ p.zs p.ts : Int)) ∧ InP w p a W' :=
  (implFirst_ret p a W w.heap.size h.2.size (hR.below h.2 (Nat.le_refl _)) hok).mono fun _ _ ⟨he, hb⟩ => ⟨he, h.below hb⟩
theorem look_in (hR : PlIn w w.heap.size p a) (hf : fits2 p = true) (hok : plOk p) (sec : Int) (W : World) (h : InP w p a W) : Calls Try.prog 12 #[plA p a, .int .i64 sec] W fun e W' => e = .returned (foA (lookF p sec)) ∧ InP w p a W' := by
  obtain ⟨_, hz, ht, he, _⟩ := fits2_all p hf
  exact (implLookup_ret p a W w.heap.size h.2.size (hR.below h.2 (Nat.le_refl _)) (by omega) (by omega) (.inr hok) (by omega) sec).mono fun _ _ ⟨he, hb⟩ => ⟨he, h.below hb⟩
end

def bare (p : Pl) : Pl := ⟨p.nm, p.zs, p.ts, []⟩
theorem bare_ok {p : Pl} (h : plOk p) : plOk (bare p) := h
theorem lookF_bare (p : Pl) (sec : Int) (h : cntT p.ts sec ≠ p.ts.length ∨ p.ext = []) : lookF p sec = lookF (bare p) sec := by
  rw [lookF_mid p sec h, lookF_mid (bare p) sec (.inr rfl)]
  rfl
/-- two boxes of places: the argument's, and a copy without its rule -/
def In2 (w : World) (p : Pl) (a : Ad) (g : Nat) (W : World) : Prop := InP w p a W ∧ Blk W g 25 (plC (bare p) a)
theorem In2.drew {w W : World} {p : Pl} {a : Ad} {g : Nat} (h : In2 w p a g W) : In2 w p a g W.drew := ⟨h.1.drew, h.2⟩
theorem In2.below {w W W' : World} {p : Pl} {a : Ad} {g : Nat} (h : In2 w p a g W) (hb : Below W.heap.size W W') : In2 w p a g W' := ⟨h.1.below hb, h.2.keep hb⟩
theorem In2.all {w W : World} {p : Pl} {A1 A2 : Option Addr} {k1 k2 g : Nat} (h : In2 w p ⟨A1, k1, A2, k2⟩ g W) :
    ((W.cell? ⟨w.heap.size, 0, none⟩ = some (.string (S p.nm)) ∧ W.cell? ⟨w.heap.size, 1, none⟩ = some (.slice A1 p.zs.length k1) ∧ W.cell? ⟨w.heap.size, 2, none⟩ = some (.slice A2 p.ts.length k2) ∧ W.cell? ⟨w.heap.size, 3, none⟩ = some (.string (S p.ext))) ∧
     (W.cell? ⟨g, 0, none⟩ = some (.string (S p.nm)) ∧ W.cell? ⟨g, 1, none⟩ = some (.slice A1 p.zs.length k1) ∧ W.cell? ⟨g, 2, none⟩ = some (.slice A2 p.ts.length k2) ∧ W.cell? ⟨g, 3, none⟩ = some (.string ⟨#[]⟩))) ∧ In2 w p ⟨A1, k1, A2, k2⟩ g W :=
  ⟨⟨h.1.cells, h.2.cell 0, h.2.cell 1, h.2.cell 2, h.2.cell 3⟩, h⟩
theorem look_in2 {w : World} {p : Pl} {a : Ad} {g : Nat} (q : Pl) (hq : q.zs = p.zs ∧ q.ts = p.ts) (hR : PlIn w w.heap.size p a) (hf : fits2 p = true) (he : q.ext.length ≤ 4294967296) (hok : plOk q) (sec : Int) (W : World) (h : In2 w p a g W) : Calls Try.prog 12 #[plA q a, .int .i64 sec] W fun e W' => e = .returned (foA (lookF q sec)) ∧ In2 w p a g W' := by
  obtain ⟨_, hz, ht, _, _⟩ := fits2_all p hf
  have hR' : PlIn w w.heap.size q a := by unfold PlIn; rw [hq.1, hq.2]; exact hR
  exact (implLookup_ret q a W w.heap.size h.1.2.size (hR'.below h.1.2 (Nat.le_refl _)) (by rw [hq.1]; omega) (by rw [hq.2]; omega) (.inr hok) he sec).mono fun _ _ ⟨he, hb⟩ => ⟨he, h.below hb⟩
theorem finds_in2 {w : World} {p : Pl} {a : Ad} {g : Nat} (W : World) (h : In2 w p a g W) : Calls Try.prog 10 #[] W fun e W' => e = .returned (.bool true) ∧ In2 w p a g W' :=
  (finds_ret W).mono fun _ _ ⟨he, hb⟩ => ⟨he, h.below hb⟩

end Go.Proofs.Ytjgidakfpdmfdaa
