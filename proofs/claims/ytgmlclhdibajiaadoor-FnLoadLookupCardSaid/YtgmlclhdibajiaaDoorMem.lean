/- Slices of structs in memory: a row that reads as a list of cells; places as arguments. -/
import Derived.Test.YtgmlclhdibajiaaDoorPl
namespace Go.Proofs.YtgmlclhdibajiaaDoor
open Go.RowKit

/-- a slice of n elements with the cells xs, below block B -/
def Rd (w : World) (B : Nat) (A : Option Addr) (n : Nat) (xs : List Value) : Prop :=
  0 < n → ∃ ad : Addr, A = some ad ∧ ad.block < B ∧ ∀ j u, xs[j]? = some u → w.cell? (ad.add j) = some u
theorem Rd.keep {w w' : World} {B : Nat} {A : Option Addr} {n : Nat} {xs : List Value} (h : Rd w B A n xs) (hk : ∀ p : Addr, p.block < B → w'.cell? p = w.cell? p) : Rd w' B A n xs := fun hn => by
  obtain ⟨ad, e, hb, hc⟩ := h hn
  refine ⟨ad, e, hb, fun j u hu => (hk _ ?_).trans (hc j u hu)⟩
  unfold Addr.add
  split <;> exact hb
theorem Rd.below {w w' : World} {B B' : Nat} {A : Option Addr} {n : Nat} {xs : List Value} (h : Rd w B A n xs) (hb : Below B' w w') (hB : B ≤ B') : Rd w' B A n xs := h.keep fun _ hp => hb.cell (Nat.lt_of_lt_of_le hp hB)
theorem Rd.more {w : World} {B B' : Nat} {A : Option Addr} {n : Nat} {xs : List Value} (h : Rd w B A n xs) (hB : B ≤ B') : Rd w B' A n xs := fun hn => by
  obtain ⟨ad, e, hb, hc⟩ := h hn
  exact ⟨ad, e, Nat.lt_of_lt_of_le hb hB, hc⟩
theorem add_at (a : Addr) (i j : Nat) (hj : 0 < j) : a.add (i + j) = ⟨(a.add i).block, (a.add i).off + j, none⟩ := by
  unfold Addr.add
  by_cases hi : i = 0
  · subst hi; simp; omega
  · rw [if_neg (by omega), if_neg hi]; simp; omega
theorem add_block (a : Addr) (n : Nat) : (a.add n).block = a.block := by unfold Addr.add; split <;> rfl
theorem add_add' (a : Addr) (i j : Nat) : (a.add i).add j = a.add (i + j) := by
  unfold Addr.add
  by_cases hi : i = 0 <;> by_cases hj : j = 0 <;> simp [hi, hj, Nat.add_assoc]
/-- a zone, a transition at an index -/
theorem Rd.zo {w : World} {B : Nat} {A : Option Addr} {zs : List Zo} {k : Nat} {z : Zo} (h : Rd w B A zs.length (zosC zs)) (hz : zs[k]? = some z) :
    ∃ ad : Addr, A = some ad ∧ ad.block < B ∧ w.cell? (ad.add (k * 3)) = some (.string (S z.nm)) ∧ w.cell? ⟨(ad.add (k * 3)).block, (ad.add (k * 3)).off + 1, none⟩ = some (.int .i64 z.off) ∧ w.cell? ⟨(ad.add (k * 3)).block, (ad.add (k * 3)).off + 2, none⟩ = some (.bool z.dst) := by
  have hk : k < zs.length := (List.getElem?_eq_some_iff.1 hz).1
  obtain ⟨ad, e, hb, hc⟩ := h (by omega)
  have hf := flat_get zoC 3 (fun _ => rfl) zs k z
  exact ⟨ad, e, hb, hc _ _ (hf 0 hz (by omega)), (add_at ad (k * 3) 1 (by omega)) ▸ hc _ _ (hf 1 hz (by omega)), (add_at ad (k * 3) 2 (by omega)) ▸ hc _ _ (hf 2 hz (by omega))⟩
theorem Rd.tr {w : World} {B : Nat} {A : Option Addr} {ts : List Tr} {k : Nat} {t : Tr} (h : Rd w B A ts.length (trsC ts)) (ht : ts[k]? = some t) :
    ∃ ad : Addr, A = some ad ∧ ad.block < B ∧ w.cell? (ad.add (k * 2)) = some (.int .i64 t.at_) ∧ w.cell? ⟨(ad.add (k * 2)).block, (ad.add (k * 2)).off + 1, none⟩ = some (.int .u8 (t.ix : Int)) := by
  have hk : k < ts.length := (List.getElem?_eq_some_iff.1 ht).1
  obtain ⟨ad, e, hb, hc⟩ := h (by omega)
  have hf := flat_get trC 2 (fun _ => rfl) ts k t
  exact ⟨ad, e, hb, hc _ _ (hf 0 ht (by omega)), (add_at ad (k * 2) 1 (by omega)) ▸ hc _ _ (hf 1 ht (by omega))⟩
theorem Rd.tt {w : World} {B : Nat} {A : Option Addr} {ts : List Tr} {k : Nat} {t : Tr} (h : Rd w B A ts.length (ttsC ts)) (ht : ts[k]? = some t) :
    ∃ ad : Addr, A = some ad ∧ ad.block < B ∧ w.cell? (ad.add (k * 4)) = some (.int .i64 t.at_) ∧ w.cell? ⟨(ad.add (k * 4)).block, (ad.add (k * 4)).off + 1, none⟩ = some (.int .u8 (t.ix : Int)) ∧ w.cell? ⟨(ad.add (k * 4)).block, (ad.add (k * 4)).off + 2, none⟩ = some (.bool false) ∧ w.cell? ⟨(ad.add (k * 4)).block, (ad.add (k * 4)).off + 3, none⟩ = some (.bool false) := by
  have hk : k < ts.length := (List.getElem?_eq_some_iff.1 ht).1
  obtain ⟨ad, e, hb, hc⟩ := h (by omega)
  have hf := flat_get ttC 4 (fun _ => rfl) ts k t
  exact ⟨ad, e, hb, hc _ _ (hf 0 ht (by omega)), (add_at ad (k * 4) 1 (by omega)) ▸ hc _ _ (hf 1 ht (by omega)), (add_at ad (k * 4) 2 (by omega)) ▸ hc _ _ (hf 2 ht (by omega)), (add_at ad (k * 4) 3 (by omega)) ▸ hc _ _ (hf 3 ht (by omega))⟩

def zonV (n : Bs) (o : Int) (d : Bool) : Value := .agg #[.string (S n), .int .i64 o, .bool d]
/-- a place as an argument: its zones and transitions lie where A1, A2 say -/
structure Ad where
  A1 : Option Addr
  c1 : Nat
  A2 : Option Addr
  c2 : Nat
def plC (p : Pl) (a : Ad) : Array Value := #[.string (S p.nm), .slice a.A1 p.zs.length a.c1, .slice a.A2 p.ts.length a.c2, .string (S p.ext)]
def plA (p : Pl) (a : Ad) : Value := .agg #[.string (S p.nm), .slice a.A1 p.zs.length a.c1, .slice a.A2 p.ts.length a.c2, .string (S p.ext)]
def PlIn (w : World) (B : Nat) (p : Pl) (a : Ad) : Prop := Rd w B a.A1 p.zs.length (zosC p.zs) ∧ Rd w B a.A2 p.ts.length (trsC p.ts) ∧ ∀ t ∈ p.ts, t.ix < 256
theorem PlIn.below {w w' : World} {B B' : Nat} {p : Pl} {a : Ad} (h : PlIn w B p a) (hb : Below B' w w') (hB : B ≤ B') : PlIn w' B p a := ⟨h.1.below hb hB, h.2.1.below hb hB, h.2.2⟩
theorem PlIn.more {w : World} {B B' : Nat} {p : Pl} {a : Ad} (h : PlIn w B p a) (hB : B ≤ B') : PlIn w B' p a := ⟨h.1.more hB, h.2.1.more hB, h.2.2⟩
/-- what the model's sizes let a place be -/
def plSz (p : Pl) : Prop := p.zs.length ≤ 4611686018427387904 ∧ p.ts.length ≤ 4611686018427387904

end Go.Proofs.YtgmlclhdibajiaaDoor
