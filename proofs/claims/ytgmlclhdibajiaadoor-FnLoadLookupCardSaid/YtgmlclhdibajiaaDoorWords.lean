/- Words that all walks of this seat use: strings as lists of bytes, a call that returns a value and leaves old memory alone. No conditions. -/
import Derived.Test.YtgmlclhdibajiaaDoorRows
import Derived.WalkKit
import Derived.ProofKit
import Derived.WalkSpells
import Derived.WalkLawsBesides
import Derived.Handy
import Derived.Deep.QuietTactic
import Derived.BigQuiet
import Derived.Lib.Hide
import Derived.Outline
import Derived.Laws.Rows
namespace Go.Proofs.YtgmlclhdibajiaaDoor
open Go.RowKit

/-- a list of bytes as Go's string -/
def S (l : List UInt8) : ByteArray := ⟨l.toArray⟩

theorem S_size (l : List UInt8) : (S l).size = l.length := by simp [S, ByteArray.size]
theorem S_of (s : ByteArray) : S s.data.toList = s := by cases s; simp [S]
theorem S_nil : S [] = ⟨#[]⟩ := rfl
theorem S_toList (l : List UInt8) : (S l).toList = l := by simp [S]
theorem S_append (a b : List UInt8) : S a ++ S b = S (a ++ b) := ByteArray.mk_append_mk a b
theorem S_extract (l : List UInt8) (i j : Nat) : (S l).extract i j = S ((l.drop i).take (j - i)) := ByteArray.extract_mk l i j
theorem S_drop (l : List UInt8) (i : Nat) : (S l).extract i (S l).size = S (l.drop i) := by
  rw [S_extract, S_size, List.take_of_length_le (by simp)]
theorem S_take (l : List UInt8) (j : Nat) : (S l).extract 0 j = S (l.take j) := by
  rw [S_extract]; simp
theorem S_get (l : List UInt8) (i : Nat) (h : i < (S l).size) : (S l)[i]'h = l[i]'(by rw [← S_size]; exact h) := by
  simp [S]; rfl

theorem S_get0 (c : UInt8) (l : List UInt8) (h : 0 < (S (c :: l)).size) : (S (c :: l))[0]'h = c := by
  rw [S_get]; rfl
theorem S_mk (l : List UInt8) : (⟨l.toArray⟩ : ByteArray) = S l := rfl
theorem S_extract_end (l : List UInt8) (i : Nat) : (S l).extract i l.length = S (l.drop i) := by
  rw [← S_drop, S_size]
theorem S_extract_start (l : List UInt8) (j : Nat) : (S l).extract 0 j = S (l.take j) := S_take l j
theorem S_append_l (a b : List UInt8) : (⟨a.toArray⟩ : ByteArray) ++ S b = S (a ++ b) := S_append a b
theorem S_append_r (a b : List UInt8) : S a ++ (⟨b.toArray⟩ : ByteArray) = S (a ++ b) := S_append a b
attribute [go_sem] S_size S_toList S_append S_extract S_get0 S_append_l S_append_r
attribute [go_sem 500] S_get
attribute [go_sem 2000] S_extract_end S_extract_start

/-- the call returns v, and nothing that was there has turned -/
def Ret (f : FuncId) (args : Array Value) (v : Value) : Prop :=
  ∀ w : World, Calls Tryd.prog f args w fun e w' => e = .returned v ∧ Below w.heap.size w w'

theorem below_drewN {B : Nat} {a w : World} (h : Below B a w) (n : Nat) : Below B a (w.drewN n) := ⟨h.os, h.tape, h.output, h.size, h.block⟩
theorem below_iter (w : World) (s : ByteArray) (p : Nat) : Below w.heap.size w (w.iter s p) := (Below.refl _ _).alloc (Nat.le_refl _) _

/-- block g is known whole: the cells cs of type t, none of them frozen -/
def Blk (w : World) (g : Nat) (t : TypeId) (cs : Array Value) : Prop := w.heap[g]? = some (.cells cs t (0, 0))
theorem Blk.new (w : World) (t : TypeId) (cs : Array Value) (g : Nat) (hg : w.heap.size = g) : Blk (w.alloc (.cells cs t)) g t cs := by
  subst hg; unfold Blk; show (w.heap.push _)[w.heap.size]? = _; simp
theorem Blk.lt {w : World} {g : Nat} {t : TypeId} {cs : Array Value} (h : Blk w g t cs) : g < w.heap.size := by
  rcases Nat.lt_or_ge g w.heap.size with hlt | hge
  · exact hlt
  · unfold Blk at h; rw [Array.getElem?_eq_none hge] at h; cases h
theorem Blk.alloc {w : World} {g : Nat} {t : TypeId} {cs : Array Value} (h : Blk w g t cs) (o : Obj) : Blk (w.alloc o) g t cs := (Below.heap_alloc w o g h.lt).trans h
theorem Blk.set {w : World} {g : Nat} {t : TypeId} {cs : Array Value} (h : Blk w g t cs) (i : Nat) (u : Value) : Blk (w.setCell ⟨g, i, none⟩ u) g t (cs.setIfInBounds i u) := by
  unfold Blk at h ⊢
  simp [World.setCell, Array.getElem?_modify, h]
theorem Blk.far {w : World} {g : Nat} {t : TypeId} {cs : Array Value} (h : Blk w g t cs) {p : Addr} (hp : g ≠ p.block) (u : Value) : Blk (w.setCell p u) g t cs := (Below.heap_setCell w p u g hp).trans h
theorem Blk.below {w w' : World} {B g : Nat} {t : TypeId} {cs : Array Value} (h : Blk w g t cs) (hb : Below B w w') (hg : g < B) : Blk w' g t cs := (hb.block g hg).trans h
theorem Blk.drewN {w : World} {g : Nat} {t : TypeId} {cs : Array Value} (h : Blk w g t cs) (n : Nat) : Blk (w.drewN n) g t cs := h
theorem Blk.cell {w : World} {g : Nat} {t : TypeId} {cs : Array Value} (h : Blk w g t cs) (i : Nat) : w.cell? ⟨g, i, none⟩ = cs[i]? := cell_of_row w g i cs t (0, 0) h
theorem Blk.frozen {w : World} {g : Nat} {t : TypeId} {cs : Array Value} (h : Blk w g t cs) (i : Nat) : w.frozen? ⟨g, i, none⟩ = false := by
  unfold Blk at h; simp [World.frozen?, h]
theorem Blk.three {w : World} {g : Nat} {t : TypeId} {a b c : Value} (h : Blk w g t #[a, b, c]) :
    w.cell? ⟨g, 0, none⟩ = some a ∧ w.cell? ⟨g, 1, none⟩ = some b ∧ w.cell? ⟨g, 2, none⟩ = some c ∧ ∀ i, w.frozen? ⟨g, i, none⟩ = false :=
  ⟨h.cell 0, h.cell 1, h.cell 2, fun i => h.frozen i⟩
theorem Blk.five {w : World} {g : Nat} {t : TypeId} {a b c d e : Value} (h : Blk w g t #[a, b, c, d, e]) :
    w.cell? ⟨g, 0, none⟩ = some a ∧ w.cell? ⟨g, 1, none⟩ = some b ∧ w.cell? ⟨g, 2, none⟩ = some c ∧ w.cell? ⟨g, 3, none⟩ = some d ∧ w.cell? ⟨g, 4, none⟩ = some e ∧ ∀ i, w.frozen? ⟨g, i, none⟩ = false :=
  ⟨h.cell 0, h.cell 1, h.cell 2, h.cell 3, h.cell 4, fun i => h.frozen i⟩

end Go.Proofs.YtgmlclhdibajiaaDoor
