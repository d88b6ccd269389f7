/- Locations in memory: words. -/
import Derived.Test.YtgmlclhdibajiaaDoorPlace
import Derived.Deep.RegionLaw
import Derived.Deep.AppendLies
namespace Go.Proofs.YtgmlclhdibajiaaDoor
open Go.RowKit

theorem info_zone : (Tryd.prog.info? 68).map (fun i => (i.zero, i.size, i.bytes)) = some (some (.agg #[.string ⟨#[]⟩, .int .i64 0, .bool false]), 3, 32) := by kernel_rfl
theorem info_zoneTrans : (Tryd.prog.info? 77).map (fun i => (i.zero, i.size, i.bytes)) = some (some (.agg #[.int .i64 0, .int .u8 0, .bool false, .bool false]), 4, 16) := by kernel_rfl

/-- the cells of a location -/
def locC (nm ext : Bs) (z t : Value) : Array Value := #[.bool false, .string (S nm), z, t, .string (S ext), .int .i64 0, .int .i64 0, .pointer none]
theorem Blk.loc {w : World} {g : Nat} {nm ext : Bs} {z t : Value} (h : Blk w g 80 (locC nm ext z t)) :
    w.cell? ⟨g, 1, none⟩ = some (.string (S nm)) ∧ w.cell? ⟨g, 2, none⟩ = some z ∧ w.cell? ⟨g, 3, none⟩ = some t ∧ w.cell? ⟨g, 4, none⟩ = some (.string (S ext)) ∧ w.cell? ⟨g, 7, none⟩ = some (.pointer none) :=
  ⟨h.cell 1, h.cell 2, h.cell 3, h.cell 4, h.cell 7⟩
theorem Blk.grown {w w' : World} {g : Nat} {t : TypeId} {cs : Array Value} {row : Option Nat} (h : Blk w g t cs) (hb : w.grownBy w' row) (hg : some g ≠ row) : Blk w' g t cs := (hb.block g h.lt hg).trans h
theorem own_ne {w : World} {base g n : Nat} {e : TypeId} {size : Nat} {v : Value} {xs : List Value} (h : w.ownsRow base e size v n xs) (hg : g < base) : v.ownBlock ≠ some g := by
  intro e
  have := (h.lt g e).1
  omega

theorem own_set {w : World} {base g n cap : Nat} {e : TypeId} {size : Nat} {xs : List Value} (h : w.ownsRow base e size (.slice (some ⟨g, 0, none⟩) n cap) n xs) (q : Addr) (hp : q.block < base) (u : Value) : (w.setCell q u).ownsRow base e size (.slice (some ⟨g, 0, none⟩) n cap) n xs := by
  refine ⟨h.1, ?_⟩
  rcases h.2 with ⟨h1, _⟩ | ⟨g', cap', cur, h1, h2, h3, h4⟩
  · cases h1
  · exact .inr ⟨g', cap', cur, h1, h2, (Below.heap_setCell w q u g' (by omega)).trans h3, h4⟩
theorem own_rd {w : World} {base n : Nat} {e : TypeId} {size : Nat} {v : Value} {xs : List Value} (h : w.ownsRow base e size v n xs) : ∃ (A : Option Addr) (c : Nat), v = .slice A n c ∧ Rd w w.heap.size A n xs := by
  rcases h.2 with ⟨h1, h2⟩ | ⟨g, cap, cur, h1, h2⟩
  · exact ⟨none, 0, by rw [h1, h2], fun hn => by omega⟩
  · exact ⟨some ⟨g, 0, none⟩, cap, h1, fun _ => ⟨_, rfl, (h.lt g (by rw [h1]; rfl)).2, h.cells (by rw [h1]; rfl)⟩⟩
/-- only one block, and what is new, has turned -/
theorem only_step {a W W' : World} {g : Nat} {row : Option Nat} {o1 o2 : Obj} (h : a.grownBy W (some g)) (hg : ((W.alloc o1).alloc o2).drew.grownBy W' row) (hr : ∀ j, row = some j → a.heap.size ≤ j) (u : Value) (i : Nat) : a.grownBy (W'.setCell ⟨g, i, none⟩ u) (some g) := by
  have hs : W.heap.size ≤ W'.heap.size := by
    have := hg.size
    have e : ((W.alloc o1).alloc o2).drew.heap.size = W.heap.size + 1 + 1 := by
      show ((W.alloc o1).alloc o2).heap.size = _
      simp
    omega
  refine ⟨hg.os.trans h.os, hg.tape.trans h.tape, hg.output.trans h.output, Nat.le_trans h.size (Nat.le_trans hs (by simp [World.setCell])), ?_⟩
  intro j hj hne
  have hjg : j ≠ g := fun e => hne (by rw [e])
  have h1 := h.block j hj hne
  have hjW : j < W.heap.size := Nat.lt_of_lt_of_le hj h.size
  have h2 : ((W.alloc o1).alloc o2).drew.heap[j]? = W.heap[j]? := (Below.heap_alloc (W.alloc o1) o2 j (by simp; omega)).trans (Below.heap_alloc W o1 j hjW)
  have h3 := hg.block j (by show j < ((W.alloc o1).alloc o2).heap.size; simp; omega) (fun e => by have := hr j e.symm; omega)
  exact ((Below.heap_setCell W' ⟨g, i, none⟩ u j hjg).trans h3).trans (h2.trans h1)
/-- a location in memory, as a place -/
def Loc (W : World) (g : Nat) (p : Pl) (a : Ad) : Prop :=
  Blk W g 80 (locC p.nm p.ext (.slice a.A1 p.zs.length a.c1) (.slice a.A2 p.ts.length a.c2)) ∧ Rd W W.heap.size a.A1 p.zs.length (zosC p.zs) ∧ Rd W W.heap.size a.A2 p.ts.length (ttsC p.ts) ∧ ∀ t ∈ p.ts, t.ix < 256
def IsLoc (w : World) (p : Pl) (v : Value) (W : World) : Prop := ∃ (g : Nat) (a : Ad), v = .pointer (some ⟨g, 0, none⟩) ∧ Loc W g p a ∧ Below w.heap.size w W
theorem news4 (w : World) (H : Nat) (hH : w.heap.size = H) (t : TypeId) (u v x y : Value) : ∀ (j : Nat) (q : Value), [u, v, x, y][j]? = some q → (w.alloc (.cells #[u, v, x, y] t)).cell? ((⟨H, 0, none⟩ : Addr).add j) = some q := by
  subst hH
  exact World.news_of_block (cs := #[u, v, x, y]) (t := t) (fr := (0, 0)) (heap_alloc_new w _)

theorem Blk.keep {W W' : World} {g : Nat} {t : TypeId} {cs : Array Value} (h : Blk W g t cs) (hb : Below W.heap.size W W') : Blk W' g t cs := h.below hb h.lt
theorem Rd.at_ {w w' : World} {A : Option Addr} {n : Nat} {xs : List Value} (h : Rd w w.heap.size A n xs) (hb : Below w.heap.size w w') : Rd w' w'.heap.size A n xs := (h.below hb (Nat.le_refl _)).more hb.size
theorem Loc.below {W W' : World} {g : Nat} {p : Pl} {a : Ad} (h : Loc W g p a) (hb : Below W.heap.size W W') : Loc W' g p a :=
  ⟨h.1.below hb h.1.lt, h.2.1.at_ hb, h.2.2.1.at_ hb, h.2.2.2⟩
theorem Loc.drewN {W : World} {g : Nat} {p : Pl} {a : Ad} (h : Loc W g p a) (n : Nat) : Loc (W.drewN n) g p a := ⟨h.1, h.2.1, h.2.2.1, h.2.2.2⟩
theorem Loc.alloc {W : World} {g : Nat} {p : Pl} {a : Ad} (h : Loc W g p a) (o : Obj) : Loc (W.alloc o) g p a := h.below ((Below.refl _ _).alloc (Nat.le_refl _) _)
end Go.Proofs.YtgmlclhdibajiaaDoor
