/- FnTzsetUsual, FnTzsetHour: words. -/
import Derived.Test.YtcjibjggaleclaaLawTz
import Derived.Deep.DeepCutAuto
namespace Go.Proofs.Ytcjibjggaleclaa
open Go.RowKit

theorem Bxs.push {w W : World} {l : List (Nat × TypeId × Array Value)} (h : Bxs w W l) (t : TypeId) (cs : Array Value) : Bxs w (W.alloc (.cells cs t)) ((W.heap.size, t, cs) :: l) := by
  refine ⟨h.1.alloc h.1.size _, ?_⟩
  intro x hx
  rcases List.mem_cons.1 hx with rfl | hx
  · exact Blk.new W _ _ _ rfl
  · exact (h.2 x hx).alloc _
theorem Bxs.allo {w W : World} {l : List (Nat × TypeId × Array Value)} (h : Bxs w W l) (o : Obj) : Bxs w (W.alloc o) l := ⟨h.1.alloc h.1.size _, fun x hx => (h.2 x hx).alloc _⟩
theorem Bxs.tail {w W : World} {x : Nat × TypeId × Array Value} {l : List (Nat × TypeId × Array Value)} (h : Bxs w W (x :: l)) : Bxs w W l := ⟨h.1, fun y hy => h.2 y (List.mem_cons_of_mem _ hy)⟩
theorem Blk.keep {W W' : World} (hb : Below W.heap.size W W') {g : Nat} {t : TypeId} {cs : Array Value} (h : Blk W g t cs) : Blk W' g t cs := h.below hb h.lt
theorem Ret.bxF {f : FuncId} {args : Array Value} {v : Value} (h : Ret f args v) (w : World) (l : List (Nat × TypeId × Array Value)) (W : World) (hB : Bxs w W l) : Calls Try.prog f args W fun e W' => e = .returned v ∧ Bxs w W' l ∧ Below W.heap.size W W' :=
  (h W).mono fun _ _ ⟨he, hb⟩ => ⟨he, hB.below hb, hb⟩
def foC (f : Fo) : Array Value := #[.string (S f.nm), .int .i64 f.off, .int .i64 f.st, .int .i64 f.en, .bool f.dst]
def foPut (W : World) (n : Nat) (f : Fo) : World := ((((W.setCell ⟨n, 0, none⟩ (.string (S f.nm))).setCell ⟨n, 1, none⟩ (.int .i64 f.off)).setCell ⟨n, 2, none⟩ (.int .i64 f.st)).setCell ⟨n, 3, none⟩ (.int .i64 f.en)).setCell ⟨n, 4, none⟩ (.bool f.dst)
/-- the answer's block, made ahead of calls: what it holds, that it is another one than those of l -/
def NB (w : World) (l : List (Nat × TypeId × Array Value)) (n : Nat) (W : World) : Prop := Blk W n 32 #[.string ⟨#[]⟩, .int .i64 0, .int .i64 0, .int .i64 0, .bool false] ∧ w.heap.size ≤ n ∧ ∀ x ∈ l, x.1 < n
theorem NB.new {w u W : World} {l : List (Nat × TypeId × Array Value)} (h : Bxs w u l) (hb : Below (u.alloc (.cells #[.string ⟨#[]⟩, .int .i64 0, .int .i64 0, .int .i64 0, .bool false] 32)).heap.size (u.alloc (.cells #[.string ⟨#[]⟩, .int .i64 0, .int .i64 0, .int .i64 0, .bool false] 32)) W) : NB w l u.heap.size W :=
  ⟨(Blk.new u _ _ _ rfl).keep hb, h.1.size, fun x hx => (h.2 x hx).lt⟩
theorem NB.newD {w u W : World} {l : List (Nat × TypeId × Array Value)} (h : Bxs w u l) (hb : Below (u.drew.alloc (.cells #[.string ⟨#[]⟩, .int .i64 0, .int .i64 0, .int .i64 0, .bool false] 32)).heap.size (u.drew.alloc (.cells #[.string ⟨#[]⟩, .int .i64 0, .int .i64 0, .int .i64 0, .bool false] 32)) W) : NB w l u.heap.size W :=
  ⟨(Blk.new u.drew _ _ _ rfl).keep hb, h.1.size, fun x hx => (h.2 x hx).lt⟩
theorem NB.newE {w u W : World} {l : List (Nat × TypeId × Array Value)} (h : Bxs w u l) (hb : Below (u.alloc (.cells #[.string ⟨#[]⟩, .int .i64 0, .int .i64 0, .int .i64 0, .bool false] 32)).drew.heap.size (u.alloc (.cells #[.string ⟨#[]⟩, .int .i64 0, .int .i64 0, .int .i64 0, .bool false] 32)).drew W) : NB w l u.heap.size W :=
  ⟨Blk.keep hb (show Blk (u.alloc (.cells #[.string ⟨#[]⟩, .int .i64 0, .int .i64 0, .int .i64 0, .bool false] 32)).drew u.heap.size _ _ from Blk.new u _ _ _ rfl), h.1.size, fun x hx => (h.2 x hx).lt⟩
theorem NB.keep {w W W' : World} {l : List (Nat × TypeId × Array Value)} {n : Nat} (h : NB w l n W) (hb : Below W.heap.size W W') : NB w l n W' := ⟨h.1.keep hb, h.2⟩
theorem fin_early {w u' : World} {l : List (Nat × TypeId × Array Value)} {f : Fo} {n : Nat} (h : NB w l n u') (hu' : Bxs w u' l) :
    Bxs w (((((u'.setCell ⟨n, 0, none⟩ (.string (S f.nm))).setCell ⟨n, 1, none⟩ (.int .i64 f.off)).setCell ⟨n, 2, none⟩ (.int .i64 f.st)).setCell ⟨n, 3, none⟩ (.int .i64 f.en)).setCell ⟨n, 4, none⟩ (.bool f.dst)) ((n, 32, foC f) :: l) := by
  obtain ⟨hk, hs, hne⟩ := h
  refine ⟨?_, ?_⟩
  · exact ((((hu'.1.setCell (p := ⟨n, 0, none⟩) hs _).setCell (p := ⟨n, 1, none⟩) hs _).setCell (p := ⟨n, 2, none⟩) hs _).setCell (p := ⟨n, 3, none⟩) hs _).setCell (p := ⟨n, 4, none⟩) hs _
  · intro x hx
    rcases List.mem_cons.1 hx with rfl | hx
    · exact ((((hk.set 0 _).set 1 _).set 2 _).set 3 _).set 4 _
    · have hne : x.1 ≠ n := Nat.ne_of_lt (hne x hx)
      exact (((((hu'.2 x hx).far (p := ⟨n, 0, none⟩) hne _).far (p := ⟨n, 1, none⟩) hne _).far (p := ⟨n, 2, none⟩) hne _).far (p := ⟨n, 3, none⟩) hne _).far (p := ⟨n, 4, none⟩) hne _
theorem Bxs.new (w : World) : Bxs w w [] := ⟨Below.refl _ _, fun x hx => by cases hx⟩
def ruU1 : Ru := ⟨2, 0, 2, 3, 7200⟩
def ruU2 : Ru := ⟨2, 0, 1, 11, 7200⟩
abbrev zC (n : Bs) (o : Int) (d : Bool) : Array Value := #[.string (S n), .int .i64 o, .bool d]
/-- the boxes of two zones and a season -/
def boxU (g1 g0 k : Nat) (s : Se) : List (Nat × TypeId × Array Value) := [(k, 28, seC s), (g1, 23, zC s.n2 s.o2 s.d2), (g0, 23, zC s.n1 s.o1 s.d1)]
def Zc (g1 g0 : Nat) (s : Se) (W : World) : Prop := (W.cell? ⟨g0, 0, none⟩ = some (.string (S s.n1)) ∧ W.cell? ⟨g0, 1, none⟩ = some (.int .i64 s.o1) ∧ W.cell? ⟨g0, 2, none⟩ = some (.bool s.d1)) ∧ (W.cell? ⟨g1, 0, none⟩ = some (.string (S s.n2)) ∧ W.cell? ⟨g1, 1, none⟩ = some (.int .i64 s.o2) ∧ W.cell? ⟨g1, 2, none⟩ = some (.bool s.d2))
theorem zc_of {w W : World} {l : List (Nat × TypeId × Array Value)} {g1 g0 : Nat} {s : Se} (h : Bxs w W l) (m1 : (g1, 23, zC s.n2 s.o2 s.d2) ∈ l) (m0 : (g0, 23, zC s.n1 s.o1 s.d1) ∈ l) : Zc g1 g0 s W :=
  ⟨⟨(h.2 _ m0).cell 0, (h.2 _ m0).cell 1, (h.2 _ m0).cell 2⟩, ⟨(h.2 _ m1).cell 0, (h.2 _ m1).cell 1, (h.2 _ m1).cell 2⟩⟩
theorem sc_of {w W : World} {l : List (Nat × TypeId × Array Value)} {k : Nat} {s : Se} (h : Bxs w W l) (m : (k, 28, seC s) ∈ l) : W.cell? ⟨k, 0, none⟩ = some (.string (S s.n1)) ∧ W.cell? ⟨k, 1, none⟩ = some (.int .i64 s.o1) ∧ W.cell? ⟨k, 2, none⟩ = some (.bool s.d1) ∧ W.cell? ⟨k, 3, none⟩ = some (.string (S s.n2)) ∧ W.cell? ⟨k, 4, none⟩ = some (.int .i64 s.o2) ∧ W.cell? ⟨k, 5, none⟩ = some (.bool s.d2) ∧ W.cell? ⟨k, 6, none⟩ = some (.int .i64 s.r1.kind) ∧ W.cell? ⟨k, 7, none⟩ = some (.int .i64 s.r1.day) ∧ W.cell? ⟨k, 8, none⟩ = some (.int .i64 s.r1.week) ∧ W.cell? ⟨k, 9, none⟩ = some (.int .i64 s.r1.mon) ∧ W.cell? ⟨k, 10, none⟩ = some (.int .i64 s.r1.time) ∧ W.cell? ⟨k, 11, none⟩ = some (.int .i64 s.r2.kind) ∧ W.cell? ⟨k, 12, none⟩ = some (.int .i64 s.r2.day) ∧ W.cell? ⟨k, 13, none⟩ = some (.int .i64 s.r2.week) ∧ W.cell? ⟨k, 14, none⟩ = some (.int .i64 s.r2.mon) ∧ W.cell? ⟨k, 15, none⟩ = some (.int .i64 s.r2.time) :=
  ⟨(h.2 _ m).cell 0, (h.2 _ m).cell 1, (h.2 _ m).cell 2, (h.2 _ m).cell 3, (h.2 _ m).cell 4, (h.2 _ m).cell 5, (h.2 _ m).cell 6, (h.2 _ m).cell 7, (h.2 _ m).cell 8, (h.2 _ m).cell 9, (h.2 _ m).cell 10, (h.2 _ m).cell 11, (h.2 _ m).cell 12, (h.2 _ m).cell 13, (h.2 _ m).cell 14, (h.2 _ m).cell 15⟩
theorem fc_of {w W : World} {l : List (Nat × TypeId × Array Value)} {g : Nat} {f : Fo} (h : Bxs w W l) (m : (g, 32, #[.string (S f.nm), .int .i64 f.off, .int .i64 f.st, .int .i64 f.en, .bool f.dst]) ∈ l) : W.cell? ⟨g, 0, none⟩ = some (.string (S f.nm)) ∧ W.cell? ⟨g, 1, none⟩ = some (.int .i64 f.off) ∧ W.cell? ⟨g, 2, none⟩ = some (.int .i64 f.st) ∧ W.cell? ⟨g, 3, none⟩ = some (.int .i64 f.en) ∧ W.cell? ⟨g, 4, none⟩ = some (.bool f.dst) :=
  ⟨(h.2 _ m).cell 0, (h.2 _ m).cell 1, (h.2 _ m).cell 2, (h.2 _ m).cell 3, (h.2 _ m).cell 4⟩
theorem boxU_all {w W : World} {g1 g0 k : Nat} {s : Se} (h : Bxs w W (boxU g1 g0 k s)) : ((W.cell? ⟨k, 0, none⟩ = some (.string (S s.n1)) ∧ W.cell? ⟨k, 1, none⟩ = some (.int .i64 s.o1) ∧ W.cell? ⟨k, 2, none⟩ = some (.bool s.d1) ∧ W.cell? ⟨k, 3, none⟩ = some (.string (S s.n2)) ∧ W.cell? ⟨k, 4, none⟩ = some (.int .i64 s.o2) ∧ W.cell? ⟨k, 5, none⟩ = some (.bool s.d2) ∧ W.cell? ⟨k, 6, none⟩ = some (.int .i64 s.r1.kind) ∧ W.cell? ⟨k, 7, none⟩ = some (.int .i64 s.r1.day) ∧ W.cell? ⟨k, 8, none⟩ = some (.int .i64 s.r1.week) ∧ W.cell? ⟨k, 9, none⟩ = some (.int .i64 s.r1.mon) ∧ W.cell? ⟨k, 10, none⟩ = some (.int .i64 s.r1.time) ∧ W.cell? ⟨k, 11, none⟩ = some (.int .i64 s.r2.kind) ∧ W.cell? ⟨k, 12, none⟩ = some (.int .i64 s.r2.day) ∧ W.cell? ⟨k, 13, none⟩ = some (.int .i64 s.r2.week) ∧ W.cell? ⟨k, 14, none⟩ = some (.int .i64 s.r2.mon) ∧ W.cell? ⟨k, 15, none⟩ = some (.int .i64 s.r2.time)) ∧ ((W.cell? ⟨g0, 0, none⟩ = some (.string (S s.n1)) ∧ W.cell? ⟨g0, 1, none⟩ = some (.int .i64 s.o1) ∧ W.cell? ⟨g0, 2, none⟩ = some (.bool s.d1)) ∧ (W.cell? ⟨g1, 0, none⟩ = some (.string (S s.n2)) ∧ W.cell? ⟨g1, 1, none⟩ = some (.int .i64 s.o2) ∧ W.cell? ⟨g1, 2, none⟩ = some (.bool s.d2)))) ∧ Bxs w W (boxU g1 g0 k s) :=
  ⟨⟨sc_of h (by simp [boxU]), zc_of h (by simp [boxU]) (by simp [boxU])⟩, h⟩
theorem boxU_four {w W : World} {g1 g0 k : Nat} {s : Se} (h : Bxs w W (boxU g1 g0 k s)) : (W.cell? ⟨g0, 0, none⟩ = some (.string (S s.n1)) ∧ W.cell? ⟨g0, 1, none⟩ = some (.int .i64 s.o1) ∧ W.cell? ⟨g1, 0, none⟩ = some (.string (S s.n2)) ∧ W.cell? ⟨g1, 1, none⟩ = some (.int .i64 s.o2)) ∧ Bxs w W (boxU g1 g0 k s) :=
  ⟨⟨(h.2 (g0, 23, zC s.n1 s.o1 s.d1) (by simp [boxU])).cell 0, (h.2 (g0, 23, zC s.n1 s.o1 s.d1) (by simp [boxU])).cell 1, (h.2 (g1, 23, zC s.n2 s.o2 s.d2) (by simp [boxU])).cell 0, (h.2 (g1, 23, zC s.n2 s.o2 s.d2) (by simp [boxU])).cell 1⟩, h⟩
theorem boxUF_all {w W : World} {g1 g0 k g : Nat} {s : Se} {f : Fo} (h : Bxs w W ((g, 32, #[.string (S f.nm), .int .i64 f.off, .int .i64 f.st, .int .i64 f.en, .bool f.dst]) :: boxU g1 g0 k s)) : ((W.cell? ⟨k, 0, none⟩ = some (.string (S s.n1)) ∧ W.cell? ⟨k, 1, none⟩ = some (.int .i64 s.o1) ∧ W.cell? ⟨k, 2, none⟩ = some (.bool s.d1) ∧ W.cell? ⟨k, 3, none⟩ = some (.string (S s.n2)) ∧ W.cell? ⟨k, 4, none⟩ = some (.int .i64 s.o2) ∧ W.cell? ⟨k, 5, none⟩ = some (.bool s.d2) ∧ W.cell? ⟨k, 6, none⟩ = some (.int .i64 s.r1.kind) ∧ W.cell? ⟨k, 7, none⟩ = some (.int .i64 s.r1.day) ∧ W.cell? ⟨k, 8, none⟩ = some (.int .i64 s.r1.week) ∧ W.cell? ⟨k, 9, none⟩ = some (.int .i64 s.r1.mon) ∧ W.cell? ⟨k, 10, none⟩ = some (.int .i64 s.r1.time) ∧ W.cell? ⟨k, 11, none⟩ = some (.int .i64 s.r2.kind) ∧ W.cell? ⟨k, 12, none⟩ = some (.int .i64 s.r2.day) ∧ W.cell? ⟨k, 13, none⟩ = some (.int .i64 s.r2.week) ∧ W.cell? ⟨k, 14, none⟩ = some (.int .i64 s.r2.mon) ∧ W.cell? ⟨k, 15, none⟩ = some (.int .i64 s.r2.time)) ∧ (W.cell? ⟨g, 0, none⟩ = some (.string (S f.nm)) ∧ W.cell? ⟨g, 1, none⟩ = some (.int .i64 f.off) ∧ W.cell? ⟨g, 2, none⟩ = some (.int .i64 f.st) ∧ W.cell? ⟨g, 3, none⟩ = some (.int .i64 f.en) ∧ W.cell? ⟨g, 4, none⟩ = some (.bool f.dst))) ∧ Bxs w W ((g, 32, #[.string (S f.nm), .int .i64 f.off, .int .i64 f.st, .int .i64 f.en, .bool f.dst]) :: boxU g1 g0 k s) :=
  ⟨⟨sc_of h (by simp [boxU]), fc_of h (by simp [boxU])⟩, h⟩
theorem usuF_len (n1 : Bs) (o1 : Int) (n2 : Bs) (o2 : Int) (h1 : n1.length ≤ 100) (h2 : n2.length ≤ 100) : (usuF n1 o1 n2 o2).length ≤ 1000 := by
  have a1 := nameT_len n1
  have a2 := nameT_len n2
  have a3 := clkT_len (-o1) false
  have a4 := clkT_len (-o2) false
  unfold usuF
  simp only [List.length_append]
  omega
theorem Tz_usual (s : Se) (last sec : Int) (h : seOk s = true) (e1 : s.r1 = ruU1) (e2 : s.r2 = ruU2) : Ret 8 #[.string (S (usuF s.n1 s.o1 s.n2 s.o2)), .int .i64 last, .int .i64 sec] (.tuple #[foA (seFo s last sec), .bool true]) := by
  obtain ⟨hn1, hn2, ⟨a0, a1⟩, ⟨b0, b1⟩, hr1, hr2⟩ := seOk_all s h
  have hl := usuF_len s.n1 s.o1 s.n2 s.o2 (brackB_len _ hn1).2 (brackB_len _ hn2).2
  have := implTzset_ret (usuF s.n1 s.o1 s.n2 s.o2) (by omega) last sec
  rw [tzA_usual s.n1 s.o1 s.n2 s.o2 hn1 hn2 a0 a1 b0 b1] at this
  unfold seFo
  rw [e1, e2]
  exact this

end Go.Proofs.Ytcjibjggaleclaa
