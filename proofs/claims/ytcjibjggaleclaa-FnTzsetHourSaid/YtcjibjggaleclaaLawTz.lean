/- FnExactTzset and FnTzsetBounds: their walks. -/
import Derived.Test.YtcjibjggaleclaaSeasonA
import Derived.Test.YtcjibjggaleclaaSeasonT
import Derived.Test.YtcjibjggaleclaaImplTz
import Derived.BigQuiet
namespace Go.Proofs.Ytcjibjggaleclaa
open Go.RowKit

/-- blocks that are known whole, and all that was there before -/
def Bxs (w W : World) (l : List (Nat × TypeId × Array Value)) : Prop := Below w.heap.size w W ∧ ∀ x ∈ l, Blk W x.1 x.2.1 x.2.2
theorem Bxs.drew {w W : World} {l : List (Nat × TypeId × Array Value)} (h : Bxs w W l) : Bxs w W.drew l := ⟨h.1.drew, h.2⟩
theorem Bxs.below {w W W' : World} {l : List (Nat × TypeId × Array Value)} (h : Bxs w W l) (hb : Below W.heap.size W W') : Bxs w W' l :=
  ⟨h.1.trans (hb.mono h.1.size), fun x hx => (h.2 x hx).below hb (h.2 x hx).lt⟩
theorem Ret.bx {f : FuncId} {args : Array Value} {v : Value} (h : Ret f args v) {w W : World} {l : List (Nat × TypeId × Array Value)} (hB : Bxs w W l) : Calls Try.prog f args W fun e W' => e = .returned v ∧ Bxs w W' l :=
  (h W).mono fun _ _ ⟨he, hb⟩ => ⟨he, hB.below hb⟩
theorem Ret.bxAt {f : FuncId} {args : Array Value} {v : Value} (h : Ret f args v) (w : World) (l : List (Nat × TypeId × Array Value)) (W : World) (hB : Bxs w W l) : Calls Try.prog f args W fun e W' => e = .returned v ∧ Bxs w W' l := h.bx hB
theorem Bxs.blk {w W : World} {l : List (Nat × TypeId × Array Value)} (h : Bxs w W l) (g : Nat) (t : TypeId) (cs : Array Value) (hm : (g, t, cs) ∈ l) : Blk W g t cs := h.2 _ hm

def fits (n : Bs) : Bool := decide ((n.length : Int) ≤ 2147483647)
theorem zzFits1_ret (n : Bs) (o : Int) (d : Bool) : Ret 5 #[zonV n o d] (.bool (fits n)) := by
  intro w
  by_cases h : (2147483647 : Int) < (n.length : Int)
  · have HF := Lib.hid (show fits n = false by simp only [fits, decide_eq_false_iff_not]; omega)
    unfold zonV
    go_enter Try.func5, Try.ntmps5
    go_wp2_with fail
    go_ret
    rw [HF.out]
    exact ⟨rfl, by go_grown⟩
  · have HF := Lib.hid (show fits n = true by simp only [fits, decide_eq_true_eq]; omega)
    unfold zonV
    go_enter Try.func5, Try.ntmps5
    go_wp2_with fail
    go_ret
    rw [HF.out]
    exact ⟨rfl, by go_grown⟩

/-- the four boxes of a law's arguments -/
def boxes4 (g : Nat) (s : Se) : List (Nat × TypeId × Array Value) :=
  [(g, 23, #[.string (S s.n1), .int .i64 s.o1, .bool s.d1]), (g + 1, 23, #[.string (S s.n2), .int .i64 s.o2, .bool s.d2]),
   (g + 2, 25, #[.int .i64 s.r1.kind, .int .i64 s.r1.day, .int .i64 s.r1.week, .int .i64 s.r1.mon, .int .i64 s.r1.time]), (g + 3, 25, #[.int .i64 s.r2.kind, .int .i64 s.r2.day, .int .i64 s.r2.week, .int .i64 s.r2.mon, .int .i64 s.r2.time])]
theorem boxes4_new (w : World) (s : Se) : Bxs w ((((w.alloc (.cells #[.string (S s.n1), .int .i64 s.o1, .bool s.d1] 23)).alloc (.cells #[.string (S s.n2), .int .i64 s.o2, .bool s.d2] 23)).alloc (.cells #[.int .i64 s.r1.kind, .int .i64 s.r1.day, .int .i64 s.r1.week, .int .i64 s.r1.mon, .int .i64 s.r1.time] 25)).alloc (.cells #[.int .i64 s.r2.kind, .int .i64 s.r2.day, .int .i64 s.r2.week, .int .i64 s.r2.mon, .int .i64 s.r2.time] 25)) (boxes4 w.heap.size s) := by
  refine ⟨((((Below.refl _ _).alloc (Nat.le_refl _) _).alloc (by simp) _).alloc (by simp; omega) _).alloc (by simp; omega) _, ?_⟩
  intro x hx
  simp only [boxes4, List.mem_cons, List.not_mem_nil, or_false] at hx
  rcases hx with rfl | rfl | rfl | rfl
  · exact (((Blk.new w _ _ _ rfl).alloc _).alloc _).alloc _
  · exact ((Blk.new (w.alloc _) _ _ _ (by simp)).alloc _).alloc _
  · exact (Blk.new ((w.alloc _).alloc _) _ _ _ (by simp)).alloc _
  · exact Blk.new (((w.alloc _).alloc _).alloc _) _ _ _ (by simp)
def Cells4 (w : World) (s : Se) (W : World) : Prop :=
  (W.cell? ⟨w.heap.size, 0, none⟩ = some (.string (S s.n1)) ∧ W.cell? ⟨w.heap.size, 1, none⟩ = some (.int .i64 s.o1) ∧ W.cell? ⟨w.heap.size, 2, none⟩ = some (.bool s.d1)) ∧
  (W.cell? ⟨w.heap.size + 1, 0, none⟩ = some (.string (S s.n2)) ∧ W.cell? ⟨w.heap.size + 1, 1, none⟩ = some (.int .i64 s.o2) ∧ W.cell? ⟨w.heap.size + 1, 2, none⟩ = some (.bool s.d2)) ∧
  (W.cell? ⟨w.heap.size + 2, 0, none⟩ = some (.int .i64 s.r1.kind) ∧ W.cell? ⟨w.heap.size + 2, 1, none⟩ = some (.int .i64 s.r1.day) ∧ W.cell? ⟨w.heap.size + 2, 2, none⟩ = some (.int .i64 s.r1.week) ∧ W.cell? ⟨w.heap.size + 2, 3, none⟩ = some (.int .i64 s.r1.mon) ∧ W.cell? ⟨w.heap.size + 2, 4, none⟩ = some (.int .i64 s.r1.time)) ∧
  (W.cell? ⟨w.heap.size + 3, 0, none⟩ = some (.int .i64 s.r2.kind) ∧ W.cell? ⟨w.heap.size + 3, 1, none⟩ = some (.int .i64 s.r2.day) ∧ W.cell? ⟨w.heap.size + 3, 2, none⟩ = some (.int .i64 s.r2.week) ∧ W.cell? ⟨w.heap.size + 3, 3, none⟩ = some (.int .i64 s.r2.mon) ∧ W.cell? ⟨w.heap.size + 3, 4, none⟩ = some (.int .i64 s.r2.time))
theorem Bxs.cells4 {w W : World} {s : Se} (h : Bxs w W (boxes4 w.heap.size s)) : Cells4 w s W := by
  have b0 := h.2 _ (List.mem_cons_self)
  have b1 := h.2 _ (List.mem_cons_of_mem _ List.mem_cons_self)
  have b2 := h.2 _ (List.mem_cons_of_mem _ (List.mem_cons_of_mem _ List.mem_cons_self))
  have b3 := h.2 _ (List.mem_cons_of_mem _ (List.mem_cons_of_mem _ (List.mem_cons_of_mem _ List.mem_cons_self)))
  exact ⟨⟨b0.cell 0, b0.cell 1, b0.cell 2⟩, ⟨b1.cell 0, b1.cell 1, b1.cell 2⟩, ⟨b2.cell 0, b2.cell 1, b2.cell 2, b2.cell 3, b2.cell 4⟩, ⟨b3.cell 0, b3.cell 1, b3.cell 2, b3.cell 3, b3.cell 4⟩⟩
theorem boxes4_lt {w W : World} {s : Se} (h : Bxs w W (boxes4 w.heap.size s)) : w.heap.size + 3 < W.heap.size :=
  (h.2 _ (List.mem_cons_of_mem _ (List.mem_cons_of_mem _ (List.mem_cons_of_mem _ List.mem_cons_self)))).lt

/-- what tzset answers for a season -/
def seFo (s : Se) (last sec : Int) : Fo := (tzFo last sec (some (s.n1, s.o1, some (s.n2, s.o2, s.r1, s.r2)))).1
theorem dstB_shift (a b ys yst : Int) : dstB (yst + a) (yst + b) (yst + ys) = dstB a b ys := by
  unfold dstB
  by_cases h : b < a
  · rw [if_pos h, if_pos (by omega)]; congr 1; apply propext; omega
  · rw [if_neg h, if_neg (by omega)]; congr 1; apply propext; omega
theorem seas_at (n1 : Bs) (o1 : Int) (n2 : Bs) (o2 : Int) (a b ys yst : Int) (f : Fo) (hf : f = if b < a then seasF n2 o2 true n1 o1 false b a ys yst else seasF n1 o1 false n2 o2 true a b ys yst) :
    zonV f.nm f.off f.dst = if dstB (yst + a) (yst + b) (yst + ys) then zonV n2 o2 true else zonV n1 o1 false := by
  rw [dstB_shift]
  rcases dst_cases a b ys with ⟨h1, h2, h3, hd⟩ | ⟨h1, h2, h3, hd⟩ | ⟨h1, h2, h3, hd⟩ | ⟨h1, h2, h3, hd⟩ | ⟨h1, h2, h3, hd⟩ | ⟨h1, h2, h3, hd⟩
  · rw [hd]; rw [if_pos h1, seasF, if_neg h3, if_pos h2] at hf; subst hf; rfl
  · rw [hd]; rw [if_pos h1, seasF, if_pos h3] at hf; subst hf; rfl
  · rw [hd]; rw [if_pos h1, seasF, if_neg h3, if_neg h2] at hf; subst hf; rfl
  · rw [hd]; rw [if_neg h1, seasF, if_neg (by omega), if_neg (by omega)] at hf; subst hf; rfl
  · rw [hd]; rw [if_neg h1, seasF, if_neg (by omega), if_pos (by omega)] at hf; subst hf; rfl
  · rw [hd]; rw [if_neg h1, seasF, if_pos (by omega)] at hf; subst hf; rfl
theorem seFo_eq (s : Se) (last sec : Int) (h : seOk s = true) (h0 : 0 ≤ sec) (h1 : sec ≤ 253402300799) : seFo s last sec =
    if specRT (tzYear sec) s.r2 s.o2 < specRT (tzYear sec) s.r1 s.o1 then seasF s.n2 s.o2 true s.n1 s.o1 false (specRT (tzYear sec) s.r2 s.o2) (specRT (tzYear sec) s.r1 s.o1) (tzYsec sec) (ystF (tzYear sec))
    else seasF s.n1 s.o1 false s.n2 s.o2 true (specRT (tzYear sec) s.r1 s.o1) (specRT (tzYear sec) s.r2 s.o2) (tzYsec sec) (ystF (tzYear sec)) := by
  obtain ⟨_, _, _, _, hr1, hr2⟩ := seOk_all s h
  obtain ⟨y1, y2, y3, y4, y5, y6⟩ := year_law sec h0 h1
  have e : seFo s last sec = if ruTime (tzYear sec) s.r2 s.o2 < ruTime (tzYear sec) s.r1 s.o1 then seasF s.n2 s.o2 true s.n1 s.o1 false (ruTime (tzYear sec) s.r2 s.o2) (ruTime (tzYear sec) s.r1 s.o1) (tzYsec sec) (tzYst sec)
     else seasF s.n1 s.o1 false s.n2 s.o2 true (ruTime (tzYear sec) s.r1 s.o1) (ruTime (tzYear sec) s.r2 s.o2) (tzYsec sec) (tzYst sec) := rfl
  rw [ruTime_spec _ _ _ (by omega) y6 hr1, ruTime_spec _ _ _ (by omega) y6 hr2, y4] at e
  exact e
theorem at_law (s : Se) (last sec : Int) (h : seOk s = true) (h0 : 0 ≤ sec) (h1 : sec ≤ 253402300799) : atV s sec = zonV (seFo s last sec).nm (seFo s last sec).off (seFo s last sec).dst := by
  obtain ⟨y1, _⟩ := year_law sec h0 h1
  have := seas_at s.n1 s.o1 s.n2 s.o2 (specRT (tzYear sec) s.r1 s.o1) (specRT (tzYear sec) s.r2 s.o2) (tzYsec sec) (ystF (tzYear sec)) _ (seFo_eq s last sec h h0 h1)
  rw [y1] at this
  exact this.symm
theorem seasF_bd (n1 : Bs) (o1 : Int) (d1 : Bool) (n2 : Bs) (o2 : Int) (d2 : Bool) (a b ys yst : Int) (ha : -1000000 ≤ a ∧ a ≤ 40000000) (hb : -1000000 ≤ b ∧ b ≤ 40000000) (hy : 0 ≤ yst ∧ yst ≤ 253402300799) (h0 : 0 ≤ ys) (h1 : ys < 31536000) :
    (seasF n1 o1 d1 n2 o2 d2 a b ys yst).st ≤ yst + ys ∧ yst + ys < (seasF n1 o1 d1 n2 o2 d2 a b ys yst).en := by
  unfold seasF
  by_cases h2 : ys < a
  · rw [if_pos h2]
    simp only []
    rw [IntWalk.wrap64_in _ (by omega)]
    omega
  · rw [if_neg h2]
    by_cases h3 : b ≤ ys
    · rw [if_pos h3]
      simp only []
      rw [IntWalk.wrap64_in _ (by omega), IntWalk.wrap64_in _ (by omega)]
      omega
    · rw [if_neg h3]
      simp only []
      rw [IntWalk.wrap64_in _ (by omega), IntWalk.wrap64_in _ (by omega)]
      omega
theorem bounds_law (s : Se) (last sec : Int) (h : seOk s = true) (h0 : 0 ≤ sec) (h1 : sec ≤ 253402300799) (h2 : sec - ystF (tzYear sec) < 31536000) : (seFo s last sec).st ≤ sec ∧ sec < (seFo s last sec).en := by
  obtain ⟨_, _, ⟨a0, a1⟩, ⟨b0, b1⟩, hr1, hr2⟩ := seOk_all s h
  obtain ⟨y1, y2, _⟩ := year_law sec h0 h1
  have hy := ystF_bd sec h0 h1
  have ha := specRT_bd (tzYear sec) s.r1 s.o1 hr1 a0 a1
  have hb := specRT_bd (tzYear sec) s.r2 s.o2 hr2 b0 b1
  rw [seFo_eq s last sec h h0 h1]
  split
  · have := seasF_bd s.n2 s.o2 true s.n1 s.o1 false _ _ (tzYsec sec) (ystF (tzYear sec)) hb ha hy y2 (by omega)
    rw [y1] at this
    exact this
  · have := seasF_bd s.n1 s.o1 false s.n2 s.o2 true _ _ (tzYsec sec) (ystF (tzYear sec)) ha hb hy y2 (by omega)
    rw [y1] at this
    exact this
theorem At_fo (s : Se) (last sec : Int) (h : seOk s = true) (h0 : 0 ≤ sec) (h1 : sec ≤ 253402300799) : Ret 12 #[seA s, .int .i64 sec] (zonV (seFo s last sec).nm (seFo s last sec).off (seFo s last sec).dst) := by
  have := At_ret s sec h h0 h1
  rw [at_law s last sec h h0 h1] at this
  exact this
theorem txtF_len (n1 : Bs) (o1 : Int) (n2 : Bs) (o2 : Int) (r1 r2 : Ru) (whole : Bool) (h1 : n1.length ≤ 100) (h2 : n2.length ≤ 100) : (txtF n1 o1 n2 o2 r1 r2 whole).length ≤ 1000 := by
  have a1 := nameT_len n1
  have a2 := nameT_len n2
  have a3 := clkT_len (-o1) whole
  have a4 := clkT_len (-o2) whole
  have a5 := ruT_len r1 whole
  have a6 := ruT_len r2 whole
  unfold txtF
  simp only [List.length_append, List.length_cons]
  omega
theorem Tz_text (s : Se) (whole : Bool) (last sec : Int) (h : seOk s = true) : Ret 8 #[.string (S (txtF s.n1 s.o1 s.n2 s.o2 s.r1 s.r2 whole)), .int .i64 last, .int .i64 sec] (.tuple #[foA (seFo s last sec), .bool true]) := by
  obtain ⟨hn1, hn2, ⟨a0, a1⟩, ⟨b0, b1⟩, hr1, hr2⟩ := seOk_all s h
  have hl := txtF_len s.n1 s.o1 s.n2 s.o2 s.r1 s.r2 whole (brackB_len _ hn1).2 (brackB_len _ hn2).2
  have := implTzset_ret (txtF s.n1 s.o1 s.n2 s.o2 s.r1 s.r2 whole) (by omega) last sec
  rw [tzA_text s.n1 s.o1 s.n2 s.o2 s.r1 s.r2 whole hn1 hn2 a0 a1 b0 b1 hr1 hr2] at this
  exact this

end Go.Proofs.Ytcjibjggaleclaa
