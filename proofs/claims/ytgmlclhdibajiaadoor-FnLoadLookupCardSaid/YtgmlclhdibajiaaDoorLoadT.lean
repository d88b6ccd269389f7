/- The loader of zone files: what it reads (words and plain laws). -/
import Derived.Test.YtgmlclhdibajiaaDoorFilP
import Derived.Test.YtgmlclhdibajiaaDoorByt2
import Derived.Test.YtgmlclhdibajiaaDoorLoc
import Derived.Laws.MakeOwn
namespace Go.Proofs.YtgmlclhdibajiaaDoor
open Go.RowKit

/-- the variable that holds the error -/
def ErrAt (w : World) (g : Nat) (A : Addr) : Prop := w.cell? ⟨g, 0, none⟩ = some (.iface 130 (.pointer (some A)))
theorem byAt4_split (n : Int) : byB n 4 = [byAt n 3, byAt n 2, byAt n 1, byAt n 0] := rfl
theorem big4_by (n : Int) (b : List UInt8) (err : Bool) (g B : Nat) (w : World) (h : Dio w g B (byB n 4 ++ b) err) (hl : b.length ≤ 4611686018427387000) :
    Calls Tryd.prog 28 #[.pointer (some ⟨g, 0, none⟩)] w fun e w' => e = .returned (.tuple #[.int .u32 (n % 4294967296), .bool true]) ∧ Dio w' g B b err ∧ w.grownBy w' (some g) := by
  have := big4_ok (byAt n 3) (byAt n 2) (byAt n 1) (byAt n 0) b err g B w h (by simp; omega)
  rw [beNat_by4] at this
  exact this
theorem big8_by (n : Int) (b : List UInt8) (err : Bool) (g B : Nat) (w : World) (h : Dio w g B (byB n 8 ++ b) err) (hl : b.length ≤ 4611686018427387000) :
    Calls Tryd.prog 32 #[.pointer (some ⟨g, 0, none⟩)] w fun e w' => e = .returned (.tuple #[.int .u64 (n % 18446744073709551616), .bool true]) ∧ Dio w' g B b err ∧ w.grownBy w' (some g) := by
  have := big8_ok (byAt n 7) (byAt n 6) (byAt n 5) (byAt n 4) (byAt n 3) (byAt n 2) (byAt n 1) (byAt n 0) b err g B w h (by simp; omega)
  rw [beNat_by8] at this
  exact this

theorem Dio.alloc {w : World} {g B : Nat} {l : List UInt8} {err : Bool} (h : Dio w g B l err) (o : Obj) : Dio (w.alloc o) g B l err := by
  obtain ⟨A, c, HB, HR, hc, hBg⟩ := h
  exact ⟨A, c, HB.alloc o, HR.keep (fun q hq => ((Below.refl w.heap.size w).alloc (Nat.le_refl _) o).cell (Nat.lt_of_lt_of_le hq (Nat.le_trans hBg (Nat.le_of_lt HB.lt)))), hc, hBg⟩
theorem Dio.other {w : World} {g B : Nat} {l : List UInt8} {err : Bool} (h : Dio w g B l err) (q : Addr) (hne : g ≠ q.block) (hq : B ≤ q.block) (u : Value) : Dio (w.setCell q u) g B l err := by
  obtain ⟨A, c, HB, HR, hc, hBg⟩ := h
  exact ⟨A, c, HB.far hne u, HR.keep (fun x hx => World.cell?_of_block (Below.heap_setCell w q u x.block (by omega))), hc, hBg⟩
theorem Dio.grown {w w' : World} {g g' B : Nat} {l : List UInt8} {err : Bool} (h : Dio w g B l err) (hg : w.grownBy w' (some g')) (hne : g ≠ g') (hB : B ≤ g') : Dio w' g B l err := by
  obtain ⟨A, c, HB, HR, hc, hBg⟩ := h
  exact ⟨A, c, HB.grown hg (by intro e; injection e with e; exact hne e), HR.grown hg hB (Nat.le_trans hBg (Nat.le_of_lt HB.lt)), hc, hBg⟩
theorem grown_below {w W W' : World} {g : Nat} (h : Below w.heap.size w W) (hg : W.grownBy W' (some g)) (hw : w.heap.size ≤ g) : Below w.heap.size w W' := h.grown hg h.size (fun j hj => by injection hj with hj; omega)
theorem rb_back {w W : World} {A : Option Addr} {l : List UInt8} (hb : Below w.heap.size w W) (h : Rb W w.heap.size A l) : Rb w w.heap.size A l := h.keep fun _ hp => (hb.cell hp).symm
theorem rb_on {w W : World} {A : Option Addr} {l : List UInt8} (hb : Below w.heap.size w W) (h : Rb w w.heap.size A l) : Rb W w.heap.size A l := h.keep fun _ hp => hb.cell hp
/-- the loader's state: the reader, the six counts, old memory -/
def LdS (w : World) (gn : Nat) (cs : Array Value) (l : Bs) (err : Bool) (W : World) : Prop := Dio W w.heap.size w.heap.size l err ∧ Blk W gn 61 cs ∧ Below w.heap.size w W ∧ w.heap.size < gn
theorem LdS.alloc {w W : World} {gn : Nat} {cs : Array Value} {l : Bs} {err : Bool} (h : LdS w gn cs l err W) (o : Obj) : LdS w gn cs l err (W.alloc o) := ⟨h.1.alloc o, h.2.1.alloc o, h.2.2.1.alloc h.2.2.1.size o, h.2.2.2⟩
theorem LdS.grown {w W W' : World} {gn : Nat} {cs : Array Value} {l l' : Bs} {err err' : Bool} (h : LdS w gn cs l err W) (hg : W.grownBy W' (some w.heap.size)) (hd : Dio W' w.heap.size w.heap.size l' err') : LdS w gn cs l' err' W' :=
  ⟨hd, h.2.1.grown hg (by intro e; injection e with e; have := h.2.2.2; omega), grown_below h.2.2.1 hg (Nat.le_refl _), h.2.2.2⟩
theorem read_S {w W : World} {gn : Nat} {cs : Array Value} (a b l : Bs) (hl : l = a ++ b) (h : LdS w gn cs l false W) (hlen : l.length ≤ 4611686018427387904) (n : Int) (hn : n = (a.length : Int)) :
    Calls Tryd.prog 27 #[.pointer (some ⟨w.heap.size, 0, none⟩), .int .i64 n] W fun e W' => ∃ (A : Option Addr) (c : Nat), e = .returned (.slice A a.length c) ∧ Rb w w.heap.size A a ∧ a.length ≤ c ∧ LdS w gn cs b false W' ∧ W.grownBy W' (some w.heap.size) := by
  subst hl
  refine (read_ok a b false w.heap.size w.heap.size W h.1 hlen n hn).mono ?_
  rintro e W' ⟨⟨v, rfl, A, c, rfl, hr, hc⟩, hd, hg⟩
  have h2 := h.grown hg hd
  exact ⟨A, c, rfl, rb_back h2.2.2.1 hr, hc, h2, hg⟩
/-- a reader of its own, made of a slice -/
theorem Dio.mk' {w W : World} {A : Option Addr} {c : Nat} {l : Bs} (hb : Below w.heap.size w W) (h : Rb w w.heap.size A l) (hc : l.length ≤ c) : Dio (W.alloc (.cells #[.slice A l.length c, .bool false] 59)) W.heap.size w.heap.size l false :=
  ⟨A, c, Blk.new W _ _ _ rfl, rb_on (hb.alloc hb.size _) h, hc, hb.size⟩
theorem flat_set {α : Type} (f : α → List Value) (c : Nat) (hf : ∀ a, (f a).length = c) (j : Nat) (hj : j < c) (u : Value) (a' : α) : ∀ (l : List α) (k : Nat) (a : α), l[k]? = some a → f a' = (f a).set j u → (l.flatMap f).set (k * c + j) u = (l.set k a').flatMap f := by
  intro l
  induction l with
  | nil => intro k a h; simp at h
  | cons x l ih =>
    intro k a h ha
    cases k with
    | zero =>
      simp at h
      subst h
      simp only [List.set_cons_zero, List.flatMap_cons, Nat.zero_mul, Nat.zero_add]
      rw [List.set_append_left _ _ (by rw [hf]; exact hj), ← ha]
    | succ k =>
      simp at h
      simp only [List.set_cons_succ, List.flatMap_cons]
      rw [List.set_append_right _ _ (by rw [hf, Nat.add_mul]; omega), hf]
      have e : (k + 1) * c + j - c = k * c + j := by rw [Nat.add_mul]; omega
      rw [e, ih k a h ha]
def noZo : Zo := ⟨[], 0, false⟩
def noTr : Tr := ⟨0, 0⟩
theorem made_eq {α : Type} (f : α → List Value) (c : Nat) (hc : 0 < c) (hf : ∀ a, (f a).length = c) (a : α) (n : Nat) (z : Array Value) (hz : z = (f a).toArray) : madeCells z (n * c) = ((List.replicate n a).flatMap f).toArray := by
  subst hz
  have hl : ((List.replicate n a).flatMap f).length = n * c := by rw [flat_len f c hf]; simp
  apply Array.ext_getElem?
  intro i
  by_cases h1 : i < n * c
  · have hk : i / c < n := Nat.div_lt_of_lt_mul (by rw [Nat.mul_comm]; exact h1)
    have hr : i % c < c := Nat.mod_lt _ hc
    have e : i / c * c + i % c = i := by rw [Nat.mul_comm]; exact Nat.div_add_mod i c
    have h3 := flat_get f c hf (List.replicate n a) (i / c) a (i % c) (by rw [List.getElem?_replicate]; simp [hk]) hr
    rw [e] at h3
    have h6 : (f a)[i % c]? = some ((f a)[i % c]'(by rw [hf]; exact hr)) := List.getElem?_eq_getElem _
    have h7 : ((List.replicate n a).flatMap f).toArray[i]? = (f a)[i % c]? := by rw [List.getElem?_toArray]; exact h3
    rw [h7, h6]
    unfold madeCells
    rw [Array.getElem?_map, Array.getElem?_range, if_pos h1]
    simp [hf, hr]
  · rw [Array.getElem?_eq_none (by rw [size_madeCells]; omega), Array.getElem?_eq_none (by simp [hl]; omega)]
theorem make_zones (w : World) (n : Nat) (hn : n ≤ 200) : (Instr.makeSlice 66 (.int .i64 (n : Int)) (.int .i64 (n : Int))).run Tryd.prog w = .ok (.slice (some ⟨w.heap.size, 0, none⟩) n n) (w.alloc (.cells (zosC (List.replicate n noZo)).toArray 68)) := by
  obtain ⟨i0, hi0, hz0, hz1, hz2⟩ := info_parts info_zone
  rw [run_make (P := Tryd.prog) w 66 68 i0 _ Tryd.underlying66 hi0 hz0 .i64 .i64 (n : Int) (n : Int) (by omega) (by omega) (by rw [hz2]; omega) (by omega), hz1]
  simp only [Int.toNat_natCast]
  rw [show (Value.agg #[.string ⟨#[]⟩, .int .i64 0, .bool false]).cells = (zoC noZo).toArray from rfl, made_eq zoC 3 (by decide) (fun _ => rfl) noZo n _ rfl]
  rfl
theorem make_trans (w : World) (n : Nat) (hn : n ≤ 1000) : (Instr.makeSlice 72 (.int .i64 (n : Int)) (.int .i64 (n : Int))).run Tryd.prog w = .ok (.slice (some ⟨w.heap.size, 0, none⟩) n n) (w.alloc (.cells (ttsC (List.replicate n noTr)).toArray 77)) := by
  obtain ⟨i0, hi0, hz0, hz1, hz2⟩ := info_parts info_zoneTrans
  rw [run_make (P := Tryd.prog) w 72 77 i0 _ Tryd.underlying72 hi0 hz0 .i64 .i64 (n : Int) (n : Int) (by omega) (by omega) (by rw [hz2]; omega) (by omega), hz1]
  simp only [Int.toNat_natCast]
  rw [show (Value.agg #[.int .i64 0, .int .u8 0, .bool false, .bool false]).cells = (ttC noTr).toArray from rfl, made_eq ttC 4 (by decide) (fun _ => rfl) noTr n _ rfl]
  rfl
/-- a row in a block: one field stored -/
theorem Blk.putF {α : Type} {w : World} {g : Nat} {t : TypeId} {l : List α} (f : α → List Value) (c : Nat) (hf : ∀ a, (f a).length = c) (h : Blk w g t (l.flatMap f).toArray) (k j : Nat) (hj : j < c) (a a' : α) (hk : l[k]? = some a) (u : Value) (ha : f a' = (f a).set j u) : Blk (w.setCell ⟨g, k * c + j, none⟩ u) g t ((l.set k a').flatMap f).toArray := by
  have h1 := h.set (k * c + j) u
  rw [← flat_set f c hf j hj u a' l k a hk ha]
  simpa using h1

theorem Blk.fld {α : Type} {w : World} {g : Nat} {t : TypeId} {l : List α} (f : α → List Value) (c : Nat) (hf : ∀ a, (f a).length = c) (h : Blk w g t (l.flatMap f).toArray) (k j : Nat) (hj : j < c) (a : α) (hk : l[k]? = some a) (u : Value) (hu : (f a)[j]? = some u) : w.cell? ⟨g, k * c + j, none⟩ = some u := by
  rw [h.cell, List.getElem?_toArray, flat_get f c hf l k a j hk hj, hu]
theorem part_at {α : Type} (l : List α) (k : Nat) (x : α) (h : k < l.length) : (l.take k ++ List.replicate (l.length - k) x)[k]? = some x := by
  rw [List.getElem?_append_right (by rw [List.length_take]; omega), List.getElem?_replicate, List.length_take, if_pos (by omega)]
theorem part_set {α : Type} (l : List α) (k : Nat) (x y : α) (h : l[k]? = some y) : (l.take k ++ List.replicate (l.length - k) x).set k y = l.take (k + 1) ++ List.replicate (l.length - (k + 1)) x := by
  obtain ⟨hk, rfl⟩ := List.getElem?_eq_some_iff.1 h
  rw [List.set_append_right _ _ (by rw [List.length_take]; omega), List.length_take, Nat.min_eq_left (by omega), Nat.sub_self]
  obtain ⟨m, hm⟩ : ∃ m, l.length - k = m + 1 := ⟨l.length - k - 1, by omega⟩
  rw [hm, List.replicate_succ, List.set_cons_zero, List.take_succ_eq_append_getElem hk, List.append_assoc]
  rw [show l.length - (k + 1) = m by omega]
  rfl
def after (n : Nat) : Code → Option Code
  | .seq (.region k _ _) b => if k = n then some b else after n b
  | .seq _ b => after n b
  | _ => none
/-- the code behind 'size := 4', behind 'nzone := n[NZone]', behind the transitions' make -/
noncomputable def T44 : Code := ((Tryd.f20.body.bind (after 43)).getD .skip)
noncomputable def T60 : Code := ((Tryd.f20.body.bind (after 59)).getD .skip)
noncomputable def T85 : Code := ((Tryd.f20.body.bind (after 84)).getD .skip)
def cnt6 (ts : List Tr) (zs : List Zo) : Array Value := #[.int .i64 0, .int .i64 0, .int .i64 0, .int .i64 (ts.length : Int), .int .i64 (zs.length : Int), .int .i64 ((charsB zs).length : Int)]
/-- old memory, the counts, the transitions' times and the zones' data -/
def St (w : World) (gn gt gk : Nat) (cs : Array Value) (tl kl : Bs) (W : World) : Prop := (Below w.heap.size w W ∧ Blk W gn 61 cs) ∧ (Hid (Dio W gt w.heap.size tl false) ∧ Hid (Dio W gk w.heap.size kl false)) ∧ w.heap.size < gn ∧ gn < gt ∧ gt < gk
/-- behind the zones: the times, the row of zones, the row of transitions -/
def St5 (w : World) (gt gz gx : Nat) (zs : List Zo) (tl : Bs) (xs : List Tr) (W : World) : Prop := (Below w.heap.size w W ∧ Hid (Dio W gt w.heap.size tl false)) ∧ (Blk W gz 68 (zosC zs).toArray ∧ Blk W gx 77 (ttsC xs).toArray) ∧ w.heap.size < gt ∧ gt < gz ∧ gz < gx
/-- what is left behind the data, and the rule that it tells -/
def restOk (rest ext : Bs) : Prop := (rest = [] ∧ ext = []) ∨ rest = [10] ++ (ext ++ [10])
theorem drop_cons' {α : Type} (l : List α) (k : Nat) (a : α) (h : l[k]? = some a) : l.drop k = a :: l.drop (k + 1) := by
  obtain ⟨hk, rfl⟩ := List.getElem?_eq_some_iff.1 h
  exact List.drop_eq_getElem_cons hk
theorem chars_cut (l : List Zo) (k : Nat) (z : Zo) (h : l[k]? = some z) : charsB l = charsB (l.take k) ++ (z.nm ++ 0 :: charsB (l.drop (k + 1))) := by
  conv => lhs; rw [← List.take_append_drop k l, drop_cons' l k z h]
  unfold charsB
  rw [List.flatMap_append, List.flatMap_cons, List.append_assoc]
  rfl
theorem i32_back (x : Int) (h0 : -2147483648 ≤ x) (h1 : x ≤ 2147483647) : IntKind.i32.wrap (x % 4294967296) = x := by
  rw [IntKind.wrap_i32]
  omega
theorem i64_back (x : Int) (h0 : -9223372036854775808 ≤ x) (h1 : x ≤ 9223372036854775807) : IntKind.i64.wrap (x % 18446744073709551616) = x := by
  rw [IntKind.wrap_i64]
  omega
theorem grown_below' {w W W' : World} {B g : Nat} (h : Below B w W) (hg : W.grownBy W' (some g)) (hw : B ≤ g) (hB : B ≤ W.heap.size) : Below B w W' := h.grown hg hB (fun j hj => by injection hj with hj; omega)
theorem off_at (A : Option Addr) (off : Nat) {w : World} {B : Nat} {a b : Bs} (h : Rb w B A (a ++ b)) (ho : a.length = off) : Rb w B (A.map fun x => x.add off) b := by
  subst ho
  exact h.right
theorem kinds_drop (zs : List Zo) (k : Nat) (z : Zo) (h : zs[k]? = some z) (off : Nat) : kindsB (zs.drop k) off = byB z.off 4 ++ ((if z.dst then 1 else 0) :: UInt8.ofNat off :: kindsB (zs.drop (k + 1)) (off + (z.nm.length + 1))) := by
  rw [drop_cons' zs k z h]; rfl
theorem times_drop (size : Nat) (ts : List Tr) (k : Nat) (t : Tr) (h : ts[k]? = some t) : timesB size (ts.drop k) = byB t.at_ size ++ timesB size (ts.drop (k + 1)) := by
  rw [drop_cons' ts k t h]; rfl
theorem dst_back (d : Bool) : ((((if d then 1 else 0 : UInt8).toNat : Nat) : Int) != 0) = d := by cases d <;> rfl
theorem off_back (off : Nat) (h : off ≤ 255) : (UInt8.ofNat off).toNat = off := by rw [UInt8.toNat_ofNat']; exact Nat.mod_eq_of_lt (by omega)
theorem rd_blk {W : World} {g : Nat} {t : TypeId} {xs : List Value} (h : Blk W g t xs.toArray) (n : Nat) : Rd W W.heap.size (some ⟨g, 0, none⟩) n xs := fun _ => ⟨_, rfl, h.lt, fun j u hu => by
  rw [addr_add_plain, Nat.zero_add, h.cell, List.getElem?_toArray]; exact hu⟩
/-- the box of a place is made -/
theorem loc_mk (nm ext : Bs) (zs : List Zo) (ts : List Tr) (gz : Nat) (A2 : Option Addr) (c2 : Nat) {w W : World} (hb : Below w.heap.size w W) (HZ : Blk W gz 68 (zosC zs).toArray) (HR : Rd W W.heap.size A2 ts.length (ttsC ts)) (hby : ∀ t ∈ ts, t.ix < 256) :
    Loc (W.alloc (.cells (locC nm ext (.slice (some ⟨gz, 0, none⟩) zs.length zs.length) (.slice A2 ts.length c2)) 80)) W.heap.size ⟨nm, zs, ts, ext⟩ ⟨some ⟨gz, 0, none⟩, zs.length, A2, c2⟩ ∧ Below w.heap.size w (W.alloc (.cells (locC nm ext (.slice (some ⟨gz, 0, none⟩) zs.length zs.length) (.slice A2 ts.length c2)) 80)) :=
  ⟨⟨Blk.new W _ _ _ rfl, (rd_blk HZ zs.length).at_ ((Below.refl _ _).alloc (Nat.le_refl _) _), HR.at_ ((Below.refl _ _).alloc (Nat.le_refl _) _), hby⟩, hb.alloc hb.size _⟩
theorem rd_pre {W : World} {g : Nat} {t : TypeId} {xs : List Value} {ys : Array Value} (h : Blk W g t (xs.toArray ++ ys)) (n : Nat) : Rd W W.heap.size (some ⟨g, 0, none⟩) n xs := fun _ => ⟨_, rfl, h.lt, fun j u hu => by
  have hj : j < xs.toArray.size := by have := (List.getElem?_eq_some_iff.1 hu).1; simpa using this
  rw [addr_add_plain, Nat.zero_add, h.cell, Array.getElem?_append_left hj, List.getElem?_toArray]; exact hu⟩
theorem Loc.drew {W : World} {g : Nat} {p : Pl} {a : Ad} (h : Loc W g p a) : Loc W.drew g p a := ⟨h.1, h.2.1, h.2.2.1, h.2.2.2⟩
theorem loc_none (nm ext : Bs) (zs : List Zo) (gz : Nat) {w wr : World} (hb : Below w.heap.size w wr) (HZ : Blk wr gz 68 (zosC zs).toArray) (A : Obj) (c : Nat) (ys : Array Value) :
    Loc (((wr.alloc A).alloc (.cells (#[.int .i64 (-9223372036854775808), .int .u8 0, .bool false, .bool false] ++ ys) 77)).alloc (.cells #[.bool false, .string (S nm), .slice (some ⟨gz, 0, none⟩) zs.length zs.length, .slice (some ⟨wr.heap.size + 1, 0, none⟩) 1 c, .string (S ext), .int .i64 0, .int .i64 0, .pointer none] 80)).drew (wr.heap.size + 1 + 1) ⟨nm, zs, [⟨-9223372036854775808, 0⟩], ext⟩ ⟨some ⟨gz, 0, none⟩, zs.length, some ⟨wr.heap.size + 1, 0, none⟩, c⟩ ∧
    Below w.heap.size w (((wr.alloc A).alloc (.cells (#[.int .i64 (-9223372036854775808), .int .u8 0, .bool false, .bool false] ++ ys) 77)).alloc (.cells #[.bool false, .string (S nm), .slice (some ⟨gz, 0, none⟩) zs.length zs.length, .slice (some ⟨wr.heap.size + 1, 0, none⟩) 1 c, .string (S ext), .int .i64 0, .int .i64 0, .pointer none] 80)).drew := by
  have hB : Blk ((wr.alloc A).alloc (.cells (#[.int .i64 (-9223372036854775808), .int .u8 0, .bool false, .bool false] ++ ys) 77)) (wr.heap.size + 1) 77 ((ttsC [⟨-9223372036854775808, 0⟩]).toArray ++ ys) := Blk.new (wr.alloc A) _ _ _ (by simp)
  have hs : ((wr.alloc A).alloc (.cells (#[.int .i64 (-9223372036854775808), .int .u8 0, .bool false, .bool false] ++ ys) 77)).heap.size = wr.heap.size + 1 + 1 := by simp
  obtain ⟨l1, l2⟩ := loc_mk nm ext zs [⟨-9223372036854775808, 0⟩] gz (some ⟨wr.heap.size + 1, 0, none⟩) c ((hb.alloc hb.size A).alloc (by have := hb.size; simp; omega) _) ((HZ.alloc A).alloc _) (rd_pre hB _) (by simp)
  rw [hs] at l1
  exact ⟨l1.drew, l2.drew⟩
theorem own_mt {W : World} {g : Nat} {t : TypeId} {size : Nat} (h : Blk W g t #[]) : W.ownsRow g t size (.slice (some ⟨g, 0, none⟩) 0 0) 0 [] :=
  ⟨by simp, .inr ⟨g, 0, #[], rfl, Nat.le_refl _, h, Nat.le_refl _, by simp [maxLen], by simp, by simp⟩⟩
theorem mix_set {α : Type} (base ns : List α) (hb : base.length = ns.length) (j : Nat) (n : α) (h : ns[j]? = some n) : (ns.take j ++ base.drop j).set j n = ns.take (j + 1) ++ base.drop (j + 1) := by
  obtain ⟨hk, rfl⟩ := List.getElem?_eq_some_iff.1 h
  rw [List.set_append_right _ _ (by rw [List.length_take]; omega), List.length_take, Nat.min_eq_left (by omega), Nat.sub_self]
  rw [List.drop_eq_getElem_cons (show j < base.length by omega), List.set_cons_zero, List.take_succ_eq_append_getElem hk, List.append_assoc]
  rfl
/-- the six counts, as far as they are read, over those that were there -/
def nC (base ns : List Int) (j : Nat) : Array Value := ((ns.take j ++ base.drop j).map (Value.int .i64)).toArray
theorem nC_set (base ns : List Int) (hb : base.length = 6) (hn : ns.length = 6) (j : Nat) (n : Int) (h : ns[j]? = some n) : (nC base ns j).setIfInBounds j (.int .i64 n) = nC base ns (j + 1) := by
  unfold nC
  rw [List.setIfInBounds_toArray, ← List.map_set, mix_set base ns (by omega) j n h]
theorem nC_at (base ns : List Int) (hb : base.length = 6) (hn : ns.length = 6) (j : Nat) (h : j < 6) : ∃ b, (nC base ns j)[j]? = some (.int .i64 b) := by
  refine ⟨base[j]'(by omega), ?_⟩
  unfold nC
  rw [List.getElem?_toArray, List.getElem?_map, List.getElem?_append_right (by rw [List.length_take]; omega), List.length_take, Nat.min_eq_left (by omega), Nat.sub_self, List.getElem?_drop, Nat.add_zero, List.getElem?_eq_getElem (by omega)]
  rfl
theorem counts_drop (ns : List Int) (j : Nat) (n : Int) (h : ns[j]? = some n) : countsB (ns.drop j) = byB n 4 ++ countsB (ns.drop (j + 1)) := by
  obtain ⟨hk, rfl⟩ := List.getElem?_eq_some_iff.1 h
  rw [List.drop_eq_getElem_cons hk]
  rfl
theorem counts_len (ns : List Int) : (countsB ns).length = ns.length * 4 := by unfold countsB; rw [flatLen _ 4 (fun n => byB_len n 4)]
theorem cntL_in (nt nz nc : Nat) (h1 : nt ≤ 1000) (h2 : nz ≤ 200) (h3 : nc ≤ 255) (j : Nat) (n : Int) (h : (cntL nt nz nc)[j]? = some n) : 0 ≤ n ∧ n ≤ 1000 := by
  match j, h with
  | 0, h => injection h with h; omega
  | 1, h => injection h with h; omega
  | 2, h => injection h with h; omega
  | 3, h => injection h with h; omega
  | 4, h => injection h with h; omega
  | 5, h => injection h with h; omega
theorem Dio.new (w : World) (A : Option Addr) (c : Nat) (l : List UInt8) (h : Rb w w.heap.size A l) (hc : l.length ≤ c) : Dio (w.alloc (.cells #[.slice A l.length c, .bool false] 59)) w.heap.size w.heap.size l false :=
  ⟨A, c, Blk.new w _ _ _ rfl, h.below ((Below.refl _ _).alloc (Nat.le_refl _) _) (Nat.le_refl _), hc, Nat.le_refl _⟩
end Go.Proofs.YtgmlclhdibajiaaDoor
