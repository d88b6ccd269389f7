/- Slices of bytes; the reader of a zone file: read, rest, big4, byte, big8. -/
import Derived.Test.YtgmlclhdibajiaaDoorWords
import Derived.Deep.AppendLies
import Derived.OwnWalk
import Derived.Maps.AppendAt
import Derived.Lib.Endian
import Derived.Lib.EndianBits
namespace Go.Proofs.YtgmlclhdibajiaaDoor
open Go.RowKit

/-- a slice's cells read as the bytes l, below block B -/
def Rb (w : World) (B : Nat) (A : Option Addr) (l : List UInt8) : Prop :=
  (A = none ∧ l = []) ∨ ∃ g o : Nat, A = some ⟨g, o, none⟩ ∧ g < B ∧ ∀ j b, l[j]? = some b → w.cell? ⟨g, o + j, none⟩ = some (.int .u8 (b.toNat : Int))
theorem Rb.nil (w : World) (B : Nat) : Rb w B none [] := .inl ⟨rfl, rfl⟩
theorem Rb.keep {w w' : World} {B : Nat} {A : Option Addr} {l : List UInt8} (h : Rb w B A l) (hk : ∀ p : Addr, p.block < B → w'.cell? p = w.cell? p) : Rb w' B A l := by
  rcases h with h | ⟨g, o, e, hb, hc⟩
  · exact .inl h
  · exact .inr ⟨g, o, e, hb, fun j u hu => (hk _ hb).trans (hc j u hu)⟩
theorem Rb.below {w w' : World} {B B' : Nat} {A : Option Addr} {l : List UInt8} (h : Rb w B A l) (hb : Below B' w w') (hB : B ≤ B') : Rb w' B A l := h.keep fun _ hp => hb.cell (Nat.lt_of_lt_of_le hp hB)
theorem Rb.grown {w w' : World} {B g : Nat} {A : Option Addr} {l : List UInt8} (h : Rb w B A l) (hg : w.grownBy w' (some g)) (hB : B ≤ g) (hw : B ≤ w.heap.size) : Rb w' B A l :=
  h.keep fun p hp => hg.cell_far p (Nat.lt_of_lt_of_le hp hw) (by intro e; injection e with e; omega)
theorem Rb.left {w : World} {B : Nat} {A : Option Addr} {a b : List UInt8} (h : Rb w B A (a ++ b)) : Rb w B A a := by
  rcases h with ⟨h, h'⟩ | ⟨g, o, e, hb, hc⟩
  · exact .inl ⟨h, (List.append_eq_nil_iff.1 h').1⟩
  · refine .inr ⟨g, o, e, hb, fun j u hu => hc j u ?_⟩
    rw [List.getElem?_append_left (List.getElem?_eq_some_iff.1 hu).1]; exact hu
theorem addr_add_plain (g o n : Nat) : (⟨g, o, none⟩ : Addr).add n = ⟨g, o + n, none⟩ := by unfold Addr.add; split <;> simp_all
theorem Rb.right {w : World} {B : Nat} {A : Option Addr} {a b : List UInt8} (h : Rb w B A (a ++ b)) : Rb w B (A.map (·.add a.length)) b := by
  rcases h with ⟨h, h'⟩ | ⟨g, o, e, hb, hc⟩
  · exact .inl ⟨by rw [h]; rfl, (List.append_eq_nil_iff.1 h').2⟩
  · refine .inr ⟨g, o + a.length, by rw [e]; exact congrArg some (addr_add_plain g o a.length), hb, fun j u hu => ?_⟩
    rw [Nat.add_assoc]
    refine hc _ u ?_
    rw [List.getElem?_append_right (by omega), Nat.add_sub_cancel_left]; exact hu
theorem Rb.at {w : World} {B : Nat} {A : Option Addr} {l : List UInt8} (h : Rb w B A l) {k : Nat} {b : UInt8} (hk : l[k]? = some b) : ∃ g o : Nat, A = some ⟨g, o, none⟩ ∧ g < B ∧ ∀ j b, l[j]? = some b → w.cell? ⟨g, o + j, none⟩ = some (.int .u8 (b.toNat : Int)) := by
  rcases h with ⟨_, rfl⟩ | h
  · simp at hk
  · exact h
/-- bytes to text -/
theorem conv_rb {w : World} {B : Nat} {A : Option Addr} {l : List UInt8} (h : Rb w B A l) (c : Nat) : (convert 42 9 (.slice A l.length c)).run Tryd.prog w = .ok (.string (S l)) w := by
  rcases h with ⟨rfl, rfl⟩ | ⟨g, o, rfl, hb, hc⟩
  · exact run_convert_bytes_nil (P := Tryd.prog) w 42 5 Tryd.underlying42 Tryd.underlying5 _ _ 9 Tryd.underlying9
  · have := run_convert_bytes_arg (P := Tryd.prog) w 42 5 Tryd.underlying42 Tryd.underlying5 g o l.length c (l.map fun b => (b.toNat : Int)) (by simp) (fun i hi => by
      obtain ⟨b, hb⟩ : ∃ b, l[i]? = some b := ⟨_, List.getElem?_eq_getElem hi⟩
      rw [hc i b hb]
      simp [List.getD, hb]) 9 Tryd.underlying9
    rw [this]
    have e : (l.map fun b => (b.toNat : Int)).map (fun n => UInt8.ofNat n.toNat) = l := by
      rw [List.map_map]
      conv => rhs; rw [← List.map_id l]
      exact List.map_congr_left fun b _ => by simp
    unfold strOfNums S
    rw [e]
theorem Rb.empty {w : World} {B : Nat} {A : Option Addr} {l : List UInt8} (h : Rb w B A l) : Rb w B A [] := by
  rcases h with ⟨h, _⟩ | ⟨g, o, e, hb, _⟩
  · exact .inl ⟨h, rfl⟩
  · exact .inr ⟨g, o, e, hb, fun j u hu => by simp at hu⟩
/-- a value that is a slice of the bytes l -/
def Slb (w : World) (B : Nat) (v : Value) (l : List UInt8) : Prop := ∃ (A : Option Addr) (c : Nat), v = .slice A l.length c ∧ Rb w B A l ∧ l.length ≤ c
/-- a reader in block g: the bytes l are left; whether it has run out -/
def Dio (w : World) (g B : Nat) (l : List UInt8) (err : Bool) : Prop := ∃ (A : Option Addr) (c : Nat), Blk w g 59 #[.slice A l.length c, .bool err] ∧ Rb w B A l ∧ l.length ≤ c ∧ B ≤ g
theorem Slb.keep {w w' : World} {B : Nat} {v : Value} {l : List UInt8} (h : Slb w B v l) (hk : ∀ p : Addr, p.block < B → w'.cell? p = w.cell? p) : Slb w' B v l := by
  obtain ⟨A, c, e, hr, hc⟩ := h
  exact ⟨A, c, e, hr.keep hk, hc⟩
theorem Slb.below {w w' : World} {B B' : Nat} {v : Value} {l : List UInt8} (h : Slb w B v l) (hb : Below B' w w') (hB : B ≤ B') : Slb w' B v l := h.keep fun _ hp => hb.cell (Nat.lt_of_lt_of_le hp hB)
theorem Slb.grown {w w' : World} {B g : Nat} {v : Value} {l : List UInt8} (h : Slb w B v l) (hg : w.grownBy w' (some g)) (hB : B ≤ g) (hw : B ≤ w.heap.size) : Slb w' B v l := by
  obtain ⟨A, c, e, hr, hc⟩ := h
  exact ⟨A, c, e, hr.grown hg hB hw, hc⟩
theorem grown_set (w : World) (g i : Nat) (u : Value) : w.grownBy (w.setCell ⟨g, i, none⟩ u) (some g) :=
  ⟨rfl, rfl, rfl, by simp [World.setCell], fun k _ hne => Below.heap_setCell w ⟨g, i, none⟩ u k (fun e => hne (by rw [e]))⟩
theorem Dio.lt {w : World} {g B : Nat} {l : List UInt8} {err : Bool} (h : Dio w g B l err) : g < w.heap.size := by
  obtain ⟨A, c, hb, _⟩ := h; exact hb.lt

set_option maxRecDepth 100000 in
theorem read_ok (a b : List UInt8) (err : Bool) (g B : Nat) (w : World) (h : Dio w g B (a ++ b) err) (hl : (a ++ b).length ≤ 4611686018427387904) (n : Int) (hn : n = (a.length : Int)) :
    Calls Tryd.prog 27 #[.pointer (some ⟨g, 0, none⟩), .int .i64 n] w fun e w' => (∃ v, e = .returned v ∧ Slb w' B v a) ∧ Dio w' g B b err ∧ w.grownBy w' (some g) := by
  subst hn
  obtain ⟨A, c, HB, HR, hc, hBg⟩ := h
  have hgl := HB.lt
  have HRa := HR.left
  have HRb := HR.right
  have hle : (a ++ b).length = a.length + b.length := List.length_append
  rw [hle] at HB hl hc
  have HB' := HB
  have c0 := HB.cell 0
  have c1 := HB.cell 1
  have cf := fun i => HB.frozen i
  simp at c0 c1
  have i0 : (0 : Int) ≤ (a.length : Int) := by omega
  have H1 := Lib.hid HB'
  have H2 := Lib.hid HRa
  have H3 := Lib.hid HRb
  clear HB HB' HRa HRb HR hle
  by_cases hcap : c = a.length
  · obtain rfl := hcap
    have hb0 : b = [] := List.eq_nil_of_length_eq_zero (by omega)
    subst hb0
    go_enter Tryd.func27, Tryd.ntmps27
    go_wp2
    go_ret
    have hg := grown_set w g 0 (.slice A 0 0)
    exact ⟨⟨_, rfl, A, _, rfl, H2.out.grown hg hBg (by omega), Nat.le_refl _⟩, ⟨A, 0, H1.out.set 0 _, H2.out.empty.grown hg hBg (by omega), Nat.le_refl _, hBg⟩, hg⟩
  · go_enter Tryd.func27, Tryd.ntmps27
    go_wp2
    go_ret
    have hg := grown_set w g 0 (.slice (A.map (·.add a.length)) b.length (c - a.length))
    exact ⟨⟨_, rfl, A, _, rfl, H2.out.grown hg hBg (by omega), by omega⟩, ⟨_, c - a.length, H1.out.set 0 _, H3.out.grown hg hBg (by omega), by omega, hBg⟩, hg⟩

theorem Dio.set_err {w : World} {g B : Nat} {l : List UInt8} {err : Bool} (h : Dio w g B l err) : Dio (w.setCell ⟨g, 1, none⟩ (.bool true)) g B l true ∧ w.grownBy (w.setCell ⟨g, 1, none⟩ (.bool true)) (some g) := by
  obtain ⟨A, c, HB, HR, hc, hBg⟩ := h
  have hg := grown_set w g 1 (.bool true)
  have hgl := HB.lt
  exact ⟨⟨A, c, HB.set 1 _, HR.grown hg hBg (by omega), hc, hBg⟩, hg⟩
theorem Dio.cells {w : World} {g B : Nat} {l : List UInt8} {err : Bool} (h : Dio w g B l err) : ∃ (A : Option Addr) (c : Nat), w.cell? ⟨g, 0, none⟩ = some (.slice A l.length c) ∧ w.cell? ⟨g, 1, none⟩ = some (.bool err) ∧ (∀ i, w.frozen? ⟨g, i, none⟩ = false) ∧ Rb w B A l ∧ l.length ≤ c ∧ B ≤ g := by
  obtain ⟨A, c, HB, HR, hc, hBg⟩ := h
  exact ⟨A, c, HB.cell 0, HB.cell 1, fun i => HB.frozen i, HR, hc, hBg⟩
theorem Dio.drewN {w : World} {g B : Nat} {l : List UInt8} {err : Bool} (h : Dio w g B l err) (n : Nat) : Dio (w.drewN n) g B l err := by
  obtain ⟨A, c, HB, HR, hc, hBg⟩ := h
  exact ⟨A, c, HB, HR.keep fun _ _ => rfl, hc, hBg⟩
theorem grown_drewN {a w : World} {row : Option Nat} (h : a.grownBy w row) (n : Nat) : a.grownBy (w.drewN n) row := ⟨h.os, h.tape, h.output, h.size, h.block⟩

set_option maxRecDepth 100000 in
theorem read_short (l : List UInt8) (err : Bool) (g B : Nat) (w : World) (h : Dio w g B l err) (n : Int) (hn : (l.length : Int) < n) :
    Calls Tryd.prog 27 #[.pointer (some ⟨g, 0, none⟩), .int .i64 n] w fun e w' => e = .returned (.slice none 0 0) ∧ Dio w' g B [] true ∧ w.grownBy w' (some g) := by
  obtain ⟨A, c, HB, HR, hc, hBg⟩ := h
  have hgl := HB.lt
  have c0 := HB.cell 0
  have c1 := HB.cell 1
  have cf := fun i => HB.frozen i
  simp at c0 c1
  have H1 := Lib.hid HB
  clear HB HR
  go_enter Tryd.func27, Tryd.ntmps27
  go_wp2
  go_ret
  have hg := (grown_set w g 0 (.slice none 0 0)).trans (grown_set _ g 1 (.bool true))
  exact ⟨rfl, ⟨none, 0, (H1.out.set 0 _).set 1 _, Rb.nil _ _, Nat.le_refl _, hBg⟩, hg⟩

set_option maxRecDepth 100000 in
theorem rest_ret (l : List UInt8) (err : Bool) (g B : Nat) (w : World) (h : Dio w g B l err) :
    Calls Tryd.prog 29 #[.pointer (some ⟨g, 0, none⟩)] w fun e w' => (∃ v, e = .returned v ∧ Slb w' B v l) ∧ Dio w' g B [] err ∧ w.grownBy w' (some g) := by
  obtain ⟨A, c, HB, HR, hc, hBg⟩ := h
  have hgl := HB.lt
  have c0 := HB.cell 0
  have c1 := HB.cell 1
  have cf := fun i => HB.frozen i
  simp at c0 c1
  have H1 := Lib.hid HB
  have H2 := Lib.hid HR
  clear HB HR
  go_enter Tryd.func29, Tryd.ntmps29
  go_wp2
  go_ret
  have hg := grown_set w g 0 (.slice none 0 0)
  exact ⟨⟨_, rfl, A, c, rfl, H2.out.grown hg hBg (by omega), hc⟩, ⟨none, 0, H1.out.set 0 _, Rb.nil _ _, Nat.le_refl _, hBg⟩, hg⟩

set_option maxRecDepth 100000 in
theorem byte_ok (x : UInt8) (b : List UInt8) (err : Bool) (g B : Nat) (w : World) (h : Dio w g B (x :: b) err) (hl : (x :: b).length ≤ 4611686018427387904) :
    Calls Tryd.prog 30 #[.pointer (some ⟨g, 0, none⟩)] w fun e w' => e = .returned (.tuple #[.int .u8 (x.toNat : Int), .bool true]) ∧ Dio w' g B b err ∧ w.grownBy w' (some g) := by
  have HC := Lib.hid (read_ok [x] b err g B w h hl 1 rfl)
  clear h
  go_enter Tryd.func30, Tryd.ntmps30
  go_wp2_with fail
  refine HC.out.mono ?_
  rintro e w1 ⟨⟨v, rfl, A, c, rfl, hr, hc⟩, hd, hg⟩
  obtain ⟨gd, od, rfl, _, hcs⟩ := hr.at (k := 0) (b := x) rfl
  have e0 := hcs 0 x rfl
  rw [Nat.add_zero] at e0
  clear hcs hr
  go_wp2_with fail
  go_ret2
  exact ⟨rfl, hd, hg⟩

set_option maxRecDepth 100000 in
theorem big4_short (l : List UInt8) (err : Bool) (g B : Nat) (w : World) (h : Dio w g B l err) (hl : l.length < 4) :
    Calls Tryd.prog 28 #[.pointer (some ⟨g, 0, none⟩)] w fun e w' => e = .returned (.tuple #[.int .u32 0, .bool false]) ∧ Dio w' g B [] true ∧ w.grownBy w' (some g) := by
  have HC := Lib.hid (read_short l err g B w h 4 (by omega))
  have hgl := h.lt
  clear h
  go_enter Tryd.func28, Tryd.ntmps28
  go_wp2_with fail
  refine HC.out.mono ?_
  rintro e w1 ⟨rfl, hd, hg⟩
  have HS := Lib.hid hd.set_err
  obtain ⟨A, c, c0, c1, cf, _⟩ := hd.cells
  have HG := Lib.hid hg
  clear hd hg
  go_wp2_with fail
  go_ret2
  exact ⟨rfl, HS.out.1, HG.out.trans HS.out.2⟩

set_option maxRecDepth 100000 in
set_option maxHeartbeats 4000000 in
theorem big4_ok (b0 b1 b2 b3 : UInt8) (b : List UInt8) (err : Bool) (g B : Nat) (w : World) (h : Dio w g B (b0 :: b1 :: b2 :: b3 :: b) err) (hl : (b0 :: b1 :: b2 :: b3 :: b).length ≤ 4611686018427387904) :
    Calls Tryd.prog 28 #[.pointer (some ⟨g, 0, none⟩)] w fun e w' => e = .returned (.tuple #[.int .u32 (Lib.beNat [b0, b1, b2, b3] : Int), .bool true]) ∧ Dio w' g B b err ∧ w.grownBy w' (some g) := by
  have HC := Lib.hid (read_ok [b0, b1, b2, b3] b err g B w h hl 4 rfl)
  have HV := Lib.hid (show ((Lib.beNat [b0, b1, b2, b3] : Nat) : Int) = (b3.toNat : Int) + (b2.toNat : Int) * 256 + (b1.toNat : Int) * 65536 + (b0.toNat : Int) * 16777216 by
    simp only [Lib.beNat, Lib.beFrom]
    push_cast
    omega)
  have h0 : b0.toNat < 256 := b0.toNat_lt
  have h1 : b1.toNat < 256 := b1.toNat_lt
  have h2 : b2.toNat < 256 := b2.toNat_lt
  have h3 : b3.toNat < 256 := b3.toNat_lt
  clear h
  go_enter Tryd.func28, Tryd.ntmps28
  go_wp2_with fail
  refine HC.out.mono ?_
  rintro e w1 ⟨⟨v, rfl, A, c, rfl, hr, hc⟩, hd, hg⟩
  obtain ⟨gd, od, rfl, _, hcs⟩ := hr.at (k := 0) (b := b0) rfl
  have e0 := hcs 0 b0 rfl
  have e1 := hcs 1 b1 rfl
  have e2 := hcs 2 b2 rfl
  have e3 := hcs 3 b3 rfl
  rw [Nat.add_zero] at e0
  have HG := Lib.hid hg
  have HD := Lib.hid hd
  clear hg hd hr hcs
  go_wp2_with fail
  go_quiet (fail)
  go_wp2_with fail
  go_ret2
  refine ⟨?_, HD.out.drewN _, grown_drewN HG.out _⟩
  simp (disch := omega) only [u32_or8, u32_or16, u32_or24]
  rw [HV.out]
  rfl

end Go.Proofs.YtgmlclhdibajiaaDoor
