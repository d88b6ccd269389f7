/- The reader of a zone file: big8; the search for a byte; a string up to a zero byte. -/
import Derived.Test.YtgmlclhdibajiaaDoorByt
import Derived.Lib.SlBytesConst
namespace Go.Proofs.YtgmlclhdibajiaaDoor
open Go.RowKit

theorem be4_lt (a b c d : UInt8) : Lib.beNat [a, b, c, d] < 4294967296 := by
  have h0 : a.toNat < 256 := a.toNat_lt
  have h1 : b.toNat < 256 := b.toNat_lt
  have h2 : c.toNat < 256 := c.toNat_lt
  have h3 : d.toNat < 256 := d.toNat_lt
  simp only [Lib.beNat, Lib.beFrom]
  omega
theorem big8_num (x y : Nat) (hx : x < 4294967296) (hy : y < 4294967296) : bits .or .u64 ((x : Int) * 4294967296) (y : Int) = (x : Int) * 4294967296 + (y : Int) := by
  have hc : bits .or .u64 ((x : Int) * 4294967296) (y : Int) = bits .or .u64 (y : Int) ((x : Int) * 4294967296) := by simp only [bits, BitVec.or_comm]
  have h := u64_or32 (y : Int) ((x : Int) * 4294967296) (by omega) (by omega) (by omega) (by omega) (by omega)
  rw [hc, h]
  omega
set_option maxRecDepth 100000 in
set_option maxHeartbeats 4000000 in
theorem big8_ok (b0 b1 b2 b3 d0 d1 d2 d3 : UInt8) (b : List UInt8) (err : Bool) (g B : Nat) (w : World) (h : Dio w g B (b0 :: b1 :: b2 :: b3 :: d0 :: d1 :: d2 :: d3 :: b) err) (hl : (b0 :: b1 :: b2 :: b3 :: d0 :: d1 :: d2 :: d3 :: b).length ≤ 4611686018427387904) :
    Calls Tryd.prog 32 #[.pointer (some ⟨g, 0, none⟩)] w fun e w' => e = .returned (.tuple #[.int .u64 ((Lib.beNat [b0, b1, b2, b3] : Int) * 4294967296 + (Lib.beNat [d0, d1, d2, d3] : Int)), .bool true]) ∧ Dio w' g B b err ∧ w.grownBy w' (some g) := by
  have HC := Lib.hid (big4_ok b0 b1 b2 b3 (d0 :: d1 :: d2 :: d3 :: b) err g B w h hl)
  have HC2 := Lib.hid (fun (W : World) (h : Dio W g B (d0 :: d1 :: d2 :: d3 :: b) err) => big4_ok d0 d1 d2 d3 b err g B W h (by simp at hl ⊢; omega))
  have hx := be4_lt b0 b1 b2 b3
  have hy := be4_lt d0 d1 d2 d3
  generalize Lib.beNat [b0, b1, b2, b3] = x at *
  generalize Lib.beNat [d0, d1, d2, d3] = y at *
  clear h hl
  go_enter Tryd.func32, Tryd.ntmps32
  go_wp2_with fail
  refine HC.out.mono ?_
  rintro e w1 ⟨rfl, hd, hg⟩
  have HG := Lib.hid hg
  have HD := Lib.hid hd
  clear hd hg
  go_wp2_with fail
  refine (HC2.out _ HD.out).mono ?_
  rintro e w2 ⟨rfl, hd2, hg2⟩
  have HG2 := Lib.hid hg2
  have HD2 := Lib.hid hd2
  clear hd2 hg2
  go_wp2_with fail
  go_ret2
  refine ⟨?_, HD2.out, HG.out.trans HG2.out⟩
  rw [big8_num x y hx hy]
  rfl

/-- the place of the first byte of a kind -/
def idxB (c : UInt8) : List UInt8 → Option Nat
  | [] => none
  | b :: l => if b = c then some 0 else (idxB c l).map (· + 1)
def idxV (x : Option Nat) : Int := match x with
  | some k => (k : Int)
  | none => -1
set_option maxRecDepth 100000 in
theorem indexByte_ret (l pre : List UInt8) (c : UInt8) (l2 : List UInt8) (hl : l = pre ++ c :: l2) (hp : ∀ b ∈ pre, b ≠ c) (hlen : l.length ≤ 4611686018427387904) (B : Nat) (w : World) (v : Value) (hv : Slb w B v l) :
    Calls Tryd.prog 37 #[v, .int .u8 (c.toNat : Int)] w fun e w' => e = .returned (.int .i64 (pre.length : Int)) ∧ w = w' := by
  obtain ⟨A, cap, rfl, hr, hcap⟩ := hv
  have HR := Lib.hid hr
  have HL := Lib.hid hl
  have HP := Lib.hid hp
  have hle : l.length = pre.length + 1 + l2.length := by rw [hl]; simp; omega
  have hlt0 : pre.length < l.length := by omega
  clear hr hl hp hle
  generalize l.length = n at *
  go_enter Tryd.func37, Tryd.ntmps37
  go_wp2_with fail
  go_loop [9] (fun i => ∃ k : Nat, k ≤ pre.length ∧ i = .int .i64 k) (fun i => n - (intOf i).toNat)
  case atStart => exact ⟨0, Nat.zero_le _, rfl⟩
  case round =>
    obtain ⟨k, hk, rfl⟩ := hrel
    have hkn : k < n := by omega
    by_cases hlt : k < pre.length
    · obtain ⟨b, hb⟩ : ∃ b, pre[k]? = some b := ⟨_, List.getElem?_eq_getElem hlt⟩
      have hbl : l[k]? = some b := by rw [HL.out, List.getElem?_append_left hlt]; exact hb
      obtain ⟨gd, od, rfl, _, hcs⟩ := HR.out.at hbl
      have e0 := hcs k b hbl
      have hne := HP.out b (List.mem_of_getElem? hb)
      have q1 : ((b.toNat : Int) == (c.toNat : Int)) = false := by
        rw [beq_eq_false_iff_ne]
        intro h
        exact hne (UInt8.toNat_inj.1 (by omega))
      have i0 : (0 : Int) ≤ (k : Int) := by omega
      have i1 : (k : Int) < (n : Int) := by omega
      clear hb hbl hne hcs
      go_wp2_with fail
      go_round
      case rel => exact ⟨k + 1, by omega, by go_num⟩
      case measure => simp [intOf]; omega
    · obtain rfl : k = pre.length := by omega
      have hbl : l[pre.length]? = some c := by rw [HL.out]; simp
      obtain ⟨gd, od, rfl, _, hcs⟩ := HR.out.at hbl
      have e0 := hcs _ c hbl
      have i0 : (0 : Int) ≤ (pre.length : Int) := by omega
      have i1 : (pre.length : Int) < (n : Int) := by omega
      clear hbl hcs
      go_wp2_with fail
      go_ret
      exact ⟨rfl, rfl⟩

set_option maxRecDepth 100000 in
theorem byteString_ret (l pre l2 : List UInt8) (hl : l = pre ++ 0 :: l2) (hp : ∀ b ∈ pre, b ≠ 0) (hlen : l.length ≤ 4611686018427387904) (B : Nat) (w : World) (v : Value) (hv : Slb w B v l) :
    Calls Tryd.prog 31 #[v] w fun e w' => e = .returned (.string (S pre)) ∧ w = w' := by
  have HC := Lib.hid (indexByte_ret l pre 0 l2 hl hp hlen B w v hv)
  obtain ⟨A, cap, rfl, hr, hcap⟩ := hv
  have HR := Lib.hid hr
  have HL := Lib.hid hl
  have hle : l.length = pre.length + 1 + l2.length := by rw [hl]; simp; omega
  have HV := fun c => conv_rb (show Rb w B A pre from Rb.left (b := 0 :: l2) (by rw [← hl]; exact hr)) c
  have hq : ((pre.length : Int) != -1) = true := by rw [bne_iff_ne]; omega
  have hle2 : pre.length ≤ cap := by omega
  have i0 : (0 : Int) ≤ (pre.length : Int) := by omega
  have i1 : (pre.length : Int) ≤ (cap : Int) := by omega
  clear hr hl hp hle
  go_enter Tryd.func31, Tryd.ntmps31
  go_wp2_with fail
  refine HC.out.mono ?_
  rintro e w' ⟨rfl, rfl⟩
  go_wp2_with fail
  go_ret
  exact ⟨rfl, rfl⟩

end Go.Proofs.YtgmlclhdibajiaaDoor
