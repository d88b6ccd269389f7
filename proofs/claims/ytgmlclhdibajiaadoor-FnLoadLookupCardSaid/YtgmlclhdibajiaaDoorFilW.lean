/- The reference's Bytes. -/
import Derived.Test.YtgmlclhdibajiaaDoorFilP
import Derived.Test.YtgmlclhdibajiaaDoorByt2
namespace Go.Proofs.YtgmlclhdibajiaaDoor
open Go.RowKit

theorem info_u8 : (Tryd.prog.info? 5).map (fun i => (i.zero, i.size, i.bytes)) = some (some (.int .u8 0), 1, 1) := by kernel_rfl
def bC (l : List UInt8) : List Value := l.map fun b => .int .u8 (b.toNat : Int)
theorem own_rb {w : World} {base : Nat} {e : TypeId} {v : Value} {l : List UInt8} (h : w.ownsRow base e 1 v l.length (bC l)) : ∃ (A : Option Addr) (c : Nat), v = .slice A l.length c ∧ Rb w w.heap.size A l ∧ l.length ≤ c := by
  rcases h.2 with ⟨h1, h2⟩ | ⟨g, cap, cur, h1, h2, h3, h4, _⟩
  · have hl : l = [] := by cases l with
      | nil => rfl
      | cons a l => simp at h2
    subst hl
    exact ⟨none, 0, h1, .inl ⟨rfl, rfl⟩, Nat.le_refl _⟩
  · refine ⟨some ⟨g, 0, none⟩, cap, h1, .inr ⟨g, 0, rfl, (h.lt g (by rw [h1]; rfl)).2, fun j b hb => ?_⟩, h4⟩
    have := h.cells (by rw [h1]; rfl) j (.int .u8 (b.toNat : Int)) (by unfold bC; rw [List.getElem?_map, hb]; rfl)
    rwa [addr_add_plain] at this
theorem new1 (w : World) (H : Nat) (hH : w.heap.size = H) (t : TypeId) (u : Value) : ∀ (j : Nat) (y : Value), [u][j]? = some y → (w.alloc (.cells #[u] t)).cell? ((⟨H, 0, none⟩ : Addr).add j) = some y := by
  subst hH
  exact World.news_of_block (cs := #[u]) (t := t) (fr := (0, 0)) (heap_alloc_new w _)
theorem own_lit (w : World) (e : TypeId) (size base : Nat) (hb : base ≤ w.heap.size) (H : Nat) (hH : w.heap.size = H) : (w.alloc (.cells #[] e)).ownsRow base e size (.slice (some ⟨H, 0, none⟩) 0 0) 0 [] := by
  subst hH
  refine ⟨by simp, .inr ⟨w.heap.size, 0, #[], rfl, hb, heap_alloc_new w _, Nat.le_refl _, by simp [maxLen], by simp, by simp⟩⟩
theorem bC_snoc (l : List UInt8) (j : Nat) (b : UInt8) (h : l[j]? = some b) : bC (l.take (j + 1)) = bC (l.take j) ++ [.int .u8 (b.toNat : Int)] := by
  obtain ⟨hk, rfl⟩ := List.getElem?_eq_some_iff.1 h
  unfold bC
  rw [List.take_succ_eq_append_getElem hk, List.map_append]
  rfl

theorem pow8 (k : Nat) : (2 : Int) ^ (8 * k) = 256 ^ k := by
  rw [Int.pow_mul]; rfl
theorem shr_at (n : Int) (size j : Nat) (hs : size ≤ 8 ∨ n = 0) (hj : j < size) (w : World) : (Op.shift .shr .i64 n .i64 (8 * ((size : Int) - 1 - j))).run Tryd.prog w = .ok (.int .i64 (n / 256 ^ (size - 1 - j))) w := by
  have e : (8 * ((size : Int) - 1 - j)).toNat = 8 * (size - 1 - j) := by omega
  rw [shift_shr_any .i64 .i64 n _ (by omega), e]
  rcases hs with h | h
  · have e2 : min (8 * (size - 1 - j)) IntKind.i64.bits = 8 * (size - 1 - j) := Nat.min_eq_left (by show _ ≤ 64; omega)
    rw [e2, pow8]
    rfl
  · subst h
    rw [Int.zero_ediv, Int.zero_ediv]
    rfl
theorem u8_at (n : Int) (k : Nat) : IntKind.u8.wrap (n / 256 ^ k) = ((byAt n k).toNat : Int) := by
  rw [byAt_nat]
  rfl

set_option maxRecDepth 100000 in
set_option maxHeartbeats 2000000 in
theorem Bytes_ret (n : Int) (size : Nat) (hs : size ≤ 8 ∨ n = 0) (hs2 : size ≤ 15) : Ret 34 #[.int .i64 n, .int .i64 (size : Int)] (.string (S (byB n size))) := by
  intro w
  obtain ⟨i0, hi0, hz0, hz1, hz2⟩ := info_parts info_u8
  have I0 := Lib.hid hi0
  have I1 := Lib.hid hz0
  have I2 := Lib.hid hz1
  have I3 := Lib.hid hz2
  clear hi0 hz0 hz1 hz2
  go_enter Tryd.func34, Tryd.ntmps34
  go_wp2_with fail
  go_loopw [5, 6] (fun v i W => ∃ j : Nat, j ≤ size ∧ i = .int .i64 ((size : Int) - 1 - j) ∧ Below w.heap.size w W ∧ W.ownsRow w.heap.size 5 1 v j (bC ((byB n size).take j))) (fun _ i _ => (intOf i + 1).toNat)
  case atStart => exact ⟨0, Nat.zero_le _, by simp, (Below.refl _ _).alloc (Nat.le_refl _) _, own_lit _ _ _ _ (Nat.le_refl _) _ rfl⟩
  case round =>
    obtain ⟨j, hj, rfl, hb, hown⟩ := hrel
    have hsz := hb.size
    by_cases hlt : j < size
    · have HO := Lib.hid hown
      have HB := Lib.hid (bC_snoc (byB n size) j _ (byB_get n size j hlt))
      have h0 : (0 : Int) ≤ (size : Int) - 1 - j := by omega
      have h0' : (j : Int) ≤ (size : Int) - 1 := by omega
      have HSH := shr_at n size j hs hlt
      have HU := u8_at n (size - 1 - j)
      generalize n / 256 ^ (size - 1 - j) = q at *
      generalize byAt n (size - 1 - j) = x at *
      clear hown hs
      go_wp2_with (at_builtin; refine wpList_append_lies _ rfl (.tmp 14) (.tmp 20) 42 rfl w.heap.size 5 i0 _ 1 1 Tryd.underlying42 I0.out I1.out I2.out I3.out rfl (by decide) _ j (bC ((byB n size).take j)) rfl (HO.out.alloc _) ⟨wr.heap.size, 0, none⟩ 1 1 [.int .u8 (x.toNat : Int)] rfl rfl (new1 _ _ rfl _ _) (by simp [Value.oneCell']) (by decide) (by unfold maxLen; omega) (by omega) (by simp; omega) (wr.heap.size + 1) (by simp) ?_; intro g' cap' w1 hown1 hgrow hat hltg)
      have hb1 : Below w.heap.size w w1 := (hb.alloc hsz _).grown hgrow (by simp; omega) (fun j hj => (HO.out.lt j hj).1)
      have hown2 : w1.ownsRow w.heap.size 5 1 (.slice (some ⟨g', 0, none⟩) (j + 1) cap') (j + 1) (bC ((byB n size).take (j + 1))) := by
        rw [HB.out]; exact hown1
      clear hown1 hgrow hat hb
      go_wp2_with fail
      go_roundw
      case rel => exact ⟨j + 1, by omega, by go_num, hb1, hown2⟩
      case measure => simp [intOf]; omega
    · obtain rfl : j = size := by omega
      have e : (byB n j).take j = byB n j := List.take_of_length_le (by rw [byB_len]; exact Nat.le_refl _)
      rw [e] at hown
      have hl : j = (byB n j).length := (byB_len n j).symm
      obtain ⟨A, c, hv, hr, hc⟩ := own_rb (l := byB n j) (by rw [byB_len]; exact hown)
      subst hv
      have HV := fun c => conv_rb hr c
      clear hown hr
      clear hl
      have hlt1 : decide ((j : Int) ≤ (j : Int) - 1) = false := by rw [decide_eq_false_iff_not]; omega
      go_wp2_with fail
      go_ret
      exact ⟨rfl, hb⟩

end Go.Proofs.YtgmlclhdibajiaaDoor
