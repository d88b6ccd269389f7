/- The reference's PlaceOk. -/
import Derived.Test.YtgmlclhdibajiaaDoorFits
import Derived.IntWalk
import Derived.Deep.DeepCutAuto
namespace Go.Proofs.YtgmlclhdibajiaaDoor
open Go.RowKit

def inB (n a b : Int) : Bool := decide (a ≤ n) && decide (n ≤ b)
theorem inB_iff (n a b : Int) : inB n a b = true ↔ a ≤ n ∧ n ≤ b := by simp [inB]
theorem Within_ret (n a b : Int) : Ret 26 #[.int .i64 n, .int .i64 a, .int .i64 b] (.bool (inB n a b)) := by
  intro w
  by_cases h1 : a ≤ n
  · by_cases h2 : n ≤ b
    · have HF := Lib.hid (show inB n a b = true by simp [inB, h1, h2])
      go_enter Tryd.func26, Tryd.ntmps26
      go_wp2
      go_ret
      rw [HF.out]
      exact ⟨rfl, Below.refl _ _⟩
    · have HF := Lib.hid (show inB n a b = false by simp [inB, h2])
      go_enter Tryd.func26, Tryd.ntmps26
      go_wp2
      go_ret
      rw [HF.out]
      exact ⟨rfl, Below.refl _ _⟩
  · have HF := Lib.hid (show inB n a b = false by simp [inB, h1])
    go_enter Tryd.func26, Tryd.ntmps26
    go_wp2
    go_ret
    rw [HF.out]
    exact ⟨rfl, Below.refl _ _⟩

def zoffB (z : Zo) : Bool := inB z.off (-2147483647) 2147483647
def stepB (n : Nat) (ts : List Tr) (k : Nat) : Bool := match ts[k]? with
  | none => true
  | some t => decide (t.ix < n) && (decide (k = 0) || match ts[k - 1]? with
    | none => true
    | some u => decide (u.at_ < t.at_))
def plOkB (p : Pl) : Bool := p.zs.all zoffB && (List.range p.ts.length).all (stepB p.zs.length p.ts) && inB (p.zs.length : Int) 1 200 && decide ((p.ts.length : Int) ≤ 1000)
theorem stepB_iff (n : Nat) (ts : List Tr) (k : Nat) (t : Tr) (h : ts[k]? = some t) : stepB n ts k = true ↔ t.ix < n ∧ ∀ u, 0 < k → ts[k - 1]? = some u → u.at_ < t.at_ := by
  unfold stepB
  rw [h]
  simp only [Bool.and_eq_true, Bool.or_eq_true, decide_eq_true_eq]
  constructor
  · rintro ⟨a, b⟩
    refine ⟨a, fun u hk hu => ?_⟩
    rcases b with b | b
    · omega
    · rw [hu] at b; simpa using b
  · rintro ⟨a, b⟩
    refine ⟨a, ?_⟩
    by_cases hk : k = 0
    · exact .inl hk
    · right
      cases hu : ts[k - 1]? with
      | none => rfl
      | some u => simpa using b u (by omega) hu
theorem plOkB_iff (p : Pl) : plOkB p = true ↔ plOk p := by
  unfold plOkB plOk
  simp only [Bool.and_eq_true, List.all_eq_true, List.mem_range, decide_eq_true_eq, inB_iff, zoffB]
  constructor
  · rintro ⟨⟨⟨a, b⟩, c⟩, d⟩
    refine ⟨a, fun k t ht => ?_, ⟨by omega, by omega⟩, by omega⟩
    have hk : k < p.ts.length := (List.getElem?_eq_some_iff.1 ht).1
    exact (stepB_iff _ _ _ _ ht).1 (b k hk)
  · rintro ⟨a, b, c, d⟩
    refine ⟨⟨⟨a, fun k hk => ?_⟩, by omega⟩, by omega⟩
    obtain ⟨t, ht⟩ : ∃ t, p.ts[k]? = some t := ⟨_, List.getElem?_eq_getElem hk⟩
    exact (stepB_iff _ _ _ _ ht).2 (b k t ht)

theorem all_take_step {α : Type} (f : α → Bool) (l : List α) (k : Nat) (a : α) (h : l[k]? = some a) (ha : ∀ x ∈ l.take k, f x = true) (hf : f a = true) : ∀ x ∈ l.take (k + 1), f x = true := by
  obtain ⟨hk, rfl⟩ := List.getElem?_eq_some_iff.1 h
  intro y hy
  rw [List.take_succ_eq_append_getElem hk] at hy
  rcases List.mem_append.1 hy with hy | hy
  · exact ha y hy
  · rw [List.mem_singleton] at hy; rw [hy]; exact hf
theorem not_all {α : Type} (f : α → Bool) (l : List α) (k : Nat) (a : α) (h : l[k]? = some a) (hf : f a = false) : l.all f = false := by
  rw [List.all_eq_false]; exact ⟨a, List.mem_of_getElem? h, by rw [hf]; simp⟩

/-- a place's box, and all that was there before -/
def InP (w : World) (p : Pl) (a : Ad) (W : World) : Prop := Blk W w.heap.size 25 (plC p a) ∧ Below w.heap.size w W
theorem InP.new (w : World) (p : Pl) (a : Ad) : InP w p a (w.alloc (.cells #[.string (S p.nm), .slice a.A1 p.zs.length a.c1, .slice a.A2 p.ts.length a.c2, .string (S p.ext)] 25)) := ⟨Blk.new w _ _ _ rfl, (Below.refl _ _).alloc (Nat.le_refl _) _⟩
theorem InP.below {w W W' : World} {p : Pl} {a : Ad} (h : InP w p a W) (hb : Below W.heap.size W W') : InP w p a W' := ⟨h.1.below hb h.1.lt, h.2.trans (hb.mono h.2.size)⟩
theorem InP.alloc {w W : World} {p : Pl} {a : Ad} (h : InP w p a W) (o : Obj) : InP w p a (W.alloc o) := ⟨h.1.alloc o, h.2.alloc h.2.size o⟩
theorem InP.drewN {w W : World} {p : Pl} {a : Ad} (h : InP w p a W) (n : Nat) : InP w p a (W.drewN n) := ⟨h.1, below_drewN h.2 n⟩
theorem InP.drew {w W : World} {p : Pl} {a : Ad} (h : InP w p a W) : InP w p a W.drew := ⟨h.1, h.2.drew⟩
theorem InP.cells {w W : World} {p : Pl} {a : Ad} (h : InP w p a W) : W.cell? ⟨w.heap.size, 0, none⟩ = some (.string (S p.nm)) ∧ W.cell? ⟨w.heap.size, 1, none⟩ = some (.slice a.A1 p.zs.length a.c1) ∧ W.cell? ⟨w.heap.size, 2, none⟩ = some (.slice a.A2 p.ts.length a.c2) ∧ W.cell? ⟨w.heap.size, 3, none⟩ = some (.string (S p.ext)) :=
  ⟨h.1.cell 0, h.1.cell 1, h.1.cell 2, h.1.cell 3⟩

set_option maxRecDepth 100000 in
set_option maxHeartbeats 8000000 in
theorem PlaceOk_ret (p : Pl) (a : Ad) (w : World) (B : Nat) (hB : B ≤ w.heap.size) (hR : PlIn w B p a) (hz : (p.zs.length : Int) ≤ 4611686018427387904) (ht : (p.ts.length : Int) ≤ 4611686018427387904) :
    Calls Tryd.prog 19 #[plA p a] w fun e w' => e = .returned (.bool (plOkB p)) ∧ Below w.heap.size w w' := by
  obtain ⟨A1, k1, A2, k2⟩ := a
  have HB0 := InP.new w p ⟨A1, k1, A2, k2⟩
  have HR := Lib.hid hR
  clear hR
  obtain ⟨c0, c1, c2, c3⟩ := HB0.cells
  unfold plA
  dsimp only at c1 c2 HB0 ⊢
  go_enter Tryd.func19, Tryd.ntmps19
  go_wp2_with fail
  go_loopw [10] (fun i W => ∃ k : Nat, k ≤ p.zs.length ∧ i = .int .i64 k ∧ InP w p ⟨A1, k1, A2, k2⟩ W ∧ Hid (∀ z ∈ p.zs.take k, zoffB z = true)) (fun i _ => p.zs.length - (intOf i).toNat)
  case atStart => exact ⟨0, Nat.zero_le _, rfl, HB0, by simp [Hid]⟩
  case round =>
    clear c0 c1 c2 c3 HB0
    obtain ⟨k, hk, rfl, HX, HA⟩ := hrel
    obtain ⟨c0, c1, c2, c3⟩ := HX.cells
    dsimp only at c1 c2
    have hsz := HX.2.size
    have hlt0 := HX.1.lt
    by_cases hlt : k < p.zs.length
    · obtain ⟨z, hzk⟩ : ∃ z, p.zs[k]? = some z := ⟨_, List.getElem?_eq_getElem hlt⟩
      obtain ⟨ad, rfl, hadB, e0, e1, e2⟩ := (HR.out.1.below HX.2 hB).zo hzk
      have HZ := Lib.hid hzk
      have HC0 := Within_ret z.off (-2147483647) 2147483647
      clear hzk
      cases hf : zoffB z
      · rw [show inB z.off (-2147483647) 2147483647 = false from hf] at HC0
        have HC := Lib.hid HC0
        have HF := Lib.hid (show plOkB p = false by unfold plOkB; rw [not_all zoffB p.zs k z HZ.out hf]; rfl)
        clear hf HC0 HA
        go_wp2_with fail
        refine (HC.out _).mono ?_
        rintro e w1 ⟨rfl, hb1⟩
        have HY := (HX.alloc _).below hb1
        go_wp2_with fail
        go_ret
        rw [HF.out]
        exact ⟨rfl, HY.2⟩
      · rw [show inB z.off (-2147483647) 2147483647 = true from hf] at HC0
        have HC := Lib.hid HC0
        have HA' := Lib.hid (all_take_step zoffB p.zs k z HZ.out HA.out hf)
        clear hf HC0 HA
        go_wp2_with fail
        refine (HC.out _).mono ?_
        rintro e w1 ⟨rfl, hb1⟩
        have HY := (HX.alloc _).below hb1
        go_wp2_with fail
        go_roundw
        case rel => exact ⟨k + 1, by omega, by go_num, HY, HA'⟩
        case measure => simp [intOf]; omega
    · have HZ1 : Hid (p.zs.all zoffB = true) := by
        show p.zs.all zoffB = true
        have := HA.out
        rw [List.take_of_length_le (by omega)] at this
        exact List.all_eq_true.2 this
      clear HA
      obtain rfl : k = p.zs.length := by omega
      go_wp2_with fail
      go_loopw [22] (fun i W => ∃ k : Nat, k ≤ p.ts.length ∧ i = .int .i64 k ∧ InP w p ⟨A1, k1, A2, k2⟩ W ∧ Hid (∀ j, j < k → stepB p.zs.length p.ts j = true)) (fun i _ => p.ts.length - (intOf i).toNat)
      case atStart => exact ⟨0, Nat.zero_le _, rfl, HX, by intro j hj; omega⟩
      case round =>
        clear c0 c1 c2 c3 HX hsz hlt0 hlt hk
        obtain ⟨k, hk, rfl, HX, HA⟩ := hrel
        obtain ⟨c0, c1, c2, c3⟩ := HX.cells
        dsimp only at c1 c2
        have hsz := HX.2.size
        have hlt0 := HX.1.lt
        by_cases hlt : k < p.ts.length
        · obtain ⟨t, htk⟩ : ∃ t, p.ts[k]? = some t := ⟨_, List.getElem?_eq_getElem hlt⟩
          obtain ⟨ad, rfl, hadB, e0, e1⟩ := (HR.out.2.1.below HX.2 hB).tr htk
          have HT := Lib.hid htk
          have HS := Lib.hid (stepB_iff p.zs.length p.ts k t htk)
          have HNO := Lib.hid (fun (h : stepB p.zs.length p.ts k = false) => (show plOkB p = false by
            unfold plOkB
            have e : (List.range p.ts.length).all (stepB p.zs.length p.ts) = false := by
              rw [List.all_eq_false]; exact ⟨k, List.mem_range.2 hlt, by rw [h]; simp⟩
            rw [e, Bool.and_false]; rfl))
          clear htk
          have hx0 : (0 : Int) ≤ (t.ix : Int) := by omega
          have hx1 : t.ix < 256 := HR.out.2.2 t (List.mem_of_getElem? HT.out)
          have V0 := Lib.hid (show IntKind.i64.wrap (t.ix : Int) = (t.ix : Int) from IntWalk.i64_in _ (by omega))
          by_cases hix : (t.ix : Int) < (p.zs.length : Int)
          · have hge : decide ((p.zs.length : Int) ≤ (t.ix : Int)) = false := by rw [decide_eq_false_iff_not]; omega
            have hge' : decide (p.zs.length ≤ t.ix) = false := by rw [decide_eq_false_iff_not]; omega
            by_cases hpos : (0 : Int) < (k : Int)
            · obtain ⟨u, huk⟩ : ∃ u, p.ts[k - 1]? = some u := ⟨_, List.getElem?_eq_getElem (by omega)⟩
              obtain ⟨ad', had, _, g0, g1⟩ := (HR.out.2.1.below HX.2 hB).tr huk
              injection had with had
              subst had
              have g0' : (wr.alloc (.cells #[.int .i64 t.at_, .int .u8 (t.ix : Int)] 40)).cell? (ad.add ((k - 1) * 2)) = some (.int .i64 u.at_) :=
                (World.cell?_alloc_lt wr _ _ (by rw [add_block]; omega)).trans g0
              have hgt : decide ((0 : Int) < (k : Int)) = true := decide_eq_true hpos
              have hgt' : decide (0 < k) = true := decide_eq_true (by omega)
              have q2 : (0 : Int) ≤ (k : Int) - 1 := by omega
              have q2' : (1 : Int) ≤ (k : Int) := by omega
              have q3 : (k : Int) - 1 < (p.ts.length : Int) := by omega
              have Q1 := Lib.hid (show IntKind.i64.wrap ((k : Int) - 1) = (k : Int) - 1 from IntWalk.i64_in _ (by omega))
              have Q4 := Lib.hid (show ((k : Int) - 1).toNat = k - 1 by omega)
              by_cases hord : u.at_ < t.at_
              · have hle : decide (t.at_ ≤ u.at_) = false := by rw [decide_eq_false_iff_not]; omega
                have HA' : Hid (∀ j, j < k + 1 → stepB p.zs.length p.ts j = true) := by
                  intro j hj
                  rcases Nat.lt_or_ge j k with h | h
                  · exact HA.out j h
                  · obtain rfl : j = k := by omega
                    refine HS.out.2 ⟨by omega, fun v _ hv => ?_⟩
                    rw [huk] at hv; injection hv with hv; rw [← hv]; exact hord
                clear HA HNO HS HT huk
                go_upto_region 10 with fail
                have v0 := V0.out
                have q1 := Q1.out
                have q4 := Q4.out
                go_quiet (fail)
                clear q1 q4 v0
                go_wp2_with fail
                go_roundw
                case rel => exact ⟨k + 1, by omega, by go_num, (HX.alloc _).drewN _, HA'⟩
                case measure => simp [intOf]; omega
              · have hle : decide (t.at_ ≤ u.at_) = true := by rw [decide_eq_true_eq]; omega
                have HF := Lib.hid (HNO.out (by
                  rw [← Bool.not_eq_true]; intro h
                  have := (HS.out.1 h).2 u (by omega) huk
                  omega))
                clear HA HNO HS HT huk
                go_upto_region 10 with fail
                have v0 := V0.out
                have q1 := Q1.out
                have q4 := Q4.out
                go_quiet (fail)
                clear q1 q4 v0
                go_wp2_with fail
                go_ret
                rw [HF.out]
                exact ⟨rfl, ((HX.alloc _).drewN _).2⟩
            · have hgt : decide ((0 : Int) < (k : Int)) = false := decide_eq_false hpos
              have hgt' : decide (0 < k) = false := decide_eq_false (by omega)
              have HA' : Hid (∀ j, j < k + 1 → stepB p.zs.length p.ts j = true) := by
                intro j hj
                obtain rfl : j = k := by omega
                exact HS.out.2 ⟨by omega, fun u h => by omega⟩
              clear HA HNO HS HT
              go_upto_region 10 with fail
              have v0 := V0.out
              go_quiet (fail)
              clear v0
              go_wp2_with fail
              go_roundw
              case rel => exact ⟨k + 1, by omega, by go_num, (HX.alloc _).drewN _, HA'⟩
              case measure => simp [intOf]; omega
          · have hge : decide ((p.zs.length : Int) ≤ (t.ix : Int)) = true := by rw [decide_eq_true_eq]; omega
            have hge' : decide (p.zs.length ≤ t.ix) = true := by rw [decide_eq_true_eq]; omega
            have HF := Lib.hid (HNO.out (by
              rw [← Bool.not_eq_true]; intro h
              have := (HS.out.1 h).1
              omega))
            clear HA HNO HS HT
            go_upto_region 10 with fail
            have v0 := V0.out
            go_quiet (fail)
            clear v0
            go_wp2_with fail
            go_ret
            rw [HF.out]
            exact ⟨rfl, ((HX.alloc _).drewN _).2⟩
        · have HT1 : Hid ((List.range p.ts.length).all (stepB p.zs.length p.ts) = true) := by
            show (List.range p.ts.length).all (stepB p.zs.length p.ts) = true
            rw [List.all_eq_true]
            intro j hj
            exact HA.out j (by have := List.mem_range.1 hj; omega)
          clear HA
          have HC0 := Within_ret (p.zs.length : Int) 1 200
          cases hw : inB (p.zs.length : Int) 1 200
          · rw [hw] at HC0
            have HC := Lib.hid HC0
            have HF := Lib.hid (show plOkB p = false by unfold plOkB; rw [hw, Bool.and_false]; rfl)
            clear hw HC0
            go_wp2_with fail
            refine (HC.out _).mono ?_
            rintro e w1 ⟨rfl, hb1⟩
            have HY := HX.below hb1
            go_wp2_with fail
            go_ret
            rw [HF.out]
            exact ⟨rfl, HY.2⟩
          · rw [hw] at HC0
            have HC := Lib.hid HC0
            by_cases h1000 : (p.ts.length : Int) ≤ 1000
            · have HF := Lib.hid (show plOkB p = true by unfold plOkB; rw [hw, HZ1.out, HT1.out]; simp; omega)
              clear hw HC0
              go_wp2_with fail
              refine (HC.out _).mono ?_
              rintro e w1 ⟨rfl, hb1⟩
              have HY := HX.below hb1
              clear c0 c1 c2 c3
              obtain ⟨c0, c1, c2, c3⟩ := HY.cells
              dsimp only at c1 c2
              go_wp2_with fail
              go_ret
              rw [HF.out]
              exact ⟨rfl, HY.2⟩
            · have HF := Lib.hid (show plOkB p = false by unfold plOkB; rw [hw, HZ1.out, HT1.out]; simp; omega)
              have hd : decide ((p.ts.length : Int) ≤ 1000) = false := decide_eq_false h1000
              have hd' : decide (p.ts.length ≤ 1000) = false := decide_eq_false (by omega)
              clear hw HC0
              go_wp2_with fail
              refine (HC.out _).mono ?_
              rintro e w1 ⟨rfl, hb1⟩
              have HY := HX.below hb1
              clear c0 c1 c2 c3
              obtain ⟨c0, c1, c2, c3⟩ := HY.cells
              dsimp only at c1 c2
              go_wp2_with fail
              go_ret
              rw [HF.out]
              exact ⟨rfl, HY.2⟩

end Go.Proofs.YtgmlclhdibajiaaDoor
