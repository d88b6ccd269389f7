/- tzsetRule returns what the plain function ruleF computes, at every text. -/
import Derived.Test.YtgmlclhdibajiaaDoorOffset
import Derived.Test.YtgmlclhdibajiaaDoorPlainE
import Derived.Deep.Cut
namespace Go.Proofs.YtgmlclhdibajiaaDoor
open Go.RowKit

def ruA (r : Ru) : Value := .agg #[.int .i64 r.kind, .int .i64 r.day, .int .i64 r.week, .int .i64 r.mon, .int .i64 r.time]
def ruV (x : RuR) : Value := .tuple #[ruA x.1, .string (S x.2.1), .bool x.2.2]

theorem bcell {W w1 : World} (hb : Below W.heap.size W w1) : (∀ b o, b < W.heap.size → w1.cell? ⟨b, o, none⟩ = W.cell? ⟨b, o, none⟩) ∧ (∀ b o, b < W.heap.size → w1.frozen? ⟨b, o, none⟩ = W.frozen? ⟨b, o, none⟩) :=
  ⟨fun b o h => hb.cell (p := ⟨b, o, none⟩) h, fun b o h => hb.frozen (p := ⟨b, o, none⟩) h⟩

theorem num_call (r : Bs) (mn mx : Int) (hx : mx ≤ 1000000) (d : Int) (r' : Bs) (ok : Bool) (h : numF r mn mx = (d, r', ok)) : Ret 49 #[.string (S r), .int .i64 mn, .int .i64 mx] (.tuple #[.int .i64 d, .string (S r'), .bool ok]) := by
  have := tzsetNum_ret r mn mx hx
  rw [h] at this
  exact this

theorem slash_cases (c : UInt8) : (c = 47 ∧ ((c.toNat : Int) != 47) = false) ∨ (c ≠ 47 ∧ ((c.toNat : Int) != 47) = true) := by
  rcases byte_cases c 47 with ⟨h, e⟩ | ⟨h, e⟩
  · subst h; exact .inl ⟨rfl, rfl⟩
  · refine .inr ⟨h, ?_⟩
    change ((c.toNat : Int) == 47) = false at e
    rw [bne, e]; rfl
theorem dot_cases (c : UInt8) : (c = 46 ∧ ((c.toNat : Int) != 46) = false) ∨ (c ≠ 46 ∧ ((c.toNat : Int) != 46) = true) := by
  rcases byte_cases c 46 with ⟨h, e⟩ | ⟨h, e⟩
  · subst h; exact .inl ⟨rfl, rfl⟩
  · refine .inr ⟨h, ?_⟩
    change ((c.toNat : Int) == 46) = false at e
    rw [bne, e]; rfl
theorem off_call (r : Bs) (t : Int) (r' : Bs) (ok : Bool) (h : offF r = (t, r', ok)) : Ret 44 #[.string (S r)] (.tuple #[.int .i64 t, .string (S r'), .bool ok]) := by
  have := tzsetOffset_ret r
  rw [h] at this
  exact this

set_option maxHeartbeats 4000000 in
theorem tzsetRule_J (cs : Bs) : Ret 45 #[.string (S (74 :: cs))] (ruV (ruleF (74 :: cs))) := by
  intro w
  have HV := Lib.hid (show ruleF (74 :: cs) = ruJ cs by rw [ruleF, if_pos rfl])
  obtain ⟨d, r', ok, hq1⟩ : ∃ d r' ok, numF cs 1 365 = (d, r', ok) := ⟨_, _, _, rfl⟩
  have HC1 := Lib.hid (num_call cs 1 365 (by omega) d r' ok hq1)
  have HQ1 := Lib.hid hq1
  clear hq1
  have hz : ((cs.length : Int) + 1 == 0) = false := by rw [beq_eq_false_iff_ne]; omega
  go_enter Tryd.func45, Tryd.ntmps45
  go_wp2_with fail
  refine (HC1.out _).mono ?_
  rintro e w1 ⟨rfl, hb⟩
  have B1a : Blk w1 w.heap.size 103 #[.int .i64 0, .int .i64 0, .int .i64 0, .int .i64 0, .int .i64 0] := ((Blk.new w _ _ _ rfl).alloc _).below hb (by simp; omega)
  have B1b : Blk w1 (w.heap.size + 1) 103 #[.int .i64 0, .int .i64 0, .int .i64 0, .int .i64 0, .int .i64 0] := (Blk.new (w.alloc _) _ _ _ (by simp)).below hb (by simp)
  have hb1 : Below w.heap.size w w1 := (((Below.refl _ _).alloc (Nat.le_refl _) _).alloc (by simp) _).trans (hb.mono (by simp; omega))
  obtain ⟨ca0, ca1, ca2, ca3, ca4, fa⟩ := B1a.five
  obtain ⟨cb0, cb1, cb2, cb3, cb4, fb⟩ := B1b.five
  clear hb
  clear HC1
  cases ok with
  | false =>
    have HF := Lib.hid (HV.out.trans (ruJ_no HQ1.out))
    go_wp2_with fail
    refine bodyPost_ret (v := .tuple #[.agg #[.int .i64 0, .int .i64 0, .int .i64 0, .int .i64 0, .int .i64 0], .string ⟨#[]⟩, .bool false]) (by simp only [results, Tryd.results45]; go_simp) rfl ?_
    rw [HF.out]
    exact ⟨rfl, by go_grown⟩
  | true =>
    have HV2 := Lib.hid (HV.out.trans (ruJ_yes HQ1.out))
    clear HV HQ1
    go_upto_region 35 with fail
    clear ca0 ca1 ca2 ca3 ca4 fa cb0 cb1 cb2 cb3 cb4 fb
    have B2a : Blk ((w1.setCell ⟨w.heap.size + 1, 0, none⟩ (.int .i64 0)).setCell ⟨w.heap.size + 1, 1, none⟩ (.int .i64 d)) w.heap.size 103 #[.int .i64 0, .int .i64 0, .int .i64 0, .int .i64 0, .int .i64 0] := ((B1a.far (p := ⟨w.heap.size + 1, 0, none⟩) (by simp) _).far (p := ⟨w.heap.size + 1, 1, none⟩) (by simp) _)
    have B2b : Blk ((w1.setCell ⟨w.heap.size + 1, 0, none⟩ (.int .i64 0)).setCell ⟨w.heap.size + 1, 1, none⟩ (.int .i64 d)) (w.heap.size + 1) 103 #[.int .i64 0, .int .i64 d, .int .i64 0, .int .i64 0, .int .i64 0] := ((B1b.set 0 (.int .i64 0)).set 1 (.int .i64 d))
    have hb2 : Below w.heap.size w ((w1.setCell ⟨w.heap.size + 1, 0, none⟩ (.int .i64 0)).setCell ⟨w.heap.size + 1, 1, none⟩ (.int .i64 d)) := by go_grown
    clear B1a B1b hb1
    generalize ((w1.setCell ⟨w.heap.size + 1, 0, none⟩ (.int .i64 0)).setCell ⟨w.heap.size + 1, 1, none⟩ (.int .i64 d)) = w2 at B2a B2b hb2 ⊢
    obtain ⟨ca0, ca1, ca2, ca3, ca4, fa⟩ := B2a.five
    obtain ⟨cb0, cb1, cb2, cb3, cb4, fb⟩ := B2b.five
    rcases r' with _ | ⟨c0, r0⟩
    · have HF := Lib.hid (HV2.out.trans (ruTail_nil _ _ _ _))
      go_wp2_with fail
      refine bodyPost_ret (v := .tuple #[.agg #[.int .i64 0, .int .i64 d, .int .i64 0, .int .i64 0, .int .i64 7200], .string (S []), .bool true]) (by simp only [results, Tryd.results45]; go_simp) rfl ?_
      rw [HF.out]
      exact ⟨rfl, by go_grown⟩
    · have hz0 : ((r0.length : Int) + 1 == 0) = false := by rw [beq_eq_false_iff_ne]; omega
      rcases slash_cases c0 with ⟨rfl, hd0⟩ | ⟨hd0', hd0⟩
      · obtain ⟨t, rr, okt, hqt⟩ : ∃ t rr okt, offF r0 = (t, rr, okt) := ⟨_, _, _, rfl⟩
        have HT := Lib.hid (off_call r0 t rr okt hqt)
        have HQ := Lib.hid hqt
        clear hqt
        go_wp2_with fail
        clear ca0 ca1 ca2 ca3 ca4 fa cb0 cb1 cb2 cb3 cb4 fb
        refine (HT.out _).mono ?_
        rintro e w3 ⟨rfl, hb⟩
        have hlt1 := B2b.lt
        have B3a : Blk w3 w.heap.size 103 #[.int .i64 0, .int .i64 0, .int .i64 0, .int .i64 0, .int .i64 0] := B2a.below hb (by omega)
        have B3b : Blk w3 (w.heap.size + 1) 103 #[.int .i64 0, .int .i64 d, .int .i64 0, .int .i64 0, .int .i64 0] := B2b.below hb (by omega)
        have hb3 : Below w.heap.size w w3 := by
          refine Below.trans ?_ (hb.mono ?_)
          · go_grown
          · omega
        clear hlt1
        obtain ⟨ca0, ca1, ca2, ca3, ca4, fa⟩ := B3a.five
        obtain ⟨cb0, cb1, cb2, cb3, cb4, fb⟩ := B3b.five
        clear hb
        clear B2a B2b hb2
        clear HT
        cases okt with
        | false =>
          have HF := Lib.hid (HV2.out.trans (ruTail_no _ _ _ _ _ _ _ HQ.out))
          go_wp2_with fail
          refine bodyPost_ret (v := .tuple #[.agg #[.int .i64 0, .int .i64 0, .int .i64 0, .int .i64 0, .int .i64 0], .string ⟨#[]⟩, .bool false]) (by simp only [results, Tryd.results45]; go_simp) rfl ?_
          rw [HF.out]
          exact ⟨rfl, by go_grown⟩
        | true =>
          have HF := Lib.hid (HV2.out.trans (ruTail_yes _ _ _ _ _ _ _ HQ.out))
          go_wp2_with fail
          refine bodyPost_ret (v := .tuple #[.agg #[.int .i64 0, .int .i64 d, .int .i64 0, .int .i64 0, .int .i64 t], .string (S rr), .bool true]) (by simp only [results, Tryd.results45]; go_simp) rfl ?_
          rw [HF.out]
          exact ⟨rfl, by go_grown⟩
      · have HF := Lib.hid (HV2.out.trans (ruTail_end _ _ _ _ _ _ hd0'))
        clear hd0'
        go_wp2_with fail
        refine bodyPost_ret (v := .tuple #[.agg #[.int .i64 0, .int .i64 d, .int .i64 0, .int .i64 0, .int .i64 7200], .string (S (c0 :: r0)), .bool true]) (by simp only [results, Tryd.results45]; go_simp) rfl ?_
        rw [HF.out]
        exact ⟨rfl, by go_grown⟩

set_option maxHeartbeats 4000000 in
theorem tzsetRule_D (c : UInt8) (cs : Bs) (h74 : c ≠ 74) (h77 : c ≠ 77) : Ret 45 #[.string (S (c :: cs))] (ruV (ruleF (c :: cs))) := by
  intro w
  have HV := Lib.hid (show ruleF (c :: cs) = ruD (c :: cs) by rw [ruleF, if_neg h74, if_neg h77])
  obtain ⟨d, r', ok, hq1⟩ : ∃ d r' ok, numF (c :: cs) 0 365 = (d, r', ok) := ⟨_, _, _, rfl⟩
  have HC1 := Lib.hid (num_call (c :: cs) 0 365 (by omega) d r' ok hq1)
  have HQ1 := Lib.hid hq1
  clear hq1
  have e74 : ((c.toNat : Int) == 74) = false := by rcases byte_cases c 74 with ⟨h, _⟩ | ⟨_, e⟩; (exact absurd h h74); exact e
  have e77 : ((c.toNat : Int) == 77) = false := by rcases byte_cases c 77 with ⟨h, _⟩ | ⟨_, e⟩; (exact absurd h h77); exact e
  clear h74 h77
  have hz : ((cs.length : Int) + 1 == 0) = false := by rw [beq_eq_false_iff_ne]; omega
  go_enter Tryd.func45, Tryd.ntmps45
  go_wp2_with fail
  refine (HC1.out _).mono ?_
  rintro e w1 ⟨rfl, hb⟩
  have B1a : Blk w1 w.heap.size 103 #[.int .i64 0, .int .i64 0, .int .i64 0, .int .i64 0, .int .i64 0] := ((Blk.new w _ _ _ rfl).alloc _).below hb (by simp; omega)
  have B1b : Blk w1 (w.heap.size + 1) 103 #[.int .i64 0, .int .i64 0, .int .i64 0, .int .i64 0, .int .i64 0] := (Blk.new (w.alloc _) _ _ _ (by simp)).below hb (by simp)
  have hb1 : Below w.heap.size w w1 := (((Below.refl _ _).alloc (Nat.le_refl _) _).alloc (by simp) _).trans (hb.mono (by simp; omega))
  obtain ⟨ca0, ca1, ca2, ca3, ca4, fa⟩ := B1a.five
  obtain ⟨cb0, cb1, cb2, cb3, cb4, fb⟩ := B1b.five
  clear hb
  clear HC1
  cases ok with
  | false =>
    have HF := Lib.hid (HV.out.trans (ruD_no HQ1.out))
    go_wp2_with fail
    refine bodyPost_ret (v := .tuple #[.agg #[.int .i64 0, .int .i64 0, .int .i64 0, .int .i64 0, .int .i64 0], .string ⟨#[]⟩, .bool false]) (by simp only [results, Tryd.results45]; go_simp) rfl ?_
    rw [HF.out]
    exact ⟨rfl, by go_grown⟩
  | true =>
    have HV2 := Lib.hid (HV.out.trans (ruD_yes HQ1.out))
    clear HV HQ1
    go_upto_region 35 with fail
    clear ca0 ca1 ca2 ca3 ca4 fa cb0 cb1 cb2 cb3 cb4 fb
    have B2a : Blk ((w1.setCell ⟨w.heap.size + 1, 0, none⟩ (.int .i64 1)).setCell ⟨w.heap.size + 1, 1, none⟩ (.int .i64 d)) w.heap.size 103 #[.int .i64 0, .int .i64 0, .int .i64 0, .int .i64 0, .int .i64 0] := ((B1a.far (p := ⟨w.heap.size + 1, 0, none⟩) (by simp) _).far (p := ⟨w.heap.size + 1, 1, none⟩) (by simp) _)
    have B2b : Blk ((w1.setCell ⟨w.heap.size + 1, 0, none⟩ (.int .i64 1)).setCell ⟨w.heap.size + 1, 1, none⟩ (.int .i64 d)) (w.heap.size + 1) 103 #[.int .i64 1, .int .i64 d, .int .i64 0, .int .i64 0, .int .i64 0] := ((B1b.set 0 (.int .i64 1)).set 1 (.int .i64 d))
    have hb2 : Below w.heap.size w ((w1.setCell ⟨w.heap.size + 1, 0, none⟩ (.int .i64 1)).setCell ⟨w.heap.size + 1, 1, none⟩ (.int .i64 d)) := by go_grown
    clear B1a B1b hb1
    generalize ((w1.setCell ⟨w.heap.size + 1, 0, none⟩ (.int .i64 1)).setCell ⟨w.heap.size + 1, 1, none⟩ (.int .i64 d)) = w2 at B2a B2b hb2 ⊢
    obtain ⟨ca0, ca1, ca2, ca3, ca4, fa⟩ := B2a.five
    obtain ⟨cb0, cb1, cb2, cb3, cb4, fb⟩ := B2b.five
    rcases r' with _ | ⟨c0, r0⟩
    · have HF := Lib.hid (HV2.out.trans (ruTail_nil _ _ _ _))
      go_wp2_with fail
      refine bodyPost_ret (v := .tuple #[.agg #[.int .i64 1, .int .i64 d, .int .i64 0, .int .i64 0, .int .i64 7200], .string (S []), .bool true]) (by simp only [results, Tryd.results45]; go_simp) rfl ?_
      rw [HF.out]
      exact ⟨rfl, by go_grown⟩
    · have hz0 : ((r0.length : Int) + 1 == 0) = false := by rw [beq_eq_false_iff_ne]; omega
      rcases slash_cases c0 with ⟨rfl, hd0⟩ | ⟨hd0', hd0⟩
      · obtain ⟨t, rr, okt, hqt⟩ : ∃ t rr okt, offF r0 = (t, rr, okt) := ⟨_, _, _, rfl⟩
        have HT := Lib.hid (off_call r0 t rr okt hqt)
        have HQ := Lib.hid hqt
        clear hqt
        go_wp2_with fail
        clear ca0 ca1 ca2 ca3 ca4 fa cb0 cb1 cb2 cb3 cb4 fb
        refine (HT.out _).mono ?_
        rintro e w3 ⟨rfl, hb⟩
        have hlt1 := B2b.lt
        have B3a : Blk w3 w.heap.size 103 #[.int .i64 0, .int .i64 0, .int .i64 0, .int .i64 0, .int .i64 0] := B2a.below hb (by omega)
        have B3b : Blk w3 (w.heap.size + 1) 103 #[.int .i64 1, .int .i64 d, .int .i64 0, .int .i64 0, .int .i64 0] := B2b.below hb (by omega)
        have hb3 : Below w.heap.size w w3 := by
          refine Below.trans ?_ (hb.mono ?_)
          · go_grown
          · omega
        clear hlt1
        obtain ⟨ca0, ca1, ca2, ca3, ca4, fa⟩ := B3a.five
        obtain ⟨cb0, cb1, cb2, cb3, cb4, fb⟩ := B3b.five
        clear hb
        clear B2a B2b hb2
        clear HT
        cases okt with
        | false =>
          have HF := Lib.hid (HV2.out.trans (ruTail_no _ _ _ _ _ _ _ HQ.out))
          go_wp2_with fail
          refine bodyPost_ret (v := .tuple #[.agg #[.int .i64 0, .int .i64 0, .int .i64 0, .int .i64 0, .int .i64 0], .string ⟨#[]⟩, .bool false]) (by simp only [results, Tryd.results45]; go_simp) rfl ?_
          rw [HF.out]
          exact ⟨rfl, by go_grown⟩
        | true =>
          have HF := Lib.hid (HV2.out.trans (ruTail_yes _ _ _ _ _ _ _ HQ.out))
          go_wp2_with fail
          refine bodyPost_ret (v := .tuple #[.agg #[.int .i64 1, .int .i64 d, .int .i64 0, .int .i64 0, .int .i64 t], .string (S rr), .bool true]) (by simp only [results, Tryd.results45]; go_simp) rfl ?_
          rw [HF.out]
          exact ⟨rfl, by go_grown⟩
      · have HF := Lib.hid (HV2.out.trans (ruTail_end _ _ _ _ _ _ hd0'))
        clear hd0'
        go_wp2_with fail
        refine bodyPost_ret (v := .tuple #[.agg #[.int .i64 1, .int .i64 d, .int .i64 0, .int .i64 0, .int .i64 7200], .string (S (c0 :: r0)), .bool true]) (by simp only [results, Tryd.results45]; go_simp) rfl ?_
        rw [HF.out]
        exact ⟨rfl, by go_grown⟩

set_option maxHeartbeats 8000000 in
theorem tzsetRule_M (cs : Bs) : Ret 45 #[.string (S (77 :: cs))] (ruV (ruleF (77 :: cs))) := by
  intro w
  have HV := Lib.hid (show ruleF (77 :: cs) = ruM cs by rw [ruleF, if_neg (by decide), if_pos rfl])
  have hz : ((cs.length : Int) + 1 == 0) = false := by rw [beq_eq_false_iff_ne]; omega
  obtain ⟨m, r1, ok1, hq1⟩ : ∃ m r1 ok1, numF cs 1 12 = (m, r1, ok1) := ⟨_, _, _, rfl⟩
  have HC1 := Lib.hid (num_call cs 1 12 (by omega) m r1 ok1 hq1)
  have HQ1 := Lib.hid hq1
  clear hq1
  go_enter Tryd.func45, Tryd.ntmps45
  go_wp2_with fail
  refine (HC1.out _).mono ?_
  rintro e w1 ⟨rfl, hb⟩
  have B1a : Blk w1 w.heap.size 103 #[.int .i64 0, .int .i64 0, .int .i64 0, .int .i64 0, .int .i64 0] := ((Blk.new w _ _ _ rfl).alloc _).below hb (by simp; omega)
  have B1b : Blk w1 (w.heap.size + 1) 103 #[.int .i64 0, .int .i64 0, .int .i64 0, .int .i64 0, .int .i64 0] := (Blk.new (w.alloc _) _ _ _ (by simp)).below hb (by simp)
  have hb1 : Below w.heap.size w w1 := (((Below.refl _ _).alloc (Nat.le_refl _) _).alloc (by simp) _).trans (hb.mono (by simp; omega))
  obtain ⟨ca0, ca1, ca2, ca3, ca4, fa⟩ := B1a.five
  obtain ⟨cb0, cb1, cb2, cb3, cb4, fb⟩ := B1b.five
  clear hb
  clear HC1
  cases ok1 with
  | false =>
    have HF := Lib.hid (HV.out.trans (ruM_no HQ1.out))
    go_wp2_with fail
    refine bodyPost_ret (v := .tuple #[.agg #[.int .i64 0, .int .i64 0, .int .i64 0, .int .i64 0, .int .i64 0], .string ⟨#[]⟩, .bool false]) (by simp only [results, Tryd.results45]; go_simp) rfl ?_
    rw [HF.out]
    exact ⟨rfl, by go_grown⟩
  | true =>
    rcases r1 with _ | ⟨c1, r1x⟩
    · have HF := Lib.hid (HV.out.trans (ruM_end HQ1.out (by simp)))
      go_wp2_with fail
      refine bodyPost_ret (v := .tuple #[.agg #[.int .i64 0, .int .i64 0, .int .i64 0, .int .i64 0, .int .i64 0], .string ⟨#[]⟩, .bool false]) (by simp only [results, Tryd.results45]; go_simp) rfl ?_
      rw [HF.out]
      exact ⟨rfl, by go_grown⟩
    have hz1 : ((r1x.length : Int) + 1 == 0) = false := by rw [beq_eq_false_iff_ne]; omega
    rcases dot_cases c1 with ⟨rfl, hd1⟩ | ⟨hd1', hd1⟩
    · have HV1 := Lib.hid (HV.out.trans (ruM_yes HQ1.out))
      clear HV HQ1
      obtain ⟨wk, r2, ok2, hq2⟩ : ∃ wk r2 ok2, numF r1x 1 5 = (wk, r2, ok2) := ⟨_, _, _, rfl⟩
      have HC2 := Lib.hid (num_call r1x 1 5 (by omega) wk r2 ok2 hq2)
      have HQ2 := Lib.hid hq2
      clear hq2
      go_wp2_with fail
      clear ca0 ca1 ca2 ca3 ca4 fa cb0 cb1 cb2 cb3 cb4 fb
      refine (HC2.out _).mono ?_
      rintro e w2 ⟨rfl, hb⟩
      have hlt1 := B1b.lt
      have B2a : Blk w2 w.heap.size 103 #[.int .i64 0, .int .i64 0, .int .i64 0, .int .i64 0, .int .i64 0] := B1a.below hb (by omega)
      have B2b : Blk w2 (w.heap.size + 1) 103 #[.int .i64 0, .int .i64 0, .int .i64 0, .int .i64 0, .int .i64 0] := B1b.below hb (by omega)
      have hb2 : Below w.heap.size w w2 := by
        refine Below.trans ?_ (hb.mono ?_)
        · go_grown
        · omega
      clear hlt1
      obtain ⟨ca0, ca1, ca2, ca3, ca4, fa⟩ := B2a.five
      obtain ⟨cb0, cb1, cb2, cb3, cb4, fb⟩ := B2b.five
      clear hb
      clear B1a B1b hb1
      clear HC2
      cases ok2 with
      | false =>
        have HF := Lib.hid (HV1.out.trans (ruM2_no HQ2.out))
        go_wp2_with fail
        refine bodyPost_ret (v := .tuple #[.agg #[.int .i64 0, .int .i64 0, .int .i64 0, .int .i64 0, .int .i64 0], .string ⟨#[]⟩, .bool false]) (by simp only [results, Tryd.results45]; go_simp) rfl ?_
        rw [HF.out]
        exact ⟨rfl, by go_grown⟩
      | true =>
        rcases r2 with _ | ⟨c2, r2x⟩
        · have HF := Lib.hid (HV1.out.trans (ruM2_end HQ2.out (by simp)))
          go_wp2_with fail
          refine bodyPost_ret (v := .tuple #[.agg #[.int .i64 0, .int .i64 0, .int .i64 0, .int .i64 0, .int .i64 0], .string ⟨#[]⟩, .bool false]) (by simp only [results, Tryd.results45]; go_simp) rfl ?_
          rw [HF.out]
          exact ⟨rfl, by go_grown⟩
        have hz2 : ((r2x.length : Int) + 1 == 0) = false := by rw [beq_eq_false_iff_ne]; omega
        rcases dot_cases c2 with ⟨rfl, hd2⟩ | ⟨hd2', hd2⟩
        · have HV2 := Lib.hid (HV1.out.trans (ruM2_yes HQ2.out))
          clear HV1 HQ2
          obtain ⟨d, r3, ok3, hq3⟩ : ∃ d r3 ok3, numF r2x 0 6 = (d, r3, ok3) := ⟨_, _, _, rfl⟩
          have HC3 := Lib.hid (num_call r2x 0 6 (by omega) d r3 ok3 hq3)
          have HQ3 := Lib.hid hq3
          clear hq3
          go_wp2_with fail
          clear ca0 ca1 ca2 ca3 ca4 fa cb0 cb1 cb2 cb3 cb4 fb
          refine (HC3.out _).mono ?_
          rintro e w3 ⟨rfl, hb⟩
          have hlt1 := B2b.lt
          have B3a : Blk w3 w.heap.size 103 #[.int .i64 0, .int .i64 0, .int .i64 0, .int .i64 0, .int .i64 0] := B2a.below hb (by omega)
          have B3b : Blk w3 (w.heap.size + 1) 103 #[.int .i64 0, .int .i64 0, .int .i64 0, .int .i64 0, .int .i64 0] := B2b.below hb (by omega)
          have hb3 : Below w.heap.size w w3 := by
            refine Below.trans ?_ (hb.mono ?_)
            · go_grown
            · omega
          clear hlt1
          obtain ⟨ca0, ca1, ca2, ca3, ca4, fa⟩ := B3a.five
          obtain ⟨cb0, cb1, cb2, cb3, cb4, fb⟩ := B3b.five
          clear hb
          clear B2a B2b hb2
          clear HC3
          cases ok3 with
          | false =>
            have HF := Lib.hid (HV2.out.trans (ruM3_no HQ3.out))
            go_wp2_with fail
            refine bodyPost_ret (v := .tuple #[.agg #[.int .i64 0, .int .i64 0, .int .i64 0, .int .i64 0, .int .i64 0], .string ⟨#[]⟩, .bool false]) (by simp only [results, Tryd.results45]; go_simp) rfl ?_
            rw [HF.out]
            exact ⟨rfl, by go_grown⟩
          | true =>
            have HV3 := Lib.hid (HV2.out.trans (ruM3_yes HQ3.out))
            clear HV2 HQ3
            go_upto_region 35 with fail
            clear ca0 ca1 ca2 ca3 ca4 fa cb0 cb1 cb2 cb3 cb4 fb
            have B4a : Blk ((((w3.setCell ⟨w.heap.size + 1, 0, none⟩ (.int .i64 2)).setCell ⟨w.heap.size + 1, 1, none⟩ (.int .i64 d)).setCell ⟨w.heap.size + 1, 2, none⟩ (.int .i64 wk)).setCell ⟨w.heap.size + 1, 3, none⟩ (.int .i64 m)) w.heap.size 103 #[.int .i64 0, .int .i64 0, .int .i64 0, .int .i64 0, .int .i64 0] := ((((B3a.far (p := ⟨w.heap.size + 1, 0, none⟩) (by simp) _).far (p := ⟨w.heap.size + 1, 1, none⟩) (by simp) _).far (p := ⟨w.heap.size + 1, 2, none⟩) (by simp) _).far (p := ⟨w.heap.size + 1, 3, none⟩) (by simp) _)
            have B4b : Blk ((((w3.setCell ⟨w.heap.size + 1, 0, none⟩ (.int .i64 2)).setCell ⟨w.heap.size + 1, 1, none⟩ (.int .i64 d)).setCell ⟨w.heap.size + 1, 2, none⟩ (.int .i64 wk)).setCell ⟨w.heap.size + 1, 3, none⟩ (.int .i64 m)) (w.heap.size + 1) 103 #[.int .i64 2, .int .i64 d, .int .i64 wk, .int .i64 m, .int .i64 0] := ((((B3b.set 0 (.int .i64 2)).set 1 (.int .i64 d)).set 2 (.int .i64 wk)).set 3 (.int .i64 m))
            have hb4 : Below w.heap.size w ((((w3.setCell ⟨w.heap.size + 1, 0, none⟩ (.int .i64 2)).setCell ⟨w.heap.size + 1, 1, none⟩ (.int .i64 d)).setCell ⟨w.heap.size + 1, 2, none⟩ (.int .i64 wk)).setCell ⟨w.heap.size + 1, 3, none⟩ (.int .i64 m)) := by go_grown
            clear B3a B3b hb3
            generalize ((((w3.setCell ⟨w.heap.size + 1, 0, none⟩ (.int .i64 2)).setCell ⟨w.heap.size + 1, 1, none⟩ (.int .i64 d)).setCell ⟨w.heap.size + 1, 2, none⟩ (.int .i64 wk)).setCell ⟨w.heap.size + 1, 3, none⟩ (.int .i64 m)) = w4 at B4a B4b hb4 ⊢
            obtain ⟨ca0, ca1, ca2, ca3, ca4, fa⟩ := B4a.five
            obtain ⟨cb0, cb1, cb2, cb3, cb4, fb⟩ := B4b.five
            rcases r3 with _ | ⟨c0, r0⟩
            · have HF := Lib.hid (HV3.out.trans (ruTail_nil _ _ _ _))
              go_wp2_with fail
              refine bodyPost_ret (v := .tuple #[.agg #[.int .i64 2, .int .i64 d, .int .i64 wk, .int .i64 m, .int .i64 7200], .string (S []), .bool true]) (by simp only [results, Tryd.results45]; go_simp) rfl ?_
              rw [HF.out]
              exact ⟨rfl, by go_grown⟩
            · have hz0 : ((r0.length : Int) + 1 == 0) = false := by rw [beq_eq_false_iff_ne]; omega
              rcases slash_cases c0 with ⟨rfl, hd0⟩ | ⟨hd0', hd0⟩
              · obtain ⟨t, rr, okt, hqt⟩ : ∃ t rr okt, offF r0 = (t, rr, okt) := ⟨_, _, _, rfl⟩
                have HT := Lib.hid (off_call r0 t rr okt hqt)
                have HQ := Lib.hid hqt
                clear hqt
                go_wp2_with fail
                clear ca0 ca1 ca2 ca3 ca4 fa cb0 cb1 cb2 cb3 cb4 fb
                refine (HT.out _).mono ?_
                rintro e w5 ⟨rfl, hb⟩
                have hlt1 := B4b.lt
                have B5a : Blk w5 w.heap.size 103 #[.int .i64 0, .int .i64 0, .int .i64 0, .int .i64 0, .int .i64 0] := B4a.below hb (by omega)
                have B5b : Blk w5 (w.heap.size + 1) 103 #[.int .i64 2, .int .i64 d, .int .i64 wk, .int .i64 m, .int .i64 0] := B4b.below hb (by omega)
                have hb5 : Below w.heap.size w w5 := by
                  refine Below.trans ?_ (hb.mono ?_)
                  · go_grown
                  · omega
                clear hlt1
                obtain ⟨ca0, ca1, ca2, ca3, ca4, fa⟩ := B5a.five
                obtain ⟨cb0, cb1, cb2, cb3, cb4, fb⟩ := B5b.five
                clear hb
                clear B4a B4b hb4
                clear HT
                cases okt with
                | false =>
                  have HF := Lib.hid (HV3.out.trans (ruTail_no _ _ _ _ _ _ _ HQ.out))
                  go_wp2_with fail
                  refine bodyPost_ret (v := .tuple #[.agg #[.int .i64 0, .int .i64 0, .int .i64 0, .int .i64 0, .int .i64 0], .string ⟨#[]⟩, .bool false]) (by simp only [results, Tryd.results45]; go_simp) rfl ?_
                  rw [HF.out]
                  exact ⟨rfl, by go_grown⟩
                | true =>
                  have HF := Lib.hid (HV3.out.trans (ruTail_yes _ _ _ _ _ _ _ HQ.out))
                  go_wp2_with fail
                  refine bodyPost_ret (v := .tuple #[.agg #[.int .i64 2, .int .i64 d, .int .i64 wk, .int .i64 m, .int .i64 t], .string (S rr), .bool true]) (by simp only [results, Tryd.results45]; go_simp) rfl ?_
                  rw [HF.out]
                  exact ⟨rfl, by go_grown⟩
              · have HF := Lib.hid (HV3.out.trans (ruTail_end _ _ _ _ _ _ hd0'))
                clear hd0'
                go_wp2_with fail
                refine bodyPost_ret (v := .tuple #[.agg #[.int .i64 2, .int .i64 d, .int .i64 wk, .int .i64 m, .int .i64 7200], .string (S (c0 :: r0)), .bool true]) (by simp only [results, Tryd.results45]; go_simp) rfl ?_
                rw [HF.out]
                exact ⟨rfl, by go_grown⟩
        · have HF := Lib.hid (HV1.out.trans (ruM2_end HQ2.out (by simpa using hd2')))
          clear hd2'
          go_wp2_with fail
          refine bodyPost_ret (v := .tuple #[.agg #[.int .i64 0, .int .i64 0, .int .i64 0, .int .i64 0, .int .i64 0], .string ⟨#[]⟩, .bool false]) (by simp only [results, Tryd.results45]; go_simp) rfl ?_
          rw [HF.out]
          exact ⟨rfl, by go_grown⟩
    · have HF := Lib.hid (HV.out.trans (ruM_end HQ1.out (by simpa using hd1')))
      clear hd1'
      go_wp2_with fail
      refine bodyPost_ret (v := .tuple #[.agg #[.int .i64 0, .int .i64 0, .int .i64 0, .int .i64 0, .int .i64 0], .string ⟨#[]⟩, .bool false]) (by simp only [results, Tryd.results45]; go_simp) rfl ?_
      rw [HF.out]
      exact ⟨rfl, by go_grown⟩

theorem tzsetRule_ret (l : Bs) : Ret 45 #[.string (S l)] (ruV (ruleF l)) := by
  cases l with
  | nil =>
    intro w
    go_enter Tryd.func45, Tryd.ntmps45
    go_wp2_with fail
    refine bodyPost_ret (v := .tuple #[.agg #[.int .i64 0, .int .i64 0, .int .i64 0, .int .i64 0, .int .i64 0], .string ⟨#[]⟩, .bool false]) (by simp only [results, Tryd.results45]; go_simp) rfl ?_
    exact ⟨rfl, by go_grown⟩
  | cons c cs =>
    by_cases h74 : c = 74
    · subst h74; exact tzsetRule_J cs
    · by_cases h77 : c = 77
      · subst h77; exact tzsetRule_M cs
      · exact tzsetRule_D c cs h74 h77

end Go.Proofs.YtgmlclhdibajiaaDoor
