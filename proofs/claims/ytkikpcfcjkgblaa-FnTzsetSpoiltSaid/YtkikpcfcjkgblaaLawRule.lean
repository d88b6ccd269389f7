/- FnExactRule and FnRuleSpoilt: their walks. -/
import Derived.Test.YtkikpcfcjkgblaaPlainF
namespace Go.Proofs.Ytkikpcfcjkgblaa
open Go.RowKit

def ruStop (c : UInt8) : Bool := (decide (48 ≤ c.toNat) && decide (c.toNat ≤ 57)) || decide (c.toNat = 47) || decide (c.toNat = 58)
theorem ruStop_yes (c : UInt8) (h : ruStop c = true) : (((c.toNat : Int) == 47) = true ∧ ((c.toNat : Int) == 58) = false ∧ decide (48 ≤ (c.toNat : Int)) = false ∧ (c.toNat : Int) ≤ 57) ∨ (((c.toNat : Int) == 47) = false ∧ ((c.toNat : Int) == 58) = false ∧ 48 ≤ (c.toNat : Int) ∧ (c.toNat : Int) ≤ 57) ∨ (((c.toNat : Int) == 47) = false ∧ ((c.toNat : Int) == 58) = true ∧ 48 ≤ (c.toNat : Int) ∧ decide ((c.toNat : Int) ≤ 57) = false) := by
  simp only [beq_iff_eq, beq_eq_false_iff_ne, ne_eq, decide_eq_false_iff_not]
  simp [ruStop] at h
  omega
theorem ruStop_no (c : UInt8) (h : ruStop c = false) : (((c.toNat : Int) == 47) = false ∧ ((c.toNat : Int) == 58) = false ∧ decide (48 ≤ (c.toNat : Int)) = false ∧ (c.toNat : Int) ≤ 57) ∨ (((c.toNat : Int) == 47) = false ∧ ((c.toNat : Int) == 58) = false ∧ 48 ≤ (c.toNat : Int) ∧ decide ((c.toNat : Int) ≤ 57) = false) := by
  simp only [beq_eq_false_iff_ne, ne_eq, decide_eq_false_iff_not]
  simp [ruStop] at h
  omega
theorem noRul_of (r : Bs) (hp : 0 < r.length) (h : ruStop r[0] = false) : noRul r := by
  have hh : r.head? = some r[0] := by cases r; simp at hp; rfl
  simp [ruStop] at h
  refine ⟨⟨fun c hc => ?_, ?_⟩, ?_⟩
  · rw [hh] at hc; injection hc with hc; subst hc; omega
  · rw [hh]; intro hc; injection hc with hc; rw [hc] at h; revert h; decide
  · rw [hh]; intro hc; injection hc with hc; rw [hc] at h; revert h; decide
theorem Ret.box {f : FuncId} {args : Array Value} {v : Value} (h : Ret f args v) {w : World} {r : Ru} {W : World} (hB : InBox w r W) : Calls Try.prog f args W fun e W' => e = .returned v ∧ InBox w r W' :=
  (h W).mono fun _ _ ⟨he, hb⟩ => ⟨he, hB.below hb⟩
theorem RuleOf_back (r : Ru) (whole : Bool) (s : Bs) (h : ruOk r = true) (hs : noRul s) : Ret 30 #[.string (S (ruT r whole ++ s))] (.tuple #[ruA r, .string (S s), .bool true]) := by
  have := RuleOf_ret (ruT r whole ++ s)
  rw [ruleF_back r whole s h hs] at this
  exact this
theorem RuleText_ok (r : Ru) (whole : Bool) (h : ruOk r = true) : Ret 31 #[ruA r, .bool whole] (.string (S (ruT r whole))) := by
  obtain ⟨a, b, c, d, e, f, g, i, _⟩ := ruOk_bd r h
  exact RuleText_ret r whole a b c d e f g i

set_option maxHeartbeats 8000000 in
theorem fnExactRule_walk (r : Ru) (whole : Bool) (s : Bs) : Ret 8 #[ruA r, .bool whole, .string (S s)] (.bool true) := by
  intro w
  have HB := InBox.new w r
  obtain ⟨⟨c0, c1, c2, c3, c4⟩, _⟩ := HB.all
  by_cases hl : (2147483647 : Int) < (s.length : Int)
  · unfold ruA
    go_enter Try.func8, Try.ntmps8
    go_wp2_with fail
    go_ret
    exact ⟨rfl, HB.2⟩
  have HO := RuleOk_ret r
  cases hok : ruOk r
  · rw [hok] at HO
    have HO := Lib.hid HO
    clear hok
    unfold ruA at *
    go_enter Try.func8, Try.ntmps8
    go_wp2_with fail
    refine (HO.out.box HB).mono ?_
    rintro e w1 ⟨rfl, HX1⟩
    clear c0 c1 c2 c3 c4
    obtain ⟨⟨c0, c1, c2, c3, c4⟩, _⟩ := HX1.all
    have hlt1 := HX1.1.lt
    go_wp2_with fail
    refine (reads_ret.box HX1).mono ?_
    rintro e w2 ⟨rfl, HX2⟩
    clear c0 c1 c2 c3 c4
    obtain ⟨⟨c0, c1, c2, c3, c4⟩, _⟩ := HX2.all
    have hlt2 := HX2.1.lt
    go_wp2_with fail
    go_ret
    exact ⟨rfl, HX2.2⟩
  rw [hok] at HO
  have HO := Lib.hid HO
  have HT := Lib.hid (RuleText_ok r whole hok)
  have hlT := ruT_len r whole
  by_cases hs0 : s = []
  · subst hs0
    have HF := Lib.hid (RuleOf_back r whole [] hok noRul_nil)
    rw [List.append_nil] at HF
    clear hl
    clear hok
    unfold ruA at *
    go_enter Try.func8, Try.ntmps8
    go_wp2_with fail
    refine (HO.out.box HB).mono ?_
    rintro e w1 ⟨rfl, HX1⟩
    clear c0 c1 c2 c3 c4
    obtain ⟨⟨c0, c1, c2, c3, c4⟩, _⟩ := HX1.all
    have hlt1 := HX1.1.lt
    go_wp2_with fail
    refine (HT.out.box HX1).mono ?_
    rintro e w2 ⟨rfl, HX2⟩
    clear c0 c1 c2 c3 c4
    obtain ⟨⟨c0, c1, c2, c3, c4⟩, _⟩ := HX2.all
    have hlt2 := HX2.1.lt
    go_wp2_with fail
    refine (HF.out.box HX2).mono ?_
    rintro e w3 ⟨rfl, HX3⟩
    clear c0 c1 c2 c3 c4
    obtain ⟨⟨c0, c1, c2, c3, c4⟩, _⟩ := HX3.all
    have hlt3 := HX3.1.lt
    go_wp2_with fail
    have hb3 := HX3.2
    go_ret
    exact ⟨rfl, by go_grown⟩
  have hp : 0 < s.length := List.length_pos_iff.2 hs0
  have hne : s.isEmpty = false := by cases s; simp at hp; rfl
  cases hst : ruStop s[0]
  · have HF := Lib.hid (RuleOf_back r whole s hok (noRul_of s hp hst))
    have hcs := ruStop_no _ hst
    clear hst
    rcases hcs with ⟨x1, x2, x3, x4⟩ | ⟨x1, x2, x3, x4⟩
    all_goals
      clear hok
      unfold ruA at *
      go_enter Try.func8, Try.ntmps8
      go_wp2_with fail
      refine (HO.out.box HB).mono ?_
      rintro e w1 ⟨rfl, HX1⟩
      clear c0 c1 c2 c3 c4
      obtain ⟨⟨c0, c1, c2, c3, c4⟩, _⟩ := HX1.all
      have hlt1 := HX1.1.lt
      go_wp2_with fail
      refine (HT.out.box HX1).mono ?_
      rintro e w2 ⟨rfl, HX2⟩
      clear c0 c1 c2 c3 c4
      obtain ⟨⟨c0, c1, c2, c3, c4⟩, _⟩ := HX2.all
      have hlt2 := HX2.1.lt
      go_wp2_with fail
      refine (HF.out.box HX2).mono ?_
      rintro e w3 ⟨rfl, HX3⟩
      clear c0 c1 c2 c3 c4
      obtain ⟨⟨c0, c1, c2, c3, c4⟩, _⟩ := HX3.all
      have hlt3 := HX3.1.lt
      go_wp2_with fail
      have hb3 := HX3.2
      go_ret
      exact ⟨rfl, by go_grown⟩
  · have hcs := ruStop_yes _ hst
    clear hst hok HT
    unfold ruA at *
    rcases hcs with ⟨x1, x2, x3, x4⟩ | ⟨x1, x2, x3, x4⟩ | ⟨x1, x2, x3, x4⟩
    all_goals
      go_enter Try.func8, Try.ntmps8
      go_wp2_with fail
      refine (HO.out.box HB).mono ?_
      rintro e w1 ⟨rfl, HX1⟩
      clear c0 c1 c2 c3 c4
      obtain ⟨⟨c0, c1, c2, c3, c4⟩, _⟩ := HX1.all
      have hlt1 := HX1.1.lt
      go_wp2_with fail
      refine (reads_ret.box HX1).mono ?_
      rintro e w2 ⟨rfl, HX2⟩
      clear c0 c1 c2 c3 c4
      obtain ⟨⟨c0, c1, c2, c3, c4⟩, _⟩ := HX2.all
      have hlt2 := HX2.1.lt
      go_wp2_with fail
      go_ret
      exact ⟨rfl, HX2.2⟩

theorem RuleOf_spoilt (r : Ru) (hk : r.kind = 0 ∧ r.week = 0 ∧ r.mon = 0 ∨ r.kind = 1 ∧ r.week = 0 ∧ r.mon = 0 ∨ r.kind = 2) (hd0 : 0 ≤ r.day) (hd1 : r.day ≤ 999) (hw0 : 0 ≤ r.week) (hw1 : r.week ≤ 999) (hm0 : 0 ≤ r.mon) (hm1 : r.mon ≤ 999) (ht : r.time = 7200) :
    ∃ k d wk m t y, Ret 30 #[.string (S (ruT r false))] (.tuple #[.agg #[.int .i64 k, .int .i64 d, .int .i64 wk, .int .i64 m, .int .i64 t], .string (S y), .bool (ruOk r)]) := by
  have h := RuleOf_ret (ruT r false)
  have e := ruleF_ruT r false [] hd0 hd1 hw0 hw1 hm0 hm1 (by omega) (by omega) noRul_nil hk
  rw [List.append_nil] at e
  rw [e] at h
  cases hok : ruOk r
  · rw [hok] at h; exact ⟨_, _, _, _, _, _, h⟩
  · rw [hok] at h; exact ⟨_, _, _, _, _, _, h⟩

set_option maxHeartbeats 8000000 in
theorem fnRuleSpoilt_walk (kind a b c : Int) : Ret 9 #[.int .i64 kind, .int .i64 a, .int .i64 b, .int .i64 c] (.bool true) := by
  intro w
  have H1 := Within_ret kind 0 2
  cases h1 : inB kind 0 2
  · rw [h1] at H1
    have H1 := Lib.hid H1
    clear h1
    go_enter Try.func9, Try.ntmps9
    go_wp2_with fail
    refine (H1.out _).mono ?_
    rintro e w1 ⟨rfl, hb1'⟩
    have hb1 : Below w.heap.size w w1 := hb1'
    clear hb1'
    go_wp2_with fail
    refine (reads_ret _).mono ?_
    rintro e w2 ⟨rfl, hb2'⟩
    have hb2 : Below w.heap.size w w2 := hb1.trans (hb2'.mono hb1.size)
    clear hb2'
    go_wp2_with fail
    go_ret
    exact ⟨rfl, hb2⟩
  rw [h1] at H1
  have H1 := Lib.hid H1
  have H2 := Within_ret a 0 999
  cases h2 : inB a 0 999
  · rw [h2] at H2
    have H2 := Lib.hid H2
    clear h1 h2
    go_enter Try.func9, Try.ntmps9
    go_wp2_with fail
    refine (H1.out _).mono ?_
    rintro e w1 ⟨rfl, hb1'⟩
    have hb1 : Below w.heap.size w w1 := hb1'
    clear hb1'
    go_wp2_with fail
    refine (H2.out _).mono ?_
    rintro e w2 ⟨rfl, hb2'⟩
    have hb2 : Below w.heap.size w w2 := hb1.trans (hb2'.mono hb1.size)
    clear hb2'
    go_wp2_with fail
    refine (reads_ret _).mono ?_
    rintro e w3 ⟨rfl, hb3'⟩
    have hb3 : Below w.heap.size w w3 := hb2.trans (hb3'.mono hb2.size)
    clear hb3'
    go_wp2_with fail
    go_ret
    exact ⟨rfl, hb3⟩
  rw [h2] at H2
  have H2 := Lib.hid H2
  have H3 := Within_ret b 0 99
  cases h3 : inB b 0 99
  · rw [h3] at H3
    have H3 := Lib.hid H3
    clear h1 h2 h3
    go_enter Try.func9, Try.ntmps9
    go_wp2_with fail
    refine (H1.out _).mono ?_
    rintro e w1 ⟨rfl, hb1'⟩
    have hb1 : Below w.heap.size w w1 := hb1'
    clear hb1'
    go_wp2_with fail
    refine (H2.out _).mono ?_
    rintro e w2 ⟨rfl, hb2'⟩
    have hb2 : Below w.heap.size w w2 := hb1.trans (hb2'.mono hb1.size)
    clear hb2'
    go_wp2_with fail
    refine (H3.out _).mono ?_
    rintro e w3 ⟨rfl, hb3'⟩
    have hb3 : Below w.heap.size w w3 := hb2.trans (hb3'.mono hb2.size)
    clear hb3'
    go_wp2_with fail
    refine (reads_ret _).mono ?_
    rintro e w4 ⟨rfl, hb4'⟩
    have hb4 : Below w.heap.size w w4 := hb3.trans (hb4'.mono hb3.size)
    clear hb4'
    go_wp2_with fail
    go_ret
    exact ⟨rfl, hb4⟩
  rw [h3] at H3
  have H3 := Lib.hid H3
  have H4 := Within_ret c 0 99
  cases h4 : inB c 0 99
  · rw [h4] at H4
    have H4 := Lib.hid H4
    clear h1 h2 h3 h4
    go_enter Try.func9, Try.ntmps9
    go_wp2_with fail
    refine (H1.out _).mono ?_
    rintro e w1 ⟨rfl, hb1'⟩
    have hb1 : Below w.heap.size w w1 := hb1'
    clear hb1'
    go_wp2_with fail
    refine (H2.out _).mono ?_
    rintro e w2 ⟨rfl, hb2'⟩
    have hb2 : Below w.heap.size w w2 := hb1.trans (hb2'.mono hb1.size)
    clear hb2'
    go_wp2_with fail
    refine (H3.out _).mono ?_
    rintro e w3 ⟨rfl, hb3'⟩
    have hb3 : Below w.heap.size w w3 := hb2.trans (hb3'.mono hb2.size)
    clear hb3'
    go_wp2_with fail
    refine (H4.out _).mono ?_
    rintro e w4 ⟨rfl, hb4'⟩
    have hb4 : Below w.heap.size w w4 := hb3.trans (hb4'.mono hb3.size)
    clear hb4'
    go_wp2_with fail
    refine (reads_ret _).mono ?_
    rintro e w5 ⟨rfl, hb5'⟩
    have hb5 : Below w.heap.size w w5 := hb4.trans (hb5'.mono hb4.size)
    clear hb5'
    go_wp2_with fail
    go_ret
    exact ⟨rfl, hb5⟩
  rw [h4] at H4
  have H4 := Lib.hid H4
  rw [inB_iff] at h1 h2 h3 h4
  by_cases hk2 : kind = 2
  · subst hk2
    have HT := Lib.hid (RuleText_ret ⟨2, c, b, a, 7200⟩ false (by simp only []; omega) (by simp only []; omega) (by simp only []; omega) (by simp only []; omega) (by simp only []; omega) (by simp only []; omega) (by simp only []; omega) (by simp only []; omega))
    obtain ⟨k', d', wk', m', t', y', HF'⟩ := RuleOf_spoilt ⟨2, c, b, a, 7200⟩ (.inr (.inr rfl)) (by simp only []; omega) (by simp only []; omega) (by simp only []; omega) (by simp only []; omega) (by simp only []; omega) (by simp only []; omega) rfl
    have HO' := RuleOk_ret ⟨2, c, b, a, 7200⟩
    generalize ruOk ⟨2, c, b, a, 7200⟩ = ok at HF' HO'
    generalize ruT ⟨2, c, b, a, 7200⟩ false = txt at HT HF'
    have HF := Lib.hid HF'
    have HO := Lib.hid HO'
    clear HF' HO' h1 h2 h3 h4
    unfold ruA at HT HO
    simp only [] at HT HO
    go_enter Try.func9, Try.ntmps9
    go_wp2_with fail
    refine (H1.out _).mono ?_
    rintro e w1 ⟨rfl, hb1'⟩
    have hb1 : Below w.heap.size w w1 := hb1'
    clear hb1'
    go_wp2_with fail
    refine (H2.out _).mono ?_
    rintro e w2 ⟨rfl, hb2'⟩
    have hb2 : Below w.heap.size w w2 := hb1.trans (hb2'.mono hb1.size)
    clear hb2'
    go_wp2_with fail
    refine (H3.out _).mono ?_
    rintro e w3 ⟨rfl, hb3'⟩
    have hb3 : Below w.heap.size w w3 := hb2.trans (hb3'.mono hb2.size)
    clear hb3'
    go_wp2_with fail
    refine (H4.out _).mono ?_
    rintro e w4 ⟨rfl, hb4'⟩
    have hb4 : Below w.heap.size w w4 := hb3.trans (hb4'.mono hb3.size)
    clear hb4'
    go_wp2_with fail
    have HB := InBox.new w4 ⟨2, c, b, a, 7200⟩
    simp only [] at HB
    obtain ⟨⟨c0, c1, c2, c3, c4⟩, _⟩ := HB.all
    simp only [] at c0 c1 c2 c3 c4
    refine (HT.out.box HB).mono ?_
    rintro e w5 ⟨rfl, HX5⟩
    clear c0 c1 c2 c3 c4
    obtain ⟨⟨c0, c1, c2, c3, c4⟩, _⟩ := HX5.all
    simp only [] at c0 c1 c2 c3 c4
    have hlt5 := HX5.1.lt
    go_wp2_with fail
    refine (HF.out.box HX5).mono ?_
    rintro e w6 ⟨rfl, HX6⟩
    clear c0 c1 c2 c3 c4
    obtain ⟨⟨c0, c1, c2, c3, c4⟩, _⟩ := HX6.all
    simp only [] at c0 c1 c2 c3 c4
    have hlt6 := HX6.1.lt
    go_wp2_with fail
    have HX6' : InBox w4 ⟨2, c, b, a, 7200⟩ (w6.alloc (.cells #[.int .i64 k', .int .i64 d', .int .i64 wk', .int .i64 m', .int .i64 t'] 36)) := ⟨HX6.1.alloc _, HX6.2.alloc HX6.2.size _⟩
    refine (HO.out.box HX6').mono ?_
    rintro e w7 ⟨rfl, HX7⟩
    go_wp2_with fail
    refine (reads_ret.box HX7).mono ?_
    rintro e w8 ⟨rfl, HX8⟩
    go_wp2_with fail
    go_ret
    exact ⟨rfl, hb4.trans (HX8.2.mono hb4.size)⟩
  have ek : (kind == 2) = false := by rw [beq_eq_false_iff_ne]; exact hk2
  have hk01 : kind = 0 ∨ kind = 1 := by omega
  have HT := Lib.hid (RuleText_ret ⟨kind, a, 0, 0, 7200⟩ false (by simp only []; omega) (by simp only []; omega) (by simp only []; omega) (by simp only []; omega) (by simp only []; omega) (by simp only []; omega) (by simp only []; omega) (by simp only []; omega))
  obtain ⟨k', d', wk', m', t', y', HF'⟩ := RuleOf_spoilt ⟨kind, a, 0, 0, 7200⟩ (hk01.elim (fun h => .inl ⟨h, rfl, rfl⟩) (fun h => .inr (.inl ⟨h, rfl, rfl⟩))) (by simp only []; omega) (by simp only []; omega) (by simp only []; omega) (by simp only []; omega) (by simp only []; omega) (by simp only []; omega) rfl
  have HO' := RuleOk_ret ⟨kind, a, 0, 0, 7200⟩
  generalize ruOk ⟨kind, a, 0, 0, 7200⟩ = ok at HF' HO'
  generalize ruT ⟨kind, a, 0, 0, 7200⟩ false = txt at HT HF'
  have HF := Lib.hid HF'
  have HO := Lib.hid HO'
  clear HF' HO' h1 h2 h3 h4 hk2 hk01
  unfold ruA at HT HO
  simp only [] at HT HO
  go_enter Try.func9, Try.ntmps9
  go_wp2_with fail
  refine (H1.out _).mono ?_
  rintro e w1 ⟨rfl, hb1'⟩
  have hb1 : Below w.heap.size w w1 := hb1'
  clear hb1'
  go_wp2_with fail
  refine (H2.out _).mono ?_
  rintro e w2 ⟨rfl, hb2'⟩
  have hb2 : Below w.heap.size w w2 := hb1.trans (hb2'.mono hb1.size)
  clear hb2'
  go_wp2_with fail
  refine (H3.out _).mono ?_
  rintro e w3 ⟨rfl, hb3'⟩
  have hb3 : Below w.heap.size w w3 := hb2.trans (hb3'.mono hb2.size)
  clear hb3'
  go_wp2_with fail
  refine (H4.out _).mono ?_
  rintro e w4 ⟨rfl, hb4'⟩
  have hb4 : Below w.heap.size w w4 := hb3.trans (hb4'.mono hb3.size)
  clear hb4'
  go_wp2_with fail
  have HB := InBox.new w4 ⟨kind, a, 0, 0, 7200⟩
  simp only [] at HB
  obtain ⟨⟨c0, c1, c2, c3, c4⟩, _⟩ := HB.all
  simp only [] at c0 c1 c2 c3 c4
  refine (HT.out.box HB).mono ?_
  rintro e w5 ⟨rfl, HX5⟩
  clear c0 c1 c2 c3 c4
  obtain ⟨⟨c0, c1, c2, c3, c4⟩, _⟩ := HX5.all
  simp only [] at c0 c1 c2 c3 c4
  have hlt5 := HX5.1.lt
  go_wp2_with fail
  refine (HF.out.box HX5).mono ?_
  rintro e w6 ⟨rfl, HX6⟩
  clear c0 c1 c2 c3 c4
  obtain ⟨⟨c0, c1, c2, c3, c4⟩, _⟩ := HX6.all
  simp only [] at c0 c1 c2 c3 c4
  have hlt6 := HX6.1.lt
  go_wp2_with fail
  have HX6' : InBox w4 ⟨kind, a, 0, 0, 7200⟩ (w6.alloc (.cells #[.int .i64 k', .int .i64 d', .int .i64 wk', .int .i64 m', .int .i64 t'] 36)) := ⟨HX6.1.alloc _, HX6.2.alloc HX6.2.size _⟩
  refine (HO.out.box HX6').mono ?_
  rintro e w7 ⟨rfl, HX7⟩
  go_wp2_with fail
  refine (reads_ret.box HX7).mono ?_
  rintro e w8 ⟨rfl, HX8⟩
  go_wp2_with fail
  go_ret
  exact ⟨rfl, hb4.trans (HX8.2.mono hb4.size)⟩

end Go.Proofs.Ytkikpcfcjkgblaa
