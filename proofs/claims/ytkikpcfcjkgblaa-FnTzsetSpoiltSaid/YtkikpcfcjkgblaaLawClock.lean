/- FnOffsetClock: its walk. -/
import Derived.Test.YtkikpcfcjkgblaaClock
import Derived.Test.YtkikpcfcjkgblaaPlainB
namespace Go.Proofs.Ytkikpcfcjkgblaa
open Go.RowKit

theorem Within_yes (n a b : Int) (h1 : a ≤ n) (h2 : n ≤ b) : Ret 21 #[.int .i64 n, .int .i64 a, .int .i64 b] (.bool true) := by
  intro w
  go_enter Try.func21, Try.ntmps21
  go_wp2
  go_ret
  exact ⟨rfl, Below.refl _ _⟩
theorem Within_no (n a b : Int) (h : ¬ (a ≤ n ∧ n ≤ b)) : Ret 21 #[.int .i64 n, .int .i64 a, .int .i64 b] (.bool false) := by
  intro w
  by_cases h1 : a ≤ n
  · have h2 : ¬ n ≤ b := by omega
    clear h
    go_enter Try.func21, Try.ntmps21
    go_wp2
    go_ret
    exact ⟨rfl, Below.refl _ _⟩
  · clear h
    go_enter Try.func21, Try.ntmps21
    go_wp2
    go_ret
    exact ⟨rfl, Below.refl _ _⟩

/-- the walk where the law speaks: behind its tests -/
theorem OffsetOf_clk (n : Int) (whole : Bool) (r : Bs) (h0 : -604799 ≤ n) (h1 : n ≤ 604799) (hr : noClk r) : Ret 18 #[.string (S (clkT n whole ++ r))] (.tuple #[.int .i64 n, .string (S r), .bool true]) := by
  have := OffsetOf_ret (clkT n whole ++ r)
  rw [offF_clk n whole r h0 h1 hr] at this
  exact this

set_option maxHeartbeats 1000000 in
theorem fnOffsetClock_walk (n : Int) (whole : Bool) (r : Bs) : Ret 4 #[.int .i64 n, .bool whole, .string (S r)] (.bool true) := by
  intro w
  by_cases hl : (2147483647 : Int) < (r.length : Int)
  · go_enter Try.func4, Try.ntmps4
    go_wp2_with fail
    go_ret
    exact ⟨rfl, Below.refl _ _⟩
  · by_cases hn : -604799 ≤ n ∧ n ≤ 604799
    · obtain ⟨hn1, hn2⟩ := hn
      have gW := Lib.hid (Within_yes n (-604799) 604799 hn1 hn2)
      have gC := Lib.hid (Clock_ret n whole hn1 hn2)
      have lC := clkT_len n whole
      by_cases hr0 : r = []
      · subst hr0
        clear hl
        have gO := Lib.hid (OffsetOf_clk n whole [] hn1 hn2 ⟨noDig_nil, by simp⟩)
        rw [List.append_nil] at gO
        go_enter Try.func4, Try.ntmps4
        go_wp2_with fail
        refine (gW.out _).mono ?_
        rintro e w1 ⟨rfl, hb1⟩
        go_wp2_with fail
        refine (gC.out _).mono ?_
        rintro e w2 ⟨rfl, hb2⟩
        go_wp2_with fail
        refine (gO.out _).mono ?_
        rintro e w3 ⟨rfl, hb3⟩
        go_wp2_with fail
        go_ret
        have hb : Below w.heap.size w w2 := hb1.trans (hb2.mono hb1.size)
        exact ⟨rfl, hb.trans (hb3.mono hb.size)⟩
      · have hp : 0 < r.length := List.length_pos_iff.2 hr0
        have hne : r.isEmpty = false := by cases r; simp at hp; rfl
        have hh : r.head? = some r[0] := by cases r; simp at hp; rfl
        have hcl : (((r[0].toNat : Int) == 58) = true) ∨ (((r[0].toNat : Int) == 58) = false ∧ 48 ≤ (r[0].toNat : Int) ∧ (r[0].toNat : Int) ≤ 57) ∨
            (((r[0].toNat : Int) == 58) = false ∧ ¬ 48 ≤ (r[0].toNat : Int) ∧ Hid (noClk r)) ∨ (((r[0].toNat : Int) == 58) = false ∧ 48 ≤ (r[0].toNat : Int) ∧ ¬ (r[0].toNat : Int) ≤ 57 ∧ Hid (noClk r)) := by
          rcases byte_cases r[0] 58 with ⟨_, e⟩ | ⟨e', e⟩
          · exact .inl e
          · have nc : (r[0].toNat < 48 ∨ 57 < r[0].toNat) → noClk r := fun h => ⟨fun c hc => by rw [hh] at hc; injection hc with hc; subst hc; exact h, by rw [hh]; simpa using e'⟩
            by_cases a : 48 ≤ r[0].toNat
            · by_cases b : r[0].toNat ≤ 57
              · exact .inr (.inl ⟨e, by omega, by omega⟩)
              · exact .inr (.inr (.inr ⟨e, by omega, by omega, nc (by omega)⟩))
            · exact .inr (.inr (.inl ⟨e, by omega, nc (by omega)⟩))
        clear hh
        rcases hcl with e | ⟨e, e1, e2⟩ | h3
        · go_enter Try.func4, Try.ntmps4
          go_wp2_with fail
          refine (gW.out _).mono ?_
          rintro e w1 ⟨rfl, hb1⟩
          go_wp2_with fail
          refine (reads_ret _).mono ?_
          rintro e w2 ⟨rfl, hb2⟩
          go_wp2_with fail
          go_ret
          exact ⟨rfl, hb1.trans (hb2.mono hb1.size)⟩
        · go_enter Try.func4, Try.ntmps4
          go_wp2_with fail
          refine (gW.out _).mono ?_
          rintro e w1 ⟨rfl, hb1⟩
          go_wp2_with fail
          refine (reads_ret _).mono ?_
          rintro e w2 ⟨rfl, hb2⟩
          go_wp2_with fail
          go_ret
          exact ⟨rfl, hb1.trans (hb2.mono hb1.size)⟩
        · have gO := Lib.hid (OffsetOf_clk n whole r hn1 hn2 (by rcases h3 with ⟨_, _, h⟩ | ⟨_, _, _, h⟩ <;> exact h.out))
          rcases h3 with ⟨e, e1, _⟩ | ⟨e, e1, e2, _⟩
          all_goals
            go_enter Try.func4, Try.ntmps4
            go_wp2_with fail
            refine (gW.out _).mono ?_
            rintro e w1 ⟨rfl, hb1⟩
            go_wp2_with fail
            refine (gC.out _).mono ?_
            rintro e w2 ⟨rfl, hb2⟩
            go_wp2_with fail
            refine (gO.out _).mono ?_
            rintro e w3 ⟨rfl, hb3⟩
            go_wp2_with fail
            go_ret
            have hb : Below w.heap.size w w2 := hb1.trans (hb2.mono hb1.size)
            exact ⟨rfl, hb.trans (hb3.mono hb.size)⟩
    · have gW := Lib.hid (Within_no n (-604799) 604799 hn)
      clear hn
      go_enter Try.func4, Try.ntmps4
      go_wp2_with fail
      refine (gW.out _).mono ?_
      rintro e w1 ⟨rfl, hb1⟩
      go_wp2_with fail
      refine (reads_ret _).mono ?_
      rintro e w2 ⟨rfl, hb2⟩
      go_wp2_with fail
      go_ret
      exact ⟨rfl, hb1.trans (hb2.mono hb1.size)⟩

end Go.Proofs.Ytkikpcfcjkgblaa
