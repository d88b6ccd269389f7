/- FnExactNum and FnExactOffset: their walks, from the contracts of the readers and of the reference. -/
import Derived.Test.YtkikpcfcjkgblaaSpecOffset
namespace Go.Proofs.Ytkikpcfcjkgblaa
open Go.RowKit

theorem fnExactNum_walk (l : Bs) (mn mx : Int) : Ret 5 #[.string (S l), .int .i64 mn, .int .i64 mx] (.bool true) := by
  intro w
  by_cases hl : (2147483647 : Int) < (l.length : Int)
  · go_enter Try.func5, Try.ntmps5
    go_wp2_with fail
    go_ret
    exact ⟨rfl, Below.refl _ _⟩
  · by_cases hd : mn < 0 ∨ mx < mn ∨ 1000000 < mx
    · by_cases h1 : mn < 0
      · go_enter Try.func5, Try.ntmps5
        go_wp2_with fail
        refine (reads_ret _).mono ?_
        rintro e w1 ⟨rfl, hb⟩
        go_wp2_with fail
        go_ret
        exact ⟨rfl, hb⟩
      · by_cases h2 : mx < mn
        · go_enter Try.func5, Try.ntmps5
          go_wp2_with fail
          refine (reads_ret _).mono ?_
          rintro e w1 ⟨rfl, hb⟩
          go_wp2_with fail
          go_ret
          exact ⟨rfl, hb⟩
        · have h3 : 1000000 < mx := by omega
          go_enter Try.func5, Try.ntmps5
          go_wp2_with fail
          refine (reads_ret _).mono ?_
          rintro e w1 ⟨rfl, hb⟩
          go_wp2_with fail
          go_ret
          exact ⟨rfl, hb⟩
    · have h1 : ¬ mn < 0 := by omega
      have h2 : ¬ mx < mn := by omega
      have h3 : ¬ 1000000 < mx := by omega
      clear hd
      obtain ⟨n, r, ok, hq⟩ : ∃ n r ok, numF l mn mx = (n, r, ok) := ⟨_, _, _, rfl⟩
      have HC1 := implNum_ret l mn mx (by omega)
      have HC2 := specNum_ret l mn mx (by omega) (by omega) (by omega)
      rw [hq] at HC1 HC2
      have HC1 := Lib.hid HC1
      have HC2 := Lib.hid HC2
      clear hq
      go_enter Try.func5, Try.ntmps5
      go_wp2_with fail
      refine (HC1.out _).mono ?_
      rintro e w1 ⟨rfl, hb1⟩
      unfold numV
      go_wp2_with fail
      refine (HC2.out _).mono ?_
      rintro e w2 ⟨rfl, hb2⟩
      unfold numV
      go_wp2_with fail
      refine (reads_ret _).mono ?_
      rintro e w3 ⟨rfl, hb3⟩
      go_wp2_with fail
      go_ret
      have hb : Below w.heap.size w w2 := hb1.trans (hb2.mono hb1.size)
      exact ⟨rfl, hb.trans (hb3.mono hb.size)⟩

theorem fnExactOffset_walk (l : Bs) : Ret 3 #[.string (S l)] (.bool true) := by
  intro w
  by_cases hl : (2147483647 : Int) < (l.length : Int)
  · go_enter Try.func3, Try.ntmps3
    go_wp2_with fail
    go_ret
    exact ⟨rfl, Below.refl _ _⟩
  · obtain ⟨n, r, ok, hq⟩ : ∃ n r ok, offF l = (n, r, ok) := ⟨_, _, _, rfl⟩
    have HC1 := OffsetOf_ret l
    have HC2 := specOffset_ret l (by omega)
    rw [hq] at HC1 HC2
    have HC1 := Lib.hid HC1
    have HC2 := Lib.hid HC2
    clear hq
    go_enter Try.func3, Try.ntmps3
    go_wp2_with fail
    refine (HC1.out _).mono ?_
    rintro e w1 ⟨rfl, hb1⟩
    unfold numV
    go_wp2_with fail
    refine (HC2.out _).mono ?_
    rintro e w2 ⟨rfl, hb2⟩
    unfold numV
    go_wp2_with fail
    refine (reads_ret _).mono ?_
    rintro e w3 ⟨rfl, hb3⟩
    go_wp2_with fail
    go_ret
    have hb : Below w.heap.size w w2 := hb1.trans (hb2.mono hb1.size)
    exact ⟨rfl, hb.trans (hb3.mono hb.size)⟩

end Go.Proofs.Ytkikpcfcjkgblaa
