/- FnExactName and FnNameShort: their walks. -/
import Derived.Test.YtkikpcfcjkgblaaPlainD
namespace Go.Proofs.Ytkikpcfcjkgblaa
open Go.RowKit

theorem NameOf_nameT (n r : Bs) (hl : (nameT n ++ r).length ≤ 4294967296) (hn : brackB n = true) (hr : namedB n = true → nameEnd r) : Ret 27 #[.string (S (nameT n ++ r))] (.tuple #[.string (S n), .string (S r), .bool true]) := by
  have := NameOf_ret (nameT n ++ r) hl
  rw [nameF_nameT n r hn hr] at this
  exact this

set_option maxHeartbeats 4000000 in
theorem fnExactName_walk (n r : Bs) : Ret 6 #[.string (S n), .string (S r)] (.bool true) := by
  intro w
  by_cases hl : (2147483647 : Int) < (n.length : Int)
  · go_enter Try.func6, Try.ntmps6
    go_wp2_with fail
    go_ret
    exact ⟨rfl, Below.refl _ _⟩
  by_cases hl2 : (2147483647 : Int) < (r.length : Int)
  · go_enter Try.func6, Try.ntmps6
    go_wp2_with fail
    go_ret
    exact ⟨rfl, Below.refl _ _⟩
  have HB := Bracketed_ret n (by omega)
  have HN := Named_ret n (by omega)
  have HT := Lib.hid (specName_ret n (by omega))
  cases hb : brackB n
  · rw [hb] at HB
    have HB := Lib.hid HB
    clear hb HN
    go_enter Try.func6, Try.ntmps6
    go_wp2_with fail
    refine (HB.out _).mono ?_
    rintro e w1 ⟨rfl, hb1'⟩
    have hb1 : Below w.heap.size w w1 := hb1'
    clear hb1'
    go_wp2_with fail
    refine (reads_ret _).mono ?_
    rintro e w2 ⟨rfl, hb2'⟩
    have hb2 : Below w.heap.size w w2 := hb1.trans (hb2'.mono hb1.size)
    clear hb2'
    go_wp2_with fail
    go_ret
    exact ⟨rfl, hb2⟩
  rw [hb] at HB
  have HB := Lib.hid HB
  have hlen := brackB_len n hb
  have hlT := nameT_len n
  have hlT2 : (nameT n ++ r).length ≤ 4294967296 := by rw [List.length_append]; omega
  have hn100 : n.length ≤ 100 := hlen.2
  clear hlen
  cases hn : namedB n
  · rw [hn] at HN
    have HN := Lib.hid HN
    have HO := Lib.hid (NameOf_nameT n r hlT2 hb (fun h => by rw [hn] at h; cases h))
    clear hb hn hlT2
    go_enter Try.func6, Try.ntmps6
    go_wp2_with fail
    refine (HB.out _).mono ?_
    rintro e w1 ⟨rfl, hb1'⟩
    have hb1 : Below w.heap.size w w1 := hb1'
    clear hb1'
    go_wp2_with fail
    refine (HN.out _).mono ?_
    rintro e w2 ⟨rfl, hb2'⟩
    have hb2 : Below w.heap.size w w2 := hb1.trans (hb2'.mono hb1.size)
    clear hb2'
    go_wp2_with fail
    refine (HT.out _).mono ?_
    rintro e w3 ⟨rfl, hb3'⟩
    have hb3 : Below w.heap.size w w3 := hb2.trans (hb3'.mono hb2.size)
    clear hb3'
    go_wp2_with fail
    refine (HO.out _).mono ?_
    rintro e w4 ⟨rfl, hb4'⟩
    have hb4 : Below w.heap.size w w4 := hb3.trans (hb4'.mono hb3.size)
    clear hb4'
    go_wp2_with fail
    go_ret
    exact ⟨rfl, hb4⟩
  rw [hn] at HN
  have HN := Lib.hid HN
  by_cases hr0 : r = []
  · subst hr0
    have HO := Lib.hid (NameOf_nameT n [] hlT2 hb (fun _ c hc => by simp at hc))
    rw [List.append_nil] at HO
    clear hb hn hlT2 hl2
    go_enter Try.func6, Try.ntmps6
    go_wp2_with fail
    refine (HB.out _).mono ?_
    rintro e w1 ⟨rfl, hb1'⟩
    have hb1 : Below w.heap.size w w1 := hb1'
    clear hb1'
    go_wp2_with fail
    refine (HN.out _).mono ?_
    rintro e w2 ⟨rfl, hb2'⟩
    have hb2 : Below w.heap.size w w2 := hb1.trans (hb2'.mono hb1.size)
    clear hb2'
    go_wp2_with fail
    refine (HT.out _).mono ?_
    rintro e w3 ⟨rfl, hb3'⟩
    have hb3 : Below w.heap.size w w3 := hb2.trans (hb3'.mono hb2.size)
    clear hb3'
    go_wp2_with fail
    refine (HO.out _).mono ?_
    rintro e w4 ⟨rfl, hb4'⟩
    have hb4 : Below w.heap.size w w4 := hb3.trans (hb4'.mono hb3.size)
    clear hb4'
    go_wp2_with fail
    go_ret
    exact ⟨rfl, hb4⟩
  have hp : 0 < r.length := List.length_pos_iff.2 hr0
  have hne : r.isEmpty = false := by cases r; simp at hp; rfl
  have hh : r.head? = some r[0] := by cases r; simp at hp; rfl
  cases hs : nameStop r[0].toNat
  · have hcs := end_no _ hs
    clear hs hb hn hlT2 hh
    rcases hcs with ⟨c1, c2, c3, c4, c5⟩ | ⟨c1, c2, c3, c4, c5⟩
    all_goals
      go_enter Try.func6, Try.ntmps6
      go_wp2_with fail
      refine (HB.out _).mono ?_
      rintro e w1 ⟨rfl, hb1'⟩
      have hb1 : Below w.heap.size w w1 := hb1'
      clear hb1'
      go_wp2_with fail
      refine (HN.out _).mono ?_
      rintro e w2 ⟨rfl, hb2'⟩
      have hb2 : Below w.heap.size w w2 := hb1.trans (hb2'.mono hb1.size)
      clear hb2'
      go_wp2_with fail
      refine (reads_ret _).mono ?_
      rintro e w3 ⟨rfl, hb3'⟩
      have hb3 : Below w.heap.size w w3 := hb2.trans (hb3'.mono hb2.size)
      clear hb3'
      go_wp2_with fail
      go_ret
      exact ⟨rfl, hb3⟩
  · have HO := Lib.hid (NameOf_nameT n r hlT2 hb (fun _ c hc => by rw [hh] at hc; injection hc with hc; subst hc; exact hs))
    have hcs := end_yes _ hs
    clear hs hb hn hlT2 hh
    rcases hcs with ⟨c1, c2, c3, c4, c5⟩ | ⟨c1, c2, c3, c4, c5⟩ | ⟨c1, c2, c3, c4, c5⟩ | ⟨c1, c2, c3, c4, c5⟩
    all_goals
      go_enter Try.func6, Try.ntmps6
      go_wp2_with fail
      refine (HB.out _).mono ?_
      rintro e w1 ⟨rfl, hb1'⟩
      have hb1 : Below w.heap.size w w1 := hb1'
      clear hb1'
      go_wp2_with fail
      refine (HN.out _).mono ?_
      rintro e w2 ⟨rfl, hb2'⟩
      have hb2 : Below w.heap.size w w2 := hb1.trans (hb2'.mono hb1.size)
      clear hb2'
      go_wp2_with fail
      refine (HT.out _).mono ?_
      rintro e w3 ⟨rfl, hb3'⟩
      have hb3 : Below w.heap.size w w3 := hb2.trans (hb3'.mono hb2.size)
      clear hb3'
      go_wp2_with fail
      refine (HO.out _).mono ?_
      rintro e w4 ⟨rfl, hb4'⟩
      have hb4 : Below w.heap.size w w4 := hb3.trans (hb4'.mono hb3.size)
      clear hb4'
      go_wp2_with fail
      go_ret
      exact ⟨rfl, hb4⟩

set_option maxHeartbeats 4000000 in
theorem fnNameShort_walk (n r : Bs) : Ret 7 #[.string (S n), .string (S r)] (.bool true) := by
  intro w
  by_cases hl : (2147483647 : Int) < (n.length : Int)
  · go_enter Try.func7, Try.ntmps7
    go_wp2_with fail
    go_ret
    exact ⟨rfl, Below.refl _ _⟩
  by_cases hl2 : (2147483647 : Int) < (r.length : Int)
  · go_enter Try.func7, Try.ntmps7
    go_wp2_with fail
    go_ret
    exact ⟨rfl, Below.refl _ _⟩
  by_cases h2 : (2 : Int) < (n.length : Int)
  · go_enter Try.func7, Try.ntmps7
    go_wp2_with fail
    refine (reads_ret _).mono ?_
    rintro e w1 ⟨rfl, hb1'⟩
    have hb1 : Below w.heap.size w w1 := hb1'
    clear hb1'
    go_wp2_with fail
    go_ret
    exact ⟨rfl, hb1⟩
  have hn2 : n.length ≤ 2 := by omega
  have hlT : (n ++ r).length ≤ 4294967296 := by rw [List.length_append]; omega
  have HO := NameOf_ret (n ++ r) hlT
  clear hlT
  obtain ⟨x, y, z, hq⟩ : ∃ x y z, nameF (n ++ r) = (x, y, z) := ⟨_, _, _, rfl⟩
  have hz : Hid ((∀ c ∈ n, letB c = true) → nameEnd r → z = false) := fun a b => by have := nameF_short n r hn2 a b; rw [hq] at this; exact this
  rw [hq] at HO
  have HO := Lib.hid HO
  clear hq
  by_cases hr0 : r = []
  · subst hr0
    rw [List.append_nil] at HO
    clear hl2
    go_enter Try.func7, Try.ntmps7
    go_wp2_with fail
    go_loop [5] (fun i => ∃ k : Nat, k ≤ n.length ∧ i = .int .i64 k ∧ Hid ((n.take k).all letB = true)) (fun i => n.length - (intOf i).toNat)
    case atStart => exact ⟨0, Nat.zero_le _, rfl, by simp [Hid]⟩
    case round =>
      obtain ⟨k, hk, rfl, HA⟩ := hrel
      by_cases hlt : k < n.length
      · by_cases hc : letB n[k] = true
        · have HA' := Lib.hid (all_take_succ letB n k hlt HA.out hc)
          have hcs := letB_yes _ hc
          clear HA hc
          rcases hcs with ⟨c1, c2, c3, c4⟩ | ⟨c1, c2, c3, c4⟩
          all_goals
            go_wp2_with fail
            go_round
            case rel => exact ⟨k + 1, by omega, by go_num, HA'⟩
            case measure => simp [intOf]; omega
        · have hcs := letB_no _ hc
          clear HA hc HO hz
          rcases hcs with ⟨c1, c2, c3, c4⟩ | ⟨c1, c2, c3, c4⟩ | ⟨c1, c2, c3, c4⟩
          all_goals
            go_wp2_with fail
            refine (reads_ret _).mono ?_
            rintro e w1 ⟨rfl, hb1'⟩
            have hb1 : Below w.heap.size w w1 := hb1'
            clear hb1'
            go_wp2_with fail
            go_ret
            exact ⟨rfl, hb1⟩
      · have hall : ∀ c ∈ n, letB c = true := by
          have := HA.out
          rw [List.take_of_length_le (by omega)] at this
          simpa using this
        obtain rfl := hz.out hall (fun c hc => by simp at hc)
        clear HA hz hall
        go_wp2_with fail
        refine (HO.out _).mono ?_
        rintro e w1 ⟨rfl, hb1'⟩
        have hb1 : Below w.heap.size w w1 := hb1'
        clear hb1'
        unfold nameV
        go_wp2_with fail
        refine (reads_ret _).mono ?_
        rintro e w2 ⟨rfl, hb2'⟩
        have hb2 : Below w.heap.size w w2 := hb1.trans (hb2'.mono hb1.size)
        clear hb2'
        go_wp2_with fail
        go_ret
        exact ⟨rfl, hb2⟩
  have hp : 0 < r.length := List.length_pos_iff.2 hr0
  have hne : r.isEmpty = false := by cases r; simp at hp; rfl
  have hh : r.head? = some r[0] := by cases r; simp at hp; rfl
  cases hs : nameStop r[0].toNat
  · have hcs := end_no _ hs
    clear hs hh HO hz
    rcases hcs with ⟨c1, c2, c3, c4, c5⟩ | ⟨c1, c2, c3, c4, c5⟩
    all_goals
      go_enter Try.func7, Try.ntmps7
      go_wp2_with fail
      refine (reads_ret _).mono ?_
      rintro e w1 ⟨rfl, hb1'⟩
      have hb1 : Below w.heap.size w w1 := hb1'
      clear hb1'
      go_wp2_with fail
      go_ret
      exact ⟨rfl, hb1⟩
  · have hend : Hid (nameEnd r) := fun c hc => by rw [hh] at hc; injection hc with hc; subst hc; exact hs
    have hcs := end_yes _ hs
    clear hs hh
    rcases hcs with ⟨c1, c2, c3, c4, c5⟩ | ⟨c1, c2, c3, c4, c5⟩ | ⟨c1, c2, c3, c4, c5⟩ | ⟨c1, c2, c3, c4, c5⟩
    all_goals
      go_enter Try.func7, Try.ntmps7
      go_wp2_with fail
      go_loop [5] (fun i => ∃ k : Nat, k ≤ n.length ∧ i = .int .i64 k ∧ Hid ((n.take k).all letB = true)) (fun i => n.length - (intOf i).toNat)
      case atStart => exact ⟨0, Nat.zero_le _, rfl, by simp [Hid]⟩
      case round =>
        obtain ⟨k, hk, rfl, HA⟩ := hrel
        by_cases hlt : k < n.length
        · by_cases hc : letB n[k] = true
          · have HA' := Lib.hid (all_take_succ letB n k hlt HA.out hc)
            have hcs := letB_yes _ hc
            clear HA hc
            rcases hcs with ⟨c1, c2, c3, c4⟩ | ⟨c1, c2, c3, c4⟩
            all_goals
              go_wp2_with fail
              go_round
              case rel => exact ⟨k + 1, by omega, by go_num, HA'⟩
              case measure => simp [intOf]; omega
          · have hcs := letB_no _ hc
            clear HA hc HO hz
            rcases hcs with ⟨c1, c2, c3, c4⟩ | ⟨c1, c2, c3, c4⟩ | ⟨c1, c2, c3, c4⟩
            all_goals
              go_wp2_with fail
              refine (reads_ret _).mono ?_
              rintro e w1 ⟨rfl, hb1'⟩
              have hb1 : Below w.heap.size w w1 := hb1'
              clear hb1'
              go_wp2_with fail
              go_ret
              exact ⟨rfl, hb1⟩
        · have hall : ∀ c ∈ n, letB c = true := by
            have := HA.out
            rw [List.take_of_length_le (by omega)] at this
            simpa using this
          obtain rfl := hz.out hall (hend.out)
          clear HA hz hall
          go_wp2_with fail
          refine (HO.out _).mono ?_
          rintro e w1 ⟨rfl, hb1'⟩
          have hb1 : Below w.heap.size w w1 := hb1'
          clear hb1'
          unfold nameV
          go_wp2_with fail
          refine (reads_ret _).mono ?_
          rintro e w2 ⟨rfl, hb2'⟩
          have hb2 : Below w.heap.size w w2 := hb1.trans (hb2'.mono hb1.size)
          clear hb2'
          go_wp2_with fail
          go_ret
          exact ⟨rfl, hb2⟩

end Go.Proofs.Ytkikpcfcjkgblaa
