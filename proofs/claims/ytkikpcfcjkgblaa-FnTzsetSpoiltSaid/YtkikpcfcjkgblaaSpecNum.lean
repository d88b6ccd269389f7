/- The reference's Digits, Num and Offset return what the plain functions compute. -/
import Derived.Test.YtkikpcfcjkgblaaOffset
namespace Go.Proofs.Ytkikpcfcjkgblaa
open Go.RowKit

theorem TzsetNum_ret (l : Bs) (mn mx : Int) (hx : mx ≤ 1000000) : Ret 46 #[.string (S l), .int .i64 mn, .int .i64 mx] (numV (numF l mn mx)) := by
  intro w
  go_enter Try.func46, Try.ntmps46
  go_wp2_with fail
  refine (tzsetNum_ret l mn mx hx _).mono ?_
  rintro e w1 ⟨rfl, hb⟩
  unfold numV
  go_wp2
  go_ret3
  exact ⟨rfl, hb⟩

theorem implNum_ret (l : Bs) (mn mx : Int) (hx : mx ≤ 1000000) : Ret 23 #[.string (S l), .int .i64 mn, .int .i64 mx] (numV (numF l mn mx)) := by
  intro w
  go_enter Try.func23, Try.ntmps23
  go_wp2_with fail
  refine (TzsetNum_ret l mn mx hx _).mono ?_
  rintro e w1 ⟨rfl, hb⟩
  unfold numV
  go_wp2
  go_ret3
  exact ⟨rfl, hb⟩

theorem cntDig_stop' (l : Bs) (n : Nat) (hn : cntDig l = n) (h : n < l.length) : ¬ (48 ≤ (l[n]'h).toNat ∧ (l[n]'h).toNat ≤ 57) := by
  subst hn; exact cntDig_stop l h

set_option maxHeartbeats 1000000 in
theorem Digits_ret (l : Bs) (hl : l.length ≤ 4294967296) : Ret 47 #[.string (S l)] (.tuple #[.string (S (l.takeWhile isDig)), .string (S (l.dropWhile isDig))]) := by
  intro w
  go_enter Try.func47, Try.ntmps47
  go_wp2
  go_loop [4] (fun i => ∃ k : Nat, k ≤ cntDig l ∧ i = .int .i64 k) (fun i => cntDig l - (intOf i).toNat)
  case atStart => exact ⟨0, Nat.zero_le _, rfl⟩
  case round =>
    obtain ⟨k, hk, rfl⟩ := hrel
    have hle := cntDig_le l
    by_cases hlt : k < cntDig l
    · have hlen : k < l.length := by omega
      obtain ⟨h1, h2⟩ := cntDig_lt l k hlen hlt
      have h3 : 48 ≤ (l[k].toNat : Int) := by omega
      have h4 : (l[k].toNat : Int) ≤ 57 := by omega
      clear h1 h2
      go_wp2
      go_round
      case rel => exact ⟨k + 1, by omega, by go_num⟩
      case measure => simp [intOf]; omega
    · obtain rfl : k = cntDig l := by omega
      have HT := Lib.hid (take_cnt l)
      have HD := Lib.hid (drop_cnt l)
      generalize hcn : cntDig l = n at *
      have HV := Lib.hid (show (Value.tuple #[.string (S (l.take n)), .string (S (l.drop n))]) = .tuple #[.string (S (l.takeWhile isDig)), .string (S (l.dropWhile isDig))] by rw [HT.out, HD.out])
      have e0 : 0 ≤ (n : Int) := by omega
      have e1 : (n : Int) ≤ (l.length : Int) := by omega
      by_cases hlen : n < l.length
      · have hs := cntDig_stop' l n hcn hlen
        clear hcn hlt HT HD hk
        by_cases h48 : 48 ≤ (l[n].toNat : Int)
        · have h57 : ¬ (l[n].toNat : Int) ≤ 57 := by omega
          clear hs
          go_wp2
          go_quiet (fail)
          go_wp2
          go_ret2
          rw [← HV.out]
          exact ⟨rfl, below_drewN (Below.refl _ _) _⟩
        · clear hs
          go_wp2
          go_quiet (fail)
          go_wp2
          go_ret2
          rw [← HV.out]
          exact ⟨rfl, below_drewN (Below.refl _ _) _⟩
      · clear hcn hlt HT HD hk
        go_wp2
        go_quiet (fail)
        go_wp2
        go_ret2
        rw [← HV.out]
        exact ⟨rfl, below_drewN (Below.refl _ _) _⟩

theorem specLoop_snoc (mx : Int) : ∀ (l : Bs) (n : Int) (c : UInt8), specLoop mx n (l ++ [c]) = if specLoop mx n l ≤ mx then specLoop mx n l * 10 + ((c.toNat : Int) - 48) else specLoop mx n l := by
  intro l
  induction l with
  | nil => intro n c; by_cases h : n ≤ mx <;> simp [specLoop, h]
  | cons d ds ih =>
    intro n c
    simp only [List.cons_append, specLoop]
    by_cases h : n ≤ mx
    · simp only [if_pos h]; exact ih _ _
    · simp only [if_neg h]
theorem specLoop_stop (mx : Int) : ∀ (l : Bs) (k : Nat) (n : Int), mx < specLoop mx n (l.take k) → specLoop mx n l = specLoop mx n (l.take k) := by
  intro l
  induction l with
  | nil => intro k n _; simp
  | cons d ds ih =>
    intro k n h
    cases k with
    | zero => simp only [List.take_zero, specLoop] at h ⊢; rw [if_neg (by omega)]
    | succ k =>
      simp only [List.take_succ_cons, specLoop] at h ⊢
      by_cases hn : n ≤ mx
      · simp only [if_pos hn] at h ⊢; exact ih k _ h
      · simp only [if_neg hn]
theorem takeWhile_dig (l : Bs) : ∀ c ∈ l.takeWhile isDig, 48 ≤ c.toNat ∧ c.toNat ≤ 57 := fun c hc => (isDig_iff c).1 (by
  induction l with
  | nil => simp at hc
  | cons d ds ih =>
    by_cases h : isDig d = true
    · rw [List.takeWhile_cons_of_pos h] at hc
      rcases List.mem_cons.1 hc with rfl | h'
      · exact h
      · exact ih h'
    · rw [List.takeWhile_cons_of_neg h] at hc; simp at hc)

set_option maxHeartbeats 1000000 in
theorem specNum_ret (l : Bs) (mn mx : Int) (hl : l.length ≤ 4294967296) (hx0 : 0 ≤ mx) (hx : mx ≤ 1000000) : Ret 24 #[.string (S l), .int .i64 mn, .int .i64 mx] (numV (numF l mn mx)) := by
  intro w
  have hN := (specNum_eq l mn mx hx0).symm
  unfold specNum at hN
  have hdg := takeWhile_dig l
  have hlen : (l.takeWhile isDig).length ≤ 4294967296 := Nat.le_trans (List.takeWhile_prefix _).length_le hl
  have HC := Lib.hid (Digits_ret l hl)
  generalize l.takeWhile isDig = d at *
  generalize l.dropWhile isDig = r at *
  generalize hF : numF l mn mx = F at *
  have HN := Lib.hid hN
  clear hN hF
  have HG := Lib.hid hdg
  clear hdg
  go_enter Try.func24, Try.ntmps24
  go_wp2_with fail
  refine (HC.out _).mono ?_
  rintro e w1 ⟨rfl, hb⟩
  clear HC
  go_wp2_with fail
  go_loop [11, 12] (fun n i => ∃ k : Nat, k ≤ d.length ∧ i = .int .i64 k ∧ n = .int .i64 (specLoop mx 0 (d.take k)) ∧ 0 ≤ specLoop mx 0 (d.take k) ∧ specLoop mx 0 (d.take k) ≤ 10000009) (fun _ i => d.length - (intOf i).toNat)
  case atStart => exact ⟨0, Nat.zero_le _, rfl, rfl, by simp [specLoop], by simp [specLoop]⟩
  case round =>
    obtain ⟨k, hk, rfl, rfl, hn0, hn1⟩ := hrel
    by_cases hlt : k < d.length
    · by_cases hm : specLoop mx 0 (d.take k) ≤ mx
      · have hd := HG.out d[k] (List.getElem_mem hlt)
        have HS := Lib.hid (show specLoop mx 0 (d.take (k + 1)) = specLoop mx 0 (d.take k) * 10 + ((d[k].toNat : Int) - 48) by
          rw [List.take_succ_eq_append_getElem hlt, specLoop_snoc, if_pos hm])
        have h1 : 48 ≤ (d[k].toNat : Int) := by omega
        have h2 : (d[k].toNat : Int) ≤ 57 := by omega
        clear hd
        go_wp2_with fail
        go_round
        case rel => exact ⟨k + 1, by omega, by go_num, by rw [HS.out], by rw [HS.out]; omega, by rw [HS.out]; omega⟩
        case measure => simp [intOf]; omega
      · have HF := Lib.hid (show F = (0, [], false) by
          rw [HN.out, if_pos]; right; right; rw [specLoop_stop mx d k 0 (by omega)]; omega)
        have hne : d.isEmpty = false := by cases d; simp at hlt; rfl
        have hne' : d ≠ [] := by cases d; simp at hlt; simp
        generalize specLoop mx 0 (d.take k) = n at *
        by_cases hmn : n < mn
        · go_wp2_with fail
          go_ret3
          rw [HF.out]
          exact ⟨rfl, hb⟩
        · go_wp2_with fail
          go_ret3
          rw [HF.out]
          exact ⟨rfl, hb⟩
    · obtain rfl : k = d.length := by omega
      rw [List.take_length] at *
      generalize specLoop mx 0 d = n at *
      by_cases hne : d = []
      · subst hne
        have HF := Lib.hid (show F = (0, [], false) by rw [HN.out, if_pos (.inl rfl)])
        go_wp2_with fail
        go_ret3
        rw [HF.out]
        exact ⟨rfl, hb⟩
      · have hne' : d.isEmpty = false := by cases d; simp at hne; rfl
        by_cases hmn : n < mn
        · have HF := Lib.hid (show F = (0, [], false) by rw [HN.out, if_pos]; right; left; exact hmn)
          go_wp2_with fail
          go_ret3
          rw [HF.out]
          exact ⟨rfl, hb⟩
        · by_cases hmx : mx < n
          · have HF := Lib.hid (show F = (0, [], false) by rw [HN.out, if_pos]; right; right; exact hmx)
            go_wp2_with fail
            go_ret3
            rw [HF.out]
            exact ⟨rfl, hb⟩
          · have HF := Lib.hid (show F = (n, r, true) by rw [HN.out, if_neg]; rintro (h | h | h); (exact hne h); (exact hmn h); (exact hmx h))
            go_wp2_with fail
            go_ret3
            rw [HF.out]
            exact ⟨rfl, hb⟩

end Go.Proofs.Ytkikpcfcjkgblaa
