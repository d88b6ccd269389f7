/- OffsetOf, reads, and the reference's Offset. -/
import Derived.Test.YtkikpcfcjkgblaaSpecNum
namespace Go.Proofs.Ytkikpcfcjkgblaa
open Go.RowKit

theorem TzsetOffset_ret (l : Bs) : Ret 43 #[.string (S l)] (numV (offF l)) := by
  intro w
  go_enter Try.func43, Try.ntmps43
  go_wp2_with fail
  refine (tzsetOffset_ret l _).mono ?_
  rintro e w1 ⟨rfl, hb⟩
  unfold numV
  go_wp2
  go_ret3
  exact ⟨rfl, hb⟩
theorem OffsetOf_ret (l : Bs) : Ret 18 #[.string (S l)] (numV (offF l)) := by
  intro w
  go_enter Try.func18, Try.ntmps18
  go_wp2_with fail
  refine (TzsetOffset_ret l _).mono ?_
  rintro e w1 ⟨rfl, hb⟩
  unfold numV
  go_wp2
  go_ret3
  exact ⟨rfl, hb⟩
theorem reads_ret : Ret 20 #[] (.bool true) := by
  intro w
  go_enter Try.func20, Try.ntmps20
  go_wp2_with fail
  refine (OffsetOf_ret [45, 49, 58, 51, 48, 44, 120] _).mono ?_
  rintro e w1 ⟨rfl, hb⟩
  rw [show offF [45, 49, 58, 51, 48, 44, 120] = (-5400, [44, 120], true) by decide]
  unfold numV
  go_wp2
  go_ret
  exact ⟨rfl, hb⟩

/-- the reference's loop over minutes and seconds: k units are still to come -/
def unitOf : Nat → Int
  | 0 => 0
  | 1 => 1
  | _ => 60
def offL : Nat → Int → Bs → Bool → Int × Bs × Bool
  | _, _, _, false => (0, [], false)
  | 0, n, r, true => (n, r, true)
  | k + 1, n, r, true => if r.head? = some 58 then offL k (n + (numF r.tail 0 59).1 * unitOf (k + 1)) (numF r.tail 0 59).2.1 (numF r.tail 0 59).2.2 else (n, r, true)
def signed (neg : Bool) (x : Int × Bs × Bool) : Int × Bs × Bool := if x.2.2 then (sgn neg x.1, x.2.1, true) else (0, [], false)
theorem offL_false (k : Nat) (n : Int) (r : Bs) : offL k n r false = (0, [], false) := by cases k <;> rfl
theorem offL_end (k : Nat) (n : Int) (r : Bs) (h : r.head? ≠ some 58) : offL k n r true = (n, r, true) := by
  cases k with
  | zero => rfl
  | succ k => simp [offL, h]
theorem offL_go (k : Nat) (n m : Int) (r r' : Bs) (ok : Bool) (h : numF r 0 59 = (m, r', ok)) : offL (k + 1) n (58 :: r) true = offL k (n + m * unitOf (k + 1)) r' ok := by
  simp [offL, h]
theorem offL_eq (neg : Bool) (l : Bs) : offA neg l = signed neg (offL 2 ((numF l 0 168).1 * 3600) (numF l 0 168).2.1 (numF l 0 168).2.2) := by
  unfold offA
  rcases numF l 0 168 with ⟨h, l2, ok⟩
  cases ok with
  | false => rfl
  | true =>
    simp only []
    by_cases h2 : l2.head? = some 58
    · rw [if_pos h2]
      simp only [offL, if_pos h2, offB]
      rcases numF l2.tail 0 59 with ⟨m, l3, ok3⟩
      cases ok3 with
      | false => rfl
      | true =>
        simp only []
        by_cases h3 : l3.head? = some 58
        · rw [if_pos h3]
          simp only [offL, if_pos h3, offC]
          rcases numF l3.tail 0 59 with ⟨sc, l4, ok4⟩
          cases ok4 with
          | false => rfl
          | true => simp [offL, signed, unitOf]
        · rw [if_neg h3]
          simp only [offL, if_neg h3]
          simp [signed, unitOf]
    · rw [if_neg h2]
      simp only [offL, if_neg h2]
      simp [signed]
theorem offF_eq (l : Bs) : offF l = signed (signOf l).1 (offL 2 ((numF (signOf l).2 0 168).1 * 3600) (numF (signOf l).2 0 168).2.1 (numF (signOf l).2 0 168).2.2) := by
  cases l with
  | nil => rfl
  | cons c cs => rw [offF, if_neg (by simp), offL_eq]

def sg (neg : Bool) : Int := if neg then -1 else 1
theorem sg_mul (neg : Bool) (n : Int) : sg neg * n = sgn neg n := by cases neg <;> simp [sg, sgn]

set_option maxHeartbeats 4000000 in
theorem specOffset_ret (l : Bs) (hl : l.length ≤ 4294967296) : Ret 19 #[.string (S l)] (numV (offF l)) := by
  intro w
  obtain ⟨neg, l1, hs⟩ : ∃ neg l1, signOf l = (neg, l1) := ⟨_, _, rfl⟩
  obtain ⟨h, l2, ok, hq⟩ : ∃ h l2 ok, numF l1 0 168 = (h, l2, ok) := ⟨_, _, _, rfl⟩
  have HV := Lib.hid (show offF l = signed neg (offL 2 (h * 3600) l2 ok) by rw [offF_eq, hs, hq])
  have hbd := numF_bd l1 0 168 (by omega)
  rw [hq] at hbd
  obtain ⟨hb1, hb2⟩ := hbd
  simp only [] at hb1 hb2
  have hl1 : l1.length ≤ 4294967296 := by
    have h1 : (signOf l).2.length ≤ l.length := by
      cases l with
      | nil => simp [signOf]
      | cons c cs => simp only [signOf]; split <;> (try split) <;> simp
    rw [hs] at h1; simp only [] at h1; omega
  have HC := Lib.hid (show Ret 24 #[.string (S l1), .int .i64 0, .int .i64 168] (.tuple #[.int .i64 h, .string (S l2), .bool ok]) by
    have := specNum_ret l1 0 168 hl1 (by omega) (by omega)
    rw [hq] at this
    exact this)
  have hl2 : l2.length ≤ 4294967296 := by
    have := numF_len l1 0 168
    rw [hq] at this; simp only [] at this; omega
  have HS := Lib.hid hs
  clear hs hq
  have fin : Hid (∀ (N : Int) (R : Bs) (k : Nat), offF l = signed neg (offL k N R true) → (k = 0 ∨ R.head? ≠ some 58) → offF l = (sgn neg N, R, true)) := by
    intro N R k e hk
    rw [e]
    rcases hk with rfl | hk
    · rfl
    · rw [offL_end _ _ _ hk]; rfl
  have finNo : Hid (∀ (N : Int) (R : Bs) (k : Nat), offF l = signed neg (offL k N R false) → offF l = (0, [], false)) := by
    intro N R k e
    rw [e, offL_false]; rfl
  have h45 : ∀ c : UInt8, ((c.toNat : Int) == 43) = true → ((c.toNat : Int) == 45) = false := by
    intro c h; rw [beq_iff_eq] at h; rw [beq_eq_false_iff_ne]; omega
  have hcs : (l = [] ∧ neg = false ∧ l1 = []) ∨ ∃ c cs, l = c :: cs ∧ ((((c.toNat : Int) == 43) = true ∧ ((c.toNat : Int) == 45) = false ∧ neg = false ∧ l1 = cs) ∨ (((c.toNat : Int) == 43) = false ∧ ((c.toNat : Int) == 45) = true ∧ neg = true ∧ l1 = cs) ∨
    (((c.toNat : Int) == 43) = false ∧ ((c.toNat : Int) == 45) = false ∧ neg = false ∧ l1 = c :: cs)) := by
    have hs := HS.out
    rcases l with _ | ⟨c, cs⟩
    · obtain ⟨rfl, rfl⟩ := Prod.mk.inj hs; exact .inl ⟨rfl, rfl, rfl⟩
    · refine .inr ⟨c, cs, rfl, ?_⟩
      rcases signOf_cases c cs with ⟨e1, e3⟩ | ⟨e1, e2, e3⟩ | ⟨e1, e2, e3⟩
      · obtain ⟨rfl, rfl⟩ := Prod.mk.inj (e3.symm.trans hs); exact .inl ⟨e1, h45 c e1, rfl, rfl⟩
      · obtain ⟨rfl, rfl⟩ := Prod.mk.inj (e3.symm.trans hs); exact .inr (.inl ⟨e1, e2, rfl, rfl⟩)
      · obtain ⟨rfl, rfl⟩ := Prod.mk.inj (e3.symm.trans hs); exact .inr (.inr ⟨e1, e2, rfl, rfl⟩)
  clear HS h45
  rcases hcs with ⟨rfl, rfl, rfl⟩ | ⟨c, cs, rfl, ⟨e1, e2, rfl, rfl⟩ | ⟨e1, e2, rfl, rfl⟩ | ⟨e1, e2, rfl, rfl⟩⟩
  all_goals
    go_enter Try.func19, Try.ntmps19
    go_wp2_with fail
    refine (HC.out _).mono ?_
    rintro e w1 ⟨rfl, hb⟩
    clear HC
    go_wp2_with fail
    go_loopw [6, 7, 8, 9] (fun n r o u w' => ∃ (k : Nat) (N : Int) (R : Bs) (O : Bool), k ≤ 2 ∧ n = .int .i64 N ∧ r = .string (S R) ∧ o = .bool O ∧ u = .int .i64 (unitOf k) ∧ 0 ≤ N ∧ N + 4000 * k ≤ 700000 ∧ R.length ≤ 4294967296 ∧ Hid (offF _ = signed _ (offL k N R O)) ∧ Below w.heap.size w w') (fun _ _ _ u _ => (intOf u).toNat)
    case atStart => exact ⟨2, _, _, _, by omega, rfl, rfl, rfl, rfl, by omega, by omega, hl2, HV, hb⟩
    case round =>
      clear HV hb hb1 hb2 hl2
      obtain ⟨k, N, R, O, hk, rfl, rfl, rfl, rfl, hN0, hN1, hR, HV, hb⟩ := hrel
      cases O with
      | false =>
        have HF := Lib.hid (finNo.out _ _ _ HV.out)
        clear HV fin finNo
        go_wp2_with fail
        go_ret3
        rw [HF.out]
        exact ⟨rfl, hb⟩
      | true =>
        rcases R with _ | ⟨d, ds⟩
        · have HF := Lib.hid (fin.out _ _ _ HV.out (.inr (by simp)))
          clear HV fin finNo
          obtain rfl | rfl | rfl : k = 0 ∨ k = 1 ∨ k = 2 := by omega
          all_goals
            simp only [unitOf]
            go_wp2_with fail
            go_ret3
            rw [HF.out]
            exact ⟨rfl, hb⟩
        · rcases byte_cases d 58 with ⟨rfl, hd⟩ | ⟨hd', hd⟩
          · obtain rfl | ⟨j, rfl⟩ : k = 0 ∨ ∃ j, k = j + 1 := by cases k; (exact .inl rfl); (exact .inr ⟨_, rfl⟩)
            · have HF := Lib.hid (fin.out _ _ _ HV.out (.inl rfl))
              clear HV fin finNo hd
              simp only [unitOf]
              go_wp2_with fail
              go_ret3
              rw [HF.out]
              exact ⟨rfl, hb⟩
            · obtain ⟨m, l3, ok3, hq3⟩ : ∃ m l3 ok3, numF ds 0 59 = (m, l3, ok3) := ⟨_, _, _, rfl⟩
              have hbd3 := numF_bd ds 0 59 (by omega)
              rw [hq3] at hbd3
              obtain ⟨hm1, hm2⟩ := hbd3
              simp only [] at hm1 hm2
              have hds : ds.length ≤ 4294967296 := by simp only [List.length_cons] at hR; omega
              have HC3 := Lib.hid (show Ret 24 #[.string (S ds), .int .i64 0, .int .i64 59] (.tuple #[.int .i64 m, .string (S l3), .bool ok3]) by
                have := specNum_ret ds 0 59 hds (by omega) (by omega)
                rw [hq3] at this
                exact this)
              have hl3 : l3.length ≤ 4294967296 := by
                have := numF_len ds 0 59
                rw [hq3] at this; simp only [] at this; omega
              have HV2 := Lib.hid (HV.out.trans (congrArg _ (offL_go j N m ds l3 ok3 hq3)))
              clear hq3 HV hd fin finNo
              obtain rfl | rfl : j = 0 ∨ j = 1 := by omega
              all_goals
                simp only [unitOf, Nat.zero_add, Nat.reduceAdd, Int.mul_one] at HV2 ⊢
                go_wp2_with fail
                refine (HC3.out _).mono ?_
                rintro e w2 ⟨rfl, hb'⟩
                have hb2' : Below w.heap.size w w2 := hb.trans (hb'.mono hb.size)
                clear HC3 hb'
                go_wp2_with fail
                go_roundw
                case rel => first | exact ⟨0, _, _, _, by omega, rfl, rfl, rfl, rfl, by omega, by omega, hl3, HV2, hb2'⟩ | exact ⟨1, _, _, _, by omega, rfl, rfl, rfl, rfl, by omega, by omega, hl3, HV2, hb2'⟩
                case measure => simp [intOf]
          · have HF := Lib.hid (fin.out _ _ _ HV.out (.inr (by simp [hd'])))
            clear HV fin finNo hd'
            change ((d.toNat : Int) == 58) = false at hd
            obtain rfl | rfl | rfl : k = 0 ∨ k = 1 ∨ k = 2 := by omega
            all_goals
              simp only [unitOf]
              go_wp2_with fail
              go_ret3
              rw [HF.out]
              exact ⟨rfl, hb⟩

end Go.Proofs.Ytkikpcfcjkgblaa
