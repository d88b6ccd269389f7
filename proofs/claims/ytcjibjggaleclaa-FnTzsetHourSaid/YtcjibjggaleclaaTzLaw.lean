/- Plain laws: a text of two zones and their rules is read back; the year and its seconds; which zone is in use. -/
import Derived.Test.YtcjibjggaleclaaTzsetP
import Derived.Test.YtcjibjggaleclaaPlainD
import Derived.Test.YtcjibjggaleclaaPlainF
import Derived.Test.YtcjibjggaleclaaSpecRT
namespace Go.Proofs.Ytcjibjggaleclaa
open Go.RowKit

theorem dig_stop (d : Int) (h0 : 0 ≤ d) (h1 : d ≤ 9) : nameStop (dig d).toNat = true := by
  have h := dig_toNat d h0 h1
  simp only [nameStop, Bool.or_eq_true, Bool.and_eq_true, decide_eq_true_eq]
  omega
theorem clkT_head (n : Int) (whole : Bool) : ∃ c cs, clkT n whole = c :: cs ∧ nameStop c.toNat = true ∧ c ≠ 44 := by
  unfold clkT
  split
  · exact ⟨45, _, rfl, by decide, by decide⟩
  · obtain ⟨d, cs, h, a, b⟩ := clkA_head n whole
    refine ⟨_, _, h, dig_stop d a b, ?_⟩
    have hd := dig_toNat d a b
    intro e
    rw [e] at hd
    change (44 : Int) = _ at hd
    omega
theorem nameEnd_clk (n : Int) (whole : Bool) (r : Bs) : nameEnd (clkT n whole ++ r) := by
  obtain ⟨c, cs, h, hs, _⟩ := clkT_head n whole
  intro d hd
  rw [h] at hd
  simp at hd
  subst hd
  exact hs
theorem nameEnd_44 (r : Bs) : nameEnd (44 :: r) := by
  intro d hd
  simp at hd
  subst hd
  decide
theorem nameEnd_nil : nameEnd [] := by
  intro d hd
  simp at hd
theorem nameT_head (n : Bs) (h : brackB n = true) : ∃ c cs, nameT n = c :: cs ∧ 57 < c.toNat ∧ c ≠ 58 ∧ c ≠ 44 := by
  unfold nameT
  cases hn : namedB n
  · exact ⟨60, _, rfl, by decide, by decide, by decide⟩
  · have hl := brackB_len n h
    have ha := namedB_all n hn
    cases n with
    | nil => simp at hl
    | cons c cs =>
      have hc := ha c (by simp)
      refine ⟨c, cs, rfl, ?_, ?_, ?_⟩
      · simp [letB] at hc; omega
      · intro e; subst e; revert hc; decide
      · intro e; subst e; revert hc; decide
theorem noClk_name (n r : Bs) (h : brackB n = true) : noClk (nameT n ++ r) := by
  obtain ⟨c, cs, e, h1, h2, _⟩ := nameT_head n h
  rw [e]
  exact ⟨noDig_cons (.inr h1), by simpa using h2⟩
theorem noClk_44 (r : Bs) : noClk (44 :: r) := ⟨noDig_cons (by decide), by simp⟩
theorem noClk_nil : noClk [] := ⟨noDig_nil, by simp⟩
theorem noRul_44 (r : Bs) : noRul (44 :: r) := ⟨noClk_44 r, by simp⟩
theorem head_name (n r : Bs) (h : brackB n = true) : ¬ (nameT n ++ r = [] ∨ (nameT n ++ r).head? = some 44) := by
  obtain ⟨c, cs, e, _, _, h3⟩ := nameT_head n h
  rw [e]
  simp [h3]
theorem head_clk (n : Int) (whole : Bool) (r : Bs) : ¬ (clkT n whole ++ r = [] ∨ (clkT n whole ++ r).head? = some 44) := by
  obtain ⟨c, cs, e, _, h3⟩ := clkT_head n whole
  rw [e]
  simp [h3]

theorem tzA_start (n : Bs) (o : Int) (whole : Bool) (r : Bs) (hn : brackB n = true) (h0 : -86400 ≤ o) (h1 : o ≤ 86400) (hr : noClk r) :
    tzA (nameT n ++ (clkT (-o) whole ++ r)) = if r = [] ∨ r.head? = some 44 then some (n, o, none) else tzB n o r := by
  rw [tzA, nameF_nameT n _ hn (fun _ => nameEnd_clk _ _ _)]
  simp only []
  rw [offF_clk _ _ _ (by omega) (by omega) hr]
  simp only [Int.neg_neg]
theorem tzB_off (sn : Bs) (so : Int) (n : Bs) (o : Int) (whole : Bool) (r : Bs) (hn : brackB n = true) (h0 : -86400 ≤ o) (h1 : o ≤ 86400) (hr : noClk r) :
    tzB sn so (nameT n ++ (clkT (-o) whole ++ r)) = tzC sn so n o r := by
  rw [tzB, nameF_nameT n _ hn (fun _ => nameEnd_clk _ _ _)]
  simp only []
  rw [if_neg (head_clk _ _ _), offF_clk _ _ _ (by omega) (by omega) hr]
  simp only [Int.neg_neg]
theorem tzB_hour (sn : Bs) (so : Int) (n : Bs) (r : Bs) (hn : brackB n = true) :
    tzB sn so (nameT n ++ 44 :: r) = tzC sn so n (so + 3600) (44 :: r) := by
  rw [tzB, nameF_nameT n _ hn (fun _ => nameEnd_44 _)]
  simp only []
  rw [if_pos (by simp)]
theorem tzC_44 (sn : Bs) (so : Int) (dn : Bs) (dd : Int) (l : Bs) : tzC sn so dn dd (44 :: l) = tzR1 sn so dn dd l := by simp [tzC]
theorem tzR1_back (sn : Bs) (so : Int) (dn : Bs) (dd : Int) (r : Ru) (whole : Bool) (l : Bs) (h : ruOk r = true) : tzR1 sn so dn dd (ruT r whole ++ 44 :: l) = tzR2 sn so dn dd r l := by
  rw [tzR1, ruleF_back r whole _ h (noRul_44 l)]
  simp
theorem tzR2_back (sn : Bs) (so : Int) (dn : Bs) (dd : Int) (r1 r : Ru) (whole : Bool) (h : ruOk r = true) : tzR2 sn so dn dd r1 (ruT r whole) = some (sn, so, some (dn, dd, r1, r)) := by
  have := ruleF_back r whole [] h noRul_nil
  rw [List.append_nil] at this
  rw [tzR2, this]

/-- a whole text is read back -/
def txtF (n1 : Bs) (o1 : Int) (n2 : Bs) (o2 : Int) (r1 r2 : Ru) (whole : Bool) : Bs :=
  nameT n1 ++ (clkT (-o1) whole ++ (nameT n2 ++ (clkT (-o2) whole ++ (44 :: (ruT r1 whole ++ 44 :: ruT r2 whole)))))
theorem tzA_text (n1 : Bs) (o1 : Int) (n2 : Bs) (o2 : Int) (r1 r2 : Ru) (whole : Bool) (h1 : brackB n1 = true) (h2 : brackB n2 = true) (a0 : -86400 ≤ o1) (a1 : o1 ≤ 86400) (b0 : -86400 ≤ o2) (b1 : o2 ≤ 86400) (k1 : ruOk r1 = true) (k2 : ruOk r2 = true) :
    tzA (txtF n1 o1 n2 o2 r1 r2 whole) = some (n1, o1, some (n2, o2, r1, r2)) := by
  rw [txtF, tzA_start _ _ _ _ h1 a0 a1 (noClk_name _ _ h2), if_neg (head_name _ _ h2), tzB_off _ _ _ _ _ _ h2 b0 b1 (noClk_44 _), tzC_44, tzR1_back _ _ _ _ _ _ _ k1, tzR2_back _ _ _ _ _ _ _ k2]
def hourF (n1 : Bs) (o1 : Int) (n2 : Bs) (r1 r2 : Ru) : Bs :=
  nameT n1 ++ (clkT (-o1) false ++ (nameT n2 ++ (44 :: (ruT r1 false ++ 44 :: ruT r2 false))))
theorem tzA_hour (n1 : Bs) (o1 : Int) (n2 : Bs) (r1 r2 : Ru) (h1 : brackB n1 = true) (h2 : brackB n2 = true) (a0 : -86400 ≤ o1) (a1 : o1 ≤ 86400) (k1 : ruOk r1 = true) (k2 : ruOk r2 = true) :
    tzA (hourF n1 o1 n2 r1 r2) = some (n1, o1, some (n2, o1 + 3600, r1, r2)) := by
  rw [hourF, tzA_start _ _ _ _ h1 a0 a1 (noClk_name _ _ h2), if_neg (head_name _ _ h2), tzB_hour _ _ _ _ h2, tzC_44, tzR1_back _ _ _ _ _ _ _ k1, tzR2_back _ _ _ _ _ _ _ k2]
def usuF (n1 : Bs) (o1 : Int) (n2 : Bs) (o2 : Int) : Bs :=
  nameT n1 ++ (clkT (-o1) false ++ (nameT n2 ++ clkT (-o2) false))
theorem dflt_rules (sn : Bs) (so : Int) (dn : Bs) (dd : Int) : tzC sn so dn dd [] = some (sn, so, some (dn, dd, ⟨2, 0, 2, 3, 7200⟩, ⟨2, 0, 1, 11, 7200⟩)) := by
  have e1 : ruT ⟨2, 0, 2, 3, 7200⟩ false = [77, 51, 46, 50, 46, 48] := by decide
  have e2 : ruT ⟨2, 0, 1, 11, 7200⟩ false = [77, 49, 49, 46, 49, 46, 48] := by decide
  have h1 : tzC sn so dn dd [] = tzR1 sn so dn dd (ruT ⟨2, 0, 2, 3, 7200⟩ false ++ 44 :: ruT ⟨2, 0, 1, 11, 7200⟩ false) := by
    rw [e1, e2]; simp [tzC, tzDflt]
  rw [h1, tzR1_back _ _ _ _ _ _ _ (by decide), tzR2_back _ _ _ _ _ _ _ (by decide)]
theorem tzA_usual (n1 : Bs) (o1 : Int) (n2 : Bs) (o2 : Int) (h1 : brackB n1 = true) (h2 : brackB n2 = true) (a0 : -86400 ≤ o1) (a1 : o1 ≤ 86400) (b0 : -86400 ≤ o2) (b1 : o2 ≤ 86400) :
    tzA (usuF n1 o1 n2 o2) = some (n1, o1, some (n2, o2, ⟨2, 0, 2, 3, 7200⟩, ⟨2, 0, 1, 11, 7200⟩)) := by
  have e := tzB_off n1 o1 n2 o2 false [] h2 b0 b1 noClk_nil
  rw [List.append_nil] at e
  rw [usuF, tzA_start _ _ _ _ h1 a0 a1 (noClk_name _ _ h2), if_neg (head_name _ _ h2), e, dflt_rules]
theorem tzA_fixed (n1 : Bs) (o1 : Int) (h1 : brackB n1 = true) (a0 : -86400 ≤ o1) (a1 : o1 ≤ 86400) : tzA (nameT n1 ++ clkT (-o1) false) = some (n1, o1, none) := by
  have e := tzA_start n1 o1 false [] h1 a0 a1 noClk_nil
  rw [List.append_nil] at e
  rw [e, if_pos (.inl rfl)]
theorem tzA_nil : tzA [] = none := rfl
theorem tzA_cut1 (n1 : Bs) (h1 : brackB n1 = true) : tzA (nameT n1) = none := by
  have := nameF_nameT n1 [] h1 (fun _ => nameEnd_nil)
  rw [List.append_nil] at this
  rw [tzA, this]
  rfl
def cutF (n1 : Bs) (o1 : Int) (n2 : Bs) (o2 : Int) (l : Bs) : Bs :=
  nameT n1 ++ (clkT (-o1) true ++ (nameT n2 ++ (clkT (-o2) true ++ (44 :: l))))
theorem tzA_cut (n1 : Bs) (o1 : Int) (n2 : Bs) (o2 : Int) (l : Bs) (h1 : brackB n1 = true) (h2 : brackB n2 = true) (a0 : -86400 ≤ o1) (a1 : o1 ≤ 86400) (b0 : -86400 ≤ o2) (b1 : o2 ≤ 86400) : tzA (cutF n1 o1 n2 o2 l) = tzR1 n1 o1 n2 o2 l := by
  rw [cutF, tzA_start _ _ _ _ h1 a0 a1 (noClk_name _ _ h2), if_neg (head_name _ _ h2), tzB_off _ _ _ _ _ _ h2 b0 b1 (noClk_44 _), tzC_44]
theorem tzA_cut2 (n1 : Bs) (o1 : Int) (n2 : Bs) (o2 : Int) (h1 : brackB n1 = true) (h2 : brackB n2 = true) (a0 : -86400 ≤ o1) (a1 : o1 ≤ 86400) (b0 : -86400 ≤ o2) (b1 : o2 ≤ 86400) : tzA (cutF n1 o1 n2 o2 []) = none := by
  rw [tzA_cut _ _ _ _ _ h1 h2 a0 a1 b0 b1]; rfl
theorem tzA_cut3 (n1 : Bs) (o1 : Int) (n2 : Bs) (o2 : Int) (r : Ru) (h1 : brackB n1 = true) (h2 : brackB n2 = true) (a0 : -86400 ≤ o1) (a1 : o1 ≤ 86400) (b0 : -86400 ≤ o2) (b1 : o2 ≤ 86400) (k : ruOk r = true) : tzA (cutF n1 o1 n2 o2 (ruT r true ++ [44])) = none := by
  rw [tzA_cut _ _ _ _ _ h1 h2 a0 a1 b0 b1, tzR1_back _ _ _ _ _ _ _ k]; rfl

/-- the start of a year in seconds since 1970 -/
def ystF (y : Int) : Int := (ahead y - 719162) * 86400
theorem ystF_succ (y : Int) : ystF (y + 1) = ystF y + (365 + lp y) * 86400 := by
  unfold ystF; rw [ahead_succ]; omega
theorem ahead_mono (a b : Int) (h : a ≤ b) : ahead a ≤ ahead b := by unfold ahead; omega
theorem ystF_mono (a b : Int) (h : a ≤ b) : ystF a ≤ ystF b := by
  have := ahead_mono a b h
  unfold ystF; omega
theorem absF_eq (sec : Int) (h0 : 0 ≤ sec) (h1 : sec ≤ 253402300799) : absF sec = sec + 9223372028741760000 := by
  unfold absF wrap64
  rw [IntKind.wrap_u64]
  omega
theorem year_law (sec : Int) (h0 : 0 ≤ sec) (h1 : sec ≤ 253402300799) :
    ystF (tzYear sec) + tzYsec sec = sec ∧ 0 ≤ tzYsec sec ∧ tzYsec sec < (365 + lp (tzYear sec)) * 86400 ∧ tzYst sec = ystF (tzYear sec) ∧ 1970 ≤ tzYear sec ∧ tzYear sec ≤ 9999 := by
  have e := absF_eq sec h0 h1
  have hn : absF sec / 86400 = sec / 86400 + 106751991073400 := by rw [e]; omega
  have hd := date_law (absF sec / 86400) (by rw [hn]; omega)
  unfold tzYst tzYsec tzYear
  rw [Int.tmod_eq_emod_of_nonneg h0]
  generalize absF sec / 86400 = n at *
  subst hn
  generalize yearF (sec / 86400 + 106751991073400) = Y at *
  generalize ydayF (sec / 86400 + 106751991073400) = yd at *
  obtain ⟨d1, d2, d3⟩ := hd
  have hl := lp_bd Y
  have hY0 : 1970 ≤ Y := by
    rcases Int.lt_or_le Y 1970 with h | h
    · have := ahead_mono (Y + 1) 1970 (by omega)
      have := ahead_succ Y
      have e70 : ahead 1970 = 719162 := by decide
      omega
    · exact h
  have hY1 : Y ≤ 9999 := by
    rcases Int.lt_or_le 9999 Y with h | h
    · have := ahead_mono 10000 Y (by omega)
      have e10 : ahead 10000 = 3652059 := by decide
      omega
    · exact h
  have hyst : sec - ((yd - 1) * 86400 + sec % 86400) = ystF Y := by unfold ystF; omega
  rw [hyst]
  have hb : -100000000000000 ≤ ystF Y ∧ ystF Y ≤ 1000000000000000 := by omega
  refine ⟨by omega, by omega, by omega, ?_, hY0, hY1⟩
  exact IntWalk.wrap64_in _ (by omega)
theorem year_only (sec y : Int) (h0 : 0 ≤ sec) (h1 : sec ≤ 253402300799) (ha : y ≤ tzYear sec) (hb : sec < ystF (y + 1)) : y = tzYear sec := by
  obtain ⟨l1, l2, _, _, _, _⟩ := year_law sec h0 h1
  rcases Int.lt_or_le y (tzYear sec) with h | h
  · have := ystF_mono (y + 1) (tzYear sec) (by omega)
    omega
  · omega
theorem year_next (sec y : Int) (h0 : 0 ≤ sec) (h1 : sec ≤ 253402300799) (hb : ystF (y + 1) ≤ sec) : y + 1 ≤ tzYear sec := by
  obtain ⟨l1, l2, l3, _, _, _⟩ := year_law sec h0 h1
  rcases Int.lt_or_le (tzYear sec) (y + 1) with h | h
  · have h2 := ystF_mono (tzYear sec + 1) (y + 1) (by omega)
    have := ystF_succ (tzYear sec)
    omega
  · exact h
theorem year_from (sec : Int) (h0 : 0 ≤ sec) (h1 : sec ≤ 253402300799) : 1970 + sec / 86400 / 366 ≤ tzYear sec := by
  have hb : ystF (1970 + sec / 86400 / 366) ≤ sec := by unfold ystF ahead; omega
  have := year_next sec (1970 + sec / 86400 / 366 - 1) h0 h1 (by rw [show 1970 + sec / 86400 / 366 - 1 + 1 = 1970 + sec / 86400 / 366 by omega]; exact hb)
  omega

end Go.Proofs.Ytcjibjggaleclaa
