/- tzsetNum returns what the plain function numF computes, for bounds up to a million. -/
import Derived.Test.YtgmlclhdibajiaaDoorWords
import Derived.Test.YtgmlclhdibajiaaDoorPlain
namespace Go.Proofs.YtgmlclhdibajiaaDoor
open Go.RowKit

def numV (x : Int × Bs × Bool) : Value := .tuple #[.int .i64 x.1, .string (S x.2.1), .bool x.2.2]

/-- what the rune at a place tells of the byte there -/
theorem rune_digit (l : Bs) (pos : Nat) (h : pos < (S l).size) (c : UInt8) (hc : l[pos]? = some c) :
    (¬ (c.toNat < 48 ∨ 57 < c.toNat) → Utf8.decode (S l) pos = (c.toNat, 1)) ∧
    ((c.toNat < 48 ∨ 57 < c.toNat) → (Utf8.decode (S l) pos).1 < 48 ∨ 57 < (Utf8.decode (S l) pos).1) := by
  have hg : (S l)[pos]'h = c := by
    rw [S_get]
    have h' : pos < l.length := by rw [← S_size]; exact h
    rw [List.getElem?_eq_getElem h'] at hc
    injection hc
  have hd : (S l)[pos].toNat = c.toNat := by rw [hg]
  constructor
  · intro hn
    have := decode_ascii (S l) pos h (by omega)
    rw [hd] at this
    exact this
  · intro hn
    by_cases ha : (S l)[pos].toNat < 128
    · have := decode_ascii (S l) pos h ha
      rw [this]
      simp only []
      omega
    · have := (decode_high (S l) pos h (by omega)).1
      omega

set_option maxHeartbeats 1000000 in
theorem tzsetNum_ret (l : Bs) (mn mx : Int) (hx : mx ≤ 1000000) : Ret 49 #[.string (S l), .int .i64 mn, .int .i64 mx] (numV (numF l mn mx)) := by
  intro w
  by_cases h0 : l = []
  · subst h0
    go_enter Tryd.func49, Tryd.ntmps49
    go_wp2
    go_ret3
    exact ⟨rfl, Below.refl _ _⟩
  · have hpos : 0 < l.length := List.length_pos_iff.2 h0
    have hz : ((l.length : Int) == 0) = false := by rw [beq_eq_false_iff_ne]; omega
    have H0 := Lib.hid (show numF l mn mx = numGo mn mx true 0 l by rw [numF, if_neg h0])
    clear h0
    go_enter Tryd.func49, Tryd.ntmps49
    go_wp2
    go_loopw [6] (fun n w' => ∃ (pos : Nat) (num : Int), w' = w.iter (S l) pos ∧ n = .int .i64 num ∧ pos ≤ l.length ∧ 0 ≤ num ∧ num ≤ 1000000 ∧ Hid (numF l mn mx = numGo mn mx (pos == 0) num (l.drop pos))) (fun _ w' => l.length - w'.iterPos w.heap.size)
    case atStart => exact ⟨0, 0, rfl, rfl, by omega, by omega, by omega, H0⟩
    case round =>
      clear H0
      obtain ⟨pos, num, rfl, rfl, hp, hn0, hn1, HR⟩ := hrel
      by_cases hlt' : pos < l.length
      · have hlt : pos < (S l).size := by rw [S_size]; exact hlt'
        have hnx : ∀ ty, (Instr.next (.pointer (some ⟨w.heap.size, 0, none⟩)) true ty).run Tryd.prog (w.iter (S l) pos) = _ := fun ty => run_next_any w (S l) pos ty hlt
        obtain ⟨c, hc⟩ : ∃ c, l[pos]? = some c := ⟨_, List.getElem?_eq_getElem hlt'⟩
        have hdrop : l.drop pos = c :: l.drop (pos + 1) := by
          rw [List.drop_eq_getElem_cons hlt']
          rw [List.getElem?_eq_getElem hlt'] at hc
          injection hc with hc; rw [hc]
        obtain ⟨hr1, hr2⟩ := rune_digit l pos hlt c hc
        by_cases hd : c.toNat < 48 ∨ 57 < c.toNat
        · have hr3 := hr2 hd
          rw [hdrop] at HR
          obtain ⟨r, wd, hrw⟩ : ∃ r wd, Utf8.decode (S l) pos = (r, wd) := ⟨_, _, rfl⟩
          simp only [hrw] at hnx hr3
          clear hr1 hr2 hrw hc hlt
          have HDrop := Lib.hid hdrop; clear hdrop
          by_cases hf : (pos == 0) = true ∨ num < mn
          · have HF := Lib.hid (show numF l mn mx = (0, [], false) by rw [HR.out, numGo, if_pos hd, if_pos hf])
            clear HR
            by_cases hz0 : pos = 0
            · subst hz0
              clear hf
              go_wp2
              all_goals (go_ret3; rw [HF.out]; exact ⟨rfl, below_iter _ _ _⟩)
            · have hz1 : ((pos : Int) == 0) = false := by rw [beq_eq_false_iff_ne]; omega
              have hm : num < mn := by rcases hf with h | h; (simp at h; omega); exact h
              clear hf hz0
              go_wp2
              all_goals (go_ret3; rw [HF.out]; exact ⟨rfl, below_iter _ _ _⟩)
          · have HF := Lib.hid (show numV (numF l mn mx) = .tuple #[.int .i64 num, .string (S (l.drop pos)), .bool true] by rw [HR.out, numGo, if_pos hd, if_neg hf, ← HDrop.out]; rfl)
            clear HR
            have hm : ¬ num < mn := fun h => hf (.inr h)
            have hz1 : ((pos : Int) == 0) = false := by
              rw [beq_eq_false_iff_ne]; intro h; exact hf (.inl (by simp; omega))
            clear hf
            have e0 : 0 ≤ (pos : Int) := by omega
            have e1 : (pos : Int) ≤ (l.length : Int) := by omega
            go_wp2
            all_goals (go_quiet (fail); go_wp2; go_ret3; rw [HF.out]; exact ⟨rfl, below_drewN (below_iter _ _ _) _⟩)
        · have hr3 := hr1 hd
          simp only [hr3] at hnx
          rw [hdrop] at HR
          clear hr1 hr2 hr3 hdrop hc hlt
          have hc1 : 48 ≤ c.toNat := by omega
          have hc2 : c.toNat ≤ 57 := by omega
          by_cases hm : mx < num * 10 + ((c.toNat : Int) - 48)
          · have HF := Lib.hid (show numV (numF l mn mx) = .tuple #[.int .i64 0, .string ⟨#[]⟩, .bool false] by rw [HR.out, numGo, if_neg hd, if_pos hm]; rfl)
            clear HR hd
            go_wp2
            go_ret3
            rw [HF.out]
            exact ⟨rfl, below_iter _ _ _⟩
          · have HF := Lib.hid (show numF l mn mx = numGo mn mx (pos + 1 == 0) (num * 10 + ((c.toNat : Int) - 48)) (l.drop (pos + 1)) by rw [HR.out, numGo, if_neg hd, if_neg hm]; rfl)
            clear HR hd
            go_wp2
            go_roundw
            case rel => exact ⟨pos + 1, _, rfl, rfl, by omega, by omega, by omega, HF⟩
            case measure => simp; omega
      · have hnx : ∀ ty, (Instr.next (.pointer (some ⟨w.heap.size, 0, none⟩)) true ty).run Tryd.prog (w.iter (S l) pos) = _ := fun ty => run_next_end w (S l) pos ty (by rw [S_size]; exact hlt')
        obtain rfl : pos = l.length := by omega
        clear hlt'
        by_cases hm : num < mn
        · have HF := Lib.hid (show numF l mn mx = (0, [], false) by rw [HR.out]; simp [numGo, hm])
          clear HR
          go_wp2
          go_ret3
          rw [HF.out]
          exact ⟨rfl, below_iter _ _ _⟩
        · have HF := Lib.hid (show numF l mn mx = (num, [], true) by rw [HR.out]; simp [numGo, hm])
          clear HR
          go_wp2
          go_ret3
          rw [HF.out]
          exact ⟨rfl, below_iter _ _ _⟩

end Go.Proofs.YtgmlclhdibajiaaDoor
