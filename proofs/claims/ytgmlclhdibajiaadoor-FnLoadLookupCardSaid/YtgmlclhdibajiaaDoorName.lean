/- tzsetName returns what the plain function nameF computes, at every text. -/
import Derived.Test.YtgmlclhdibajiaaDoorWords
import Derived.Test.YtgmlclhdibajiaaDoorPlain
namespace Go.Proofs.YtgmlclhdibajiaaDoor
open Go.RowKit

/-- the place of the first rune that stops a scan -/
def scan (stop : Nat → Bool) (s : ByteArray) : Nat → Nat → Option Nat
  | 0, _ => none
  | b + 1, pos => if pos < s.size then (if stop (Utf8.decode s pos).1 then some pos else scan stop s b (pos + (Utf8.decode s pos).2)) else none
def nameStop (r : Nat) : Bool := (decide (48 ≤ r) && decide (r ≤ 57)) || decide (r = 44) || decide (r = 45) || decide (r = 43)
def brkStop (r : Nat) : Bool := decide (r = 62)
def nameA (l : Bs) : Option Nat → Bs × Bs × Bool
  | some i => if i < 3 then ([], [], false) else (l.take i, l.drop i, true)
  | none => if l.length < 3 then ([], [], false) else (l, [], true)
def nameBr (l : Bs) : Option Nat → Bs × Bs × Bool
  | some i => (l.tail.take (i - 1), l.drop (i + 1), true)
  | none => ([], [], false)
def nameF : Bs → Bs × Bs × Bool
  | [] => ([], [], false)
  | c :: cs => if c = 60 then nameBr (c :: cs) (scan brkStop (S (c :: cs)) (c :: cs).length 0) else nameA (c :: cs) (scan nameStop (S (c :: cs)) (c :: cs).length 0)
def nameV (x : Bs × Bs × Bool) : Value := .tuple #[.string (S x.1), .string (S x.2.1), .bool x.2.2]

theorem scan_end (stop : Nat → Bool) (s : ByteArray) (b pos : Nat) (h : ¬ pos < s.size) : scan stop s b pos = none := by
  cases b with
  | zero => rfl
  | succ b => simp [scan, h]
theorem decode_pos (s : ByteArray) (pos : Nat) (h : pos < s.size) : 1 ≤ (Utf8.decode s pos).2 := by
  by_cases ha : (s[pos]'h).toNat < 128
  · rw [decode_ascii s pos h ha]; exact Nat.le_refl _
  · exact (decode_high s pos h (by omega)).2
theorem nameStop_yes (r : Nat) (h : nameStop r = true) : r = 48 ∨ r = 49 ∨ r = 50 ∨ r = 51 ∨ r = 52 ∨ r = 53 ∨ r = 54 ∨ r = 55 ∨ r = 56 ∨ r = 57 ∨ r = 44 ∨ r = 45 ∨ r = 43 := by
  simp [nameStop] at h; omega
theorem nameStop_no (r : Nat) (h : nameStop r = false) : ((r : Int) == 48) = false ∧ ((r : Int) == 49) = false ∧ ((r : Int) == 50) = false ∧ ((r : Int) == 51) = false ∧ ((r : Int) == 52) = false ∧ ((r : Int) == 53) = false ∧ ((r : Int) == 54) = false ∧
    ((r : Int) == 55) = false ∧ ((r : Int) == 56) = false ∧ ((r : Int) == 57) = false ∧ ((r : Int) == 44) = false ∧ ((r : Int) == 45) = false ∧ ((r : Int) == 43) = false := by
  simp only [beq_eq_false_iff_ne, ne_eq]
  simp [nameStop] at h; omega

set_option maxHeartbeats 4000000 in
theorem tzsetName_ret (l : Bs) (hl : l.length ≤ 4294967296) : Ret 43 #[.string (S l)] (nameV (nameF l)) := by
  intro w
  by_cases hnil : l = []
  · subst hnil
    go_enter Tryd.func43, Tryd.ntmps43
    go_wp2
    go_ret3
    exact ⟨rfl, Below.refl _ _⟩
  · have hp : 0 < l.length := List.length_pos_iff.2 hnil
    have hz : ((l.length : Int) == 0) = false := by rw [beq_eq_false_iff_ne]; omega
    rcases byte_cases l[0] 60 with ⟨h60, e60⟩ | ⟨h60, e60⟩
    · have H0 := Lib.hid (show nameF l = nameBr l (scan brkStop (S l) l.length 0) by
        cases l with
        | nil => exact absurd rfl hnil
        | cons c cs => rw [nameF, if_pos (by simpa using h60)])
      have hd0 := Lib.hid (show Utf8.decode (S l) 0 = (60, 1) by
        have hs : 0 < (S l).size := by rw [S_size]; exact hp
        have hg : (S l)[0]'hs = 60 := by rw [S_get]; exact h60
        have := decode_ascii (S l) 0 hs (by rw [hg]; decide)
        rw [hg] at this
        exact this)
      have en : ((l[0].toNat : Int) != 60) = false := by
        change ((l[0].toNat : Int) == 60) = true at e60
        rw [bne, e60]; rfl
      clear h60 e60 hnil
      go_enter Tryd.func43, Tryd.ntmps43
      go_wp2_with fail
      clear en
      go_loopw [] (fun w' => ∃ (pos b : Nat), w' = w.iter (S l) pos ∧ l.length ≤ pos + b ∧ Hid (nameF l = nameBr l (scan brkStop (S l) b pos))) (fun w' => l.length - w'.iterPos w.heap.size)
      case atStart => exact ⟨0, l.length, rfl, by omega, H0⟩
      case round =>
        clear H0
        obtain ⟨pos, b, rfl, hb, HR⟩ := hrel
        by_cases hlt' : pos < l.length
        · have hlt : pos < (S l).size := by rw [S_size]; exact hlt'
          have hnx : ∀ ty, (Instr.next (.pointer (some ⟨w.heap.size, 0, none⟩)) true ty).run Tryd.prog (w.iter (S l) pos) = _ := fun ty => run_next_any w (S l) pos ty hlt
          have hwd := decode_pos (S l) pos hlt
          have hps : brkStop (Utf8.decode (S l) pos).1 = true → 1 ≤ pos := by
            intro h
            rcases Nat.eq_zero_or_pos pos with h0 | h0
            · subst h0; rw [hd0.out] at h; simp [brkStop] at h
            · exact h0
          obtain ⟨b, rfl⟩ : ∃ b', b = b' + 1 := ⟨b - 1, by omega⟩
          have HR' := Lib.hid (show nameF l = nameBr l (if brkStop (Utf8.decode (S l) pos).1 then some pos else scan brkStop (S l) b (pos + (Utf8.decode (S l) pos).2)) by
            rw [HR.out, scan, if_pos hlt])
          clear HR hd0
          generalize (Utf8.decode (S l) pos).1 = r at *
          generalize (Utf8.decode (S l) pos).2 = wd at *
          clear hlt
          cases hst : brkStop r
          · have e1 : ((r : Int) == 62) = false := by rw [beq_eq_false_iff_ne]; simp [brkStop] at hst; omega
            have HR := Lib.hid (show nameF l = nameBr l (scan brkStop (S l) b (pos + wd)) by rw [HR'.out, hst]; rfl)
            clear hst HR' hps
            go_wp2_with fail
            go_roundw
            case rel => exact ⟨pos + wd, b, rfl, by omega, HR⟩
            case measure => simp; omega
          · have hp1 := hps hst
            have er : r = 62 := by simpa [brkStop] using hst
            subst er
            have HF := Lib.hid (show nameF l = (l.tail.take (pos - 1), l.drop (pos + 1), true) by rw [HR'.out, hst]; rfl)
            clear hst HR' hps
            have f1 : (1 : Int) ≤ (pos : Int) := by omega
            have f2 : (pos : Int) ≤ (l.length : Int) := by omega
            have f3 : (pos : Int) + 1 ≤ (l.length : Int) := by omega
            have f4 : 0 ≤ (pos : Int) + 1 := by omega
            go_wp2_with fail
            have f5 : IntKind.i64.wrap ((pos : Int) + 1) = (pos : Int) + 1 := IntWalk.i64_in _ (by omega)
            have f6 : ((pos : Int) + 1).toNat = pos + 1 := by omega
            go_quiet (fail)
            go_wp2_with fail
            go_ret3
            rw [HF.out]
            exact ⟨by rfl, below_drewN (below_iter _ _ _) _⟩
        · have hnx : ∀ ty, (Instr.next (.pointer (some ⟨w.heap.size, 0, none⟩)) true ty).run Tryd.prog (w.iter (S l) pos) = _ := fun ty => run_next_end w (S l) pos ty (by rw [S_size]; exact hlt')
          have HF := Lib.hid (show nameF l = ([], [], false) by rw [HR.out, scan_end _ _ _ _ (by rw [S_size]; exact hlt')]; rfl)
          clear HR hd0
          go_wp2_with fail
          go_ret3
          rw [HF.out]
          exact ⟨rfl, below_iter _ _ _⟩
    · have H0 := Lib.hid (show nameF l = nameA l (scan nameStop (S l) l.length 0) by
        cases l with
        | nil => exact absurd rfl hnil
        | cons c cs => rw [nameF, if_neg (by simpa using h60)])
      have en : ((l[0].toNat : Int) != 60) = true := by
        change ((l[0].toNat : Int) == 60) = false at e60
        rw [bne, e60]; rfl
      clear h60 e60 hnil
      go_enter Tryd.func43, Tryd.ntmps43
      go_wp2_with fail
      clear en
      go_loopw [] (fun w' => ∃ (pos b : Nat), w' = w.iter (S l) pos ∧ l.length ≤ pos + b ∧ Hid (nameF l = nameA l (scan nameStop (S l) b pos))) (fun w' => l.length - w'.iterPos w.heap.size)
      case atStart => exact ⟨0, l.length, rfl, by omega, H0⟩
      case round =>
        clear H0
        obtain ⟨pos, b, rfl, hb, HR⟩ := hrel
        by_cases hlt' : pos < l.length
        · have hlt : pos < (S l).size := by rw [S_size]; exact hlt'
          have hnx : ∀ ty, (Instr.next (.pointer (some ⟨w.heap.size, 0, none⟩)) true ty).run Tryd.prog (w.iter (S l) pos) = _ := fun ty => run_next_any w (S l) pos ty hlt
          have hwd := decode_pos (S l) pos hlt
          obtain ⟨b, rfl⟩ : ∃ b', b = b' + 1 := ⟨b - 1, by omega⟩
          have HR' := Lib.hid (show nameF l = nameA l (if nameStop (Utf8.decode (S l) pos).1 then some pos else scan nameStop (S l) b (pos + (Utf8.decode (S l) pos).2)) by
            rw [HR.out, scan, if_pos hlt])
          clear HR
          generalize (Utf8.decode (S l) pos).1 = r at *
          generalize (Utf8.decode (S l) pos).2 = wd at *
          clear hlt
          cases hst : nameStop r
          · obtain ⟨e1, e2, e3, e4, e5, e6, e7, e8, e9, e10, e11, e12, e13⟩ := nameStop_no r hst
            have HR := Lib.hid (show nameF l = nameA l (scan nameStop (S l) b (pos + wd)) by rw [HR'.out, hst]; rfl)
            clear hst HR'
            go_wp2_with fail
            go_roundw
            case rel => exact ⟨pos + wd, b, rfl, by omega, HR⟩
            case measure => simp; omega
          · have HR := Lib.hid (show nameF l = nameA l (some pos) by rw [HR'.out, hst]; rfl)
            have hcs := nameStop_yes r hst
            clear hst HR'
            by_cases h3 : pos < 3
            · have HF := Lib.hid (show nameF l = ([], [], false) by rw [HR.out, nameA, if_pos h3])
              clear HR
              have h3' : (pos : Int) < 3 := by omega
              rcases hcs with rfl | rfl | rfl | rfl | rfl | rfl | rfl | rfl | rfl | rfl | rfl | rfl | rfl
              all_goals
                go_wp2_with fail
                go_ret3
                rw [HF.out]
                exact ⟨rfl, below_iter _ _ _⟩
            · have HF := Lib.hid (show nameF l = (l.take pos, l.drop pos, true) by rw [HR.out, nameA, if_neg h3])
              clear HR
              have h3' : ¬ (pos : Int) < 3 := by omega
              have f1 : (0 : Int) ≤ (pos : Int) := by omega
              have f2 : (pos : Int) ≤ (l.length : Int) := by omega
              rcases hcs with rfl | rfl | rfl | rfl | rfl | rfl | rfl | rfl | rfl | rfl | rfl | rfl | rfl
              all_goals
                go_wp2_with fail
                go_quiet (fail)
                go_wp2_with fail
                go_ret3
                rw [HF.out]
                exact ⟨by rfl, below_drewN (below_iter _ _ _) _⟩
        · have hnx : ∀ ty, (Instr.next (.pointer (some ⟨w.heap.size, 0, none⟩)) true ty).run Tryd.prog (w.iter (S l) pos) = _ := fun ty => run_next_end w (S l) pos ty (by rw [S_size]; exact hlt')
          have HR' := Lib.hid (show nameF l = nameA l none by rw [HR.out, scan_end _ _ _ _ (by rw [S_size]; exact hlt')])
          clear HR
          by_cases h3 : l.length < 3
          · have HF := Lib.hid (show nameF l = ([], [], false) by rw [HR'.out, nameA, if_pos h3])
            clear HR'
            have h3' : (l.length : Int) < 3 := by omega
            go_wp2_with fail
            go_ret3
            rw [HF.out]
            exact ⟨rfl, below_iter _ _ _⟩
          · have HF := Lib.hid (show nameF l = (l, [], true) by rw [HR'.out, nameA, if_neg h3])
            clear HR'
            have h3' : ¬ (l.length : Int) < 3 := by omega
            go_wp2_with fail
            go_ret3
            rw [HF.out]
            exact ⟨rfl, below_iter _ _ _⟩

end Go.Proofs.YtgmlclhdibajiaaDoor
