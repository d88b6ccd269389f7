/- Plain words on zone files: numbers as bytes. -/
import Derived.Test.YtgmlclhdibajiaaDoorPlL
import Derived.Lib.Endian
namespace Go.Proofs.YtgmlclhdibajiaaDoor

def byAt (n : Int) (k : Nat) : UInt8 := UInt8.ofNat ((n / 256 ^ k) % 256).toNat
/-- a number's low bytes, the highest one first -/
def byB (n : Int) : Nat → Bs
  | 0 => []
  | k + 1 => byAt n k :: byB n k
theorem byB_len (n : Int) : ∀ k, (byB n k).length = k := by
  intro k
  induction k with
  | zero => rfl
  | succ k ih => simp [byB, ih]
theorem byB_get (n : Int) : ∀ size j, j < size → (byB n size)[j]? = some (byAt n (size - 1 - j)) := by
  intro size
  induction size with
  | zero => intro j h; omega
  | succ k ih =>
    intro j h
    cases j with
    | zero => simp [byB]
    | succ j =>
      simp only [byB, List.getElem?_cons_succ]
      rw [ih j (by omega)]
      congr 2
      omega
theorem byAt_nat (n : Int) (k : Nat) : ((byAt n k).toNat : Int) = (n / 256 ^ k) % 256 := by
  unfold byAt
  have h1 : 0 ≤ (n / 256 ^ k) % 256 := Int.emod_nonneg _ (by decide)
  have h2 : (n / 256 ^ k) % 256 < 256 := Int.emod_lt_of_pos _ (by decide)
  rw [UInt8.toNat_ofNat']
  have : ((n / 256 ^ k) % 256).toNat < 256 := by omega
  rw [Nat.mod_eq_of_lt this]
  omega
theorem byB4 (n : Int) : byB n 4 = [byAt n 3, byAt n 2, byAt n 1, byAt n 0] := rfl
theorem byB8 (n : Int) : byB n 8 = [byAt n 7, byAt n 6, byAt n 5, byAt n 4, byAt n 3, byAt n 2, byAt n 1, byAt n 0] := rfl
theorem beNat4 (a b c d : UInt8) : ((Lib.beNat [a, b, c, d] : Nat) : Int) = (d.toNat : Int) + (c.toNat : Int) * 256 + (b.toNat : Int) * 65536 + (a.toNat : Int) * 16777216 := by
  simp only [Lib.beNat, Lib.beFrom]
  omega
theorem beNat_by4 (n : Int) : ((Lib.beNat [byAt n 3, byAt n 2, byAt n 1, byAt n 0] : Nat) : Int) = n % 4294967296 := by
  rw [beNat4, byAt_nat, byAt_nat, byAt_nat, byAt_nat]
  simp only [show (256 : Int) ^ 3 = 16777216 from rfl, show (256 : Int) ^ 2 = 65536 from rfl, show (256 : Int) ^ 1 = 256 from rfl, show (256 : Int) ^ 0 = 1 from rfl]
  omega
theorem beNat_by8 (n : Int) : ((Lib.beNat [byAt n 7, byAt n 6, byAt n 5, byAt n 4] : Nat) : Int) * 4294967296 + ((Lib.beNat [byAt n 3, byAt n 2, byAt n 1, byAt n 0] : Nat) : Int) = n % 18446744073709551616 := by
  rw [beNat_by4, beNat4, byAt_nat, byAt_nat, byAt_nat, byAt_nat]
  simp only [show (256 : Int) ^ 7 = 72057594037927936 from rfl, show (256 : Int) ^ 6 = 281474976710656 from rfl, show (256 : Int) ^ 5 = 1099511627776 from rfl, show (256 : Int) ^ 4 = 4294967296 from rfl]
  omega

theorem flatLen {α β : Type} (f : α → List β) (c : Nat) (hf : ∀ a, (f a).length = c) (l : List α) : (l.flatMap f).length = l.length * c := by
  induction l with
  | nil => simp
  | cons a l ih => simp [List.flatMap_cons, hf, ih, Nat.add_mul]; omega
theorem flat_snoc' {α β : Type} (f : α → List β) (l : List α) (k : Nat) (a : α) (h : l[k]? = some a) : (l.take (k + 1)).flatMap f = (l.take k).flatMap f ++ f a := by
  obtain ⟨hk, rfl⟩ := List.getElem?_eq_some_iff.1 h
  rw [List.take_succ_eq_append_getElem hk, List.flatMap_append]
  simp
/-- the parts of a file -/
def timesB (size : Nat) (ts : List Tr) : Bs := ts.flatMap fun t => byB t.at_ size
def ixsB (ts : List Tr) : Bs := ts.map fun t => UInt8.ofNat t.ix
def charsB (zs : List Zo) : Bs := zs.flatMap fun z => z.nm ++ [0]
def kindB (z : Zo) (n : Nat) : Bs := byB z.off 4 ++ [if z.dst then 1 else 0, UInt8.ofNat n]
def kindsB : List Zo → Nat → Bs
  | [], _ => []
  | z :: l, n => kindB z n ++ kindsB l (n + (z.nm.length + 1))
def cntL (nt nz nc : Nat) : List Int := [0, 0, 0, nt, nz, nc]
def countsB (l : List Int) : Bs := l.flatMap fun n => byB n 4
def headB (ver : UInt8) : Bs := [84, 90, 105, 102] ++ ([ver] ++ byB 0 15)
def bodyB (size : Nat) (zs : List Zo) (ts : List Tr) : Bs := timesB size ts ++ (ixsB ts ++ (kindsB zs 0 ++ charsB zs))
def blockB (ver : UInt8) (size : Nat) (zs : List Zo) (ts : List Tr) : Bs := headB ver ++ (countsB (cntL ts.length zs.length (charsB zs).length) ++ bodyB size zs ts)
def file1B (p : Pl) : Bs := blockB 0 4 p.zs p.ts
def file2B (p : Pl) : Bs := blockB 50 4 (p.zs.take 1) [] ++ (blockB 50 8 p.zs p.ts ++ ([10] ++ (p.ext ++ [10])))
theorem kinds_snoc : ∀ (l : List Zo) (z : Zo) (n : Nat), kindsB (l ++ [z]) n = kindsB l n ++ kindB z (n + (charsB l).length) := by
  intro l
  induction l with
  | nil => intro z n; simp [kindsB, charsB]
  | cons x l ih =>
    intro z n
    simp only [List.cons_append, kindsB, ih, List.append_assoc]
    congr 3
    simp [charsB]
    omega
theorem kind_len (z : Zo) (n : Nat) : (kindB z n).length = 6 := by simp [kindB, byB_len]
theorem kinds_len : ∀ (l : List Zo) (n : Nat), (kindsB l n).length = l.length * 6 := by
  intro l
  induction l with
  | nil => intro n; rfl
  | cons x l ih => intro n; simp [kindsB, kind_len, ih]; omega
theorem times_len (size : Nat) (l : List Tr) : (timesB size l).length = l.length * size := flatLen (fun t : Tr => byB t.at_ size) size (fun t => byB_len t.at_ size) l
theorem ixs_len (l : List Tr) : (ixsB l).length = l.length := by simp [ixsB]

theorem chars_snoc (l : List Zo) (k : Nat) (z : Zo) (h : l[k]? = some z) : charsB (l.take (k + 1)) = charsB (l.take k) ++ (z.nm ++ [0]) := flat_snoc' (fun z : Zo => z.nm ++ [(0 : UInt8)]) l k z h
theorem kinds_snoc' (l : List Zo) (k : Nat) (z : Zo) (h : l[k]? = some z) : kindsB (l.take (k + 1)) 0 = kindsB (l.take k) 0 ++ (byB z.off 4 ++ [if z.dst then 1 else 0, UInt8.ofNat (charsB (l.take k)).length]) := by
  obtain ⟨hk, rfl⟩ := List.getElem?_eq_some_iff.1 h
  rw [List.take_succ_eq_append_getElem hk, kinds_snoc, Nat.zero_add]
  rfl
theorem times_snoc (size : Nat) (l : List Tr) (k : Nat) (t : Tr) (h : l[k]? = some t) : timesB size (l.take (k + 1)) = timesB size (l.take k) ++ byB t.at_ size := flat_snoc' (fun t : Tr => byB t.at_ size) l k t h
theorem ixs_snoc (l : List Tr) (k : Nat) (t : Tr) (h : l[k]? = some t) : ixsB (l.take (k + 1)) = ixsB (l.take k) ++ [UInt8.ofNat t.ix] := by
  obtain ⟨hk, rfl⟩ := List.getElem?_eq_some_iff.1 h
  unfold ixsB
  rw [List.take_succ_eq_append_getElem hk, List.map_append]
  rfl
theorem counts_snoc (l : List Int) (k : Nat) (n : Int) (h : l[k]? = some n) : countsB (l.take (k + 1)) = countsB (l.take k) ++ byB n 4 := flat_snoc' (fun n => byB n 4) l k n h
theorem chars_take (l : List Zo) (k : Nat) : (charsB (l.take k)).length ≤ (charsB l).length := by
  have h : charsB l = charsB (l.take k) ++ charsB (l.drop k) := by
    unfold charsB
    rw [← List.flatMap_append, List.take_append_drop]
  rw [h, List.length_append]
  omega

end Go.Proofs.YtgmlclhdibajiaaDoor
