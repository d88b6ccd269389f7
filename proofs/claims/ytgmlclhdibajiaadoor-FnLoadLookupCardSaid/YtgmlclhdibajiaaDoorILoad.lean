/- Load of the thin package. -/
import Derived.Test.YtgmlclhdibajiaaDoorLoadK
import Derived.Test.YtgmlclhdibajiaaDoorParts
import Derived.Lib.ConvBytes
import Derived.Laws.AppendOwn
namespace Go.Proofs.YtgmlclhdibajiaaDoor
open Go.RowKit

theorem bytes_below (w : World) (e : TypeId) (s : ByteArray) : Below w.heap.size w (Lib.bytesWorld w e s) :=
  ⟨rfl, rfl, rfl, by rw [Lib.bytesWorld_size]; omega, fun j hj => Lib.bytesWorld_at_old w e s j hj⟩
theorem bytes_slb (w : World) (e : TypeId) (l : Bs) : Slb (Lib.bytesWorld w e (S l)) (Lib.bytesWorld w e (S l)).heap.size (.slice (some ⟨w.heap.size, 0, none⟩) l.length (grownCap w l.length 0 e)) l := by
  refine ⟨_, _, rfl, .inr ⟨w.heap.size, 0, rfl, by rw [Lib.bytesWorld_size]; omega, fun j b hb => ?_⟩, grownCap_ge _ _ _ _⟩
  have hj : j < (S l).size := by rw [S_size]; exact (List.getElem?_eq_some_iff.1 hb).1
  rw [Nat.zero_add, Lib.bytesWorld_cell w e (S l) j hj]
  simp [S, List.getD, hb]
theorem run_bytes (w : World) (l : Bs) : (convert 9 42 (.string (S l))).run Tryd.prog w = .ok (.slice (some ⟨w.heap.size, 0, none⟩) l.length (grownCap w l.length 0 5)) (Lib.bytesWorld w 5 (S l)) := by
  have := Lib.run_convert_string_bytes (P := Tryd.prog) w 9 42 5 (S l) (u := .string) Tryd.underlying9 Tryd.underlying42 Tryd.underlying5
  rw [S_size] at this
  exact this
/-- the bytes D are read as the place p; they are no file -/
def Reads (V : Value) (nm D : Bs) (p : Pl) : Prop := ∀ (w : World) (v : Value), w.cell? ⟨0, 0, none⟩ = some V → 0 < w.heap.size → Slb w w.heap.size v D → Calls Tryd.prog 20 #[.string (S nm), v] w (LoadPost w p)
def Fails (V : Value) (nm D : Bs) : Prop := ∀ (w : World) (v : Value), w.cell? ⟨0, 0, none⟩ = some V → 0 < w.heap.size → Slb w w.heap.size v D → Calls Tryd.prog 20 #[.string (S nm), v] w (FailPost w V)

set_option maxRecDepth 100000 in
set_option maxHeartbeats 2000000 in
theorem implLoad_okN (V : Value) (nm D : Bs) (p : Pl) (hz : (p.zs.length : Int) ≤ 2147483647) (ht : (p.ts.length : Int) ≤ 2147483647) (HL : Reads V nm D p) (w : World) (hV : w.cell? ⟨0, 0, none⟩ = some V) (hw0 : 0 < w.heap.size) :
    Calls Tryd.prog 13 #[.string (S nm), .string (S D)] w fun e w' => ∃ A : Ad, e = .returned (.tuple #[plA p A, .bool true]) ∧ PlIn w' w'.heap.size p A ∧ Below w.heap.size w w' ∧ NewAt w.heap.size A := by
  have hb0 : Below w.heap.size w (w.alloc (.cells #[.string ⟨#[]⟩, .slice none 0 0, .slice none 0 0, .string ⟨#[]⟩] 25)) := (Below.refl _ _).alloc (Nat.le_refl _) _
  have B1 := Blk.new w 25 #[.string ⟨#[]⟩, .slice none 0 0, .slice none 0 0, .string ⟨#[]⟩] _ rfl
  have hcv := run_bytes (w.alloc (.cells #[.string ⟨#[]⟩, .slice none 0 0, .slice none 0 0, .string ⟨#[]⟩] 25)) D
  have hsl := bytes_slb (w.alloc (.cells #[.string ⟨#[]⟩, .slice none 0 0, .slice none 0 0, .string ⟨#[]⟩] 25)) 5 D
  have hbb := bytes_below (w.alloc (.cells #[.string ⟨#[]⟩, .slice none 0 0, .slice none 0 0, .string ⟨#[]⟩] 25)) 5 (S D)
  have hs1 : (w.alloc (.cells #[.string ⟨#[]⟩, .slice none 0 0, .slice none 0 0, .string ⟨#[]⟩] 25)).heap.size = w.heap.size + 1 := by simp
  rw [hs1] at hcv hsl
  have B2 := B1.keep hbb
  have hb1 := hb0.trans (hbb.mono (by rw [hs1]; omega))
  generalize Lib.bytesWorld (w.alloc (.cells #[.string ⟨#[]⟩, .slice none 0 0, .slice none 0 0, .string ⟨#[]⟩] 25)) 5 (S D) = W1 at *
  generalize grownCap (w.alloc (.cells #[.string ⟨#[]⟩, .slice none 0 0, .slice none 0 0, .string ⟨#[]⟩] 25)) D.length 0 5 = cap at *
  have HC := Lib.hid (HL W1 _ ((hb1.cell (p := ⟨0, 0, none⟩) hw0).trans hV) (by have := hb1.size; omega) hsl)
  have HK := Lib.hid (fun (g : Nat) (a : Ad) (W : World) (hL : Loc W g p a) => parts_ret p a g W hL hz ht)
  have HB2 := Lib.hid B2
  have HB1 := Lib.hid hb1
  clear hb0 B1 hsl hbb hs1 B2 hb1 HL hV
  go_enter Tryd.func13, Tryd.ntmps13
  go_wp2_with fail
  refine HC.out.mono ?_
  rintro e w1 ⟨g, a', rfl, hL, hbx⟩
  have HK1 := Lib.hid (HK.out g a' w1 hL)
  have B3 := HB2.out.keep hbx
  have hb2 := Lib.hid (HB1.out.trans (hbx.mono HB1.out.size))
  clear hL hbx HC HK hcv HB2 HB1
  go_wp2_with fail
  refine HK1.out.mono ?_
  rintro e w2 ⟨⟨Q1, q1, Q2, q2⟩, rfl, HP, hb3, HN⟩
  have B4 := B3.keep hb3
  have hb4 : Below w.heap.size w w2 := hb2.out.trans (hb3.mono hb2.out.size)
  have hlt2 := B3.lt
  have hlt3 := B4.lt
  have n1 : ∀ ad, Q1 = some ad → ad.block ≠ w.heap.size := fun ad h => by have := HN.1 ad h; omega
  have n2 : ∀ ad, Q2 = some ad → ad.block ≠ w.heap.size := fun ad h => by have := HN.2 ad h; omega
  have R1 := (((HP.1.far ⟨w.heap.size, 0, none⟩ n1 (.string (S p.nm))).far ⟨w.heap.size, 1, none⟩ n1 (.slice Q1 p.zs.length q1)).far ⟨w.heap.size, 2, none⟩ n1 (.slice Q2 p.ts.length q2)).far ⟨w.heap.size, 3, none⟩ n1 (.string (S p.ext))
  have R2 := (((HP.2.1.far ⟨w.heap.size, 0, none⟩ n2 (.string (S p.nm))).far ⟨w.heap.size, 1, none⟩ n2 (.slice Q1 p.zs.length q1)).far ⟨w.heap.size, 2, none⟩ n2 (.slice Q2 p.ts.length q2)).far ⟨w.heap.size, 3, none⟩ n2 (.string (S p.ext))
  have hsz : ((((w2.setCell ⟨w.heap.size, 0, none⟩ (.string (S p.nm))).setCell ⟨w.heap.size, 1, none⟩ (.slice Q1 p.zs.length q1)).setCell ⟨w.heap.size, 2, none⟩ (.slice Q2 p.ts.length q2)).setCell ⟨w.heap.size, 3, none⟩ (.string (S p.ext))).heap.size = w2.heap.size := by simp [World.setCell]
  have H1 := Lib.hid R1
  have H2 := Lib.hid R2
  have H3 := Lib.hid HP.2.2
  have H4 := Lib.hid hsz
  have H5 := Lib.hid (show NewAt w.heap.size ⟨Q1, q1, Q2, q2⟩ from ⟨fun ad h => by have := HN.1 ad h; omega, fun ad h => by have := HN.2 ad h; omega⟩)
  clear R1 R2 HP hsz HN n1 n2
  obtain ⟨r0, r1, r2, r3, rf⟩ := Blk.out (nm := []) (ext := []) B4
  clear hb3 hb2 B3 HK1
  unfold plA
  dsimp only
  go_wp2_with fail
  refine bodyPost_ret (v := .tuple #[.agg #[.string (S p.nm), .slice Q1 p.zs.length q1, .slice Q2 p.ts.length q2, .string (S p.ext)], .bool true]) (by simp only [results, Tryd.results13]; go_simp) rfl ?_
  exact ⟨⟨Q1, q1, Q2, q2⟩, rfl, ⟨by rw [H4.out]; exact H1.out, by rw [H4.out]; exact H2.out, H3.out⟩, by go_grown, H5.out⟩
theorem implLoad_ok (V : Value) (nm D : Bs) (p : Pl) (hz : (p.zs.length : Int) ≤ 2147483647) (ht : (p.ts.length : Int) ≤ 2147483647) (HL : Reads V nm D p) (w : World) (hV : w.cell? ⟨0, 0, none⟩ = some V) (hw0 : 0 < w.heap.size) :
    Calls Tryd.prog 13 #[.string (S nm), .string (S D)] w fun e w' => ∃ A : Ad, e = .returned (.tuple #[plA p A, .bool true]) ∧ PlIn w' w'.heap.size p A ∧ Below w.heap.size w w' :=
  (implLoad_okN V nm D p hz ht HL w hV hw0).mono fun _ _ ⟨A, he, hP, hb, _⟩ => ⟨A, he, hP, hb⟩

set_option maxRecDepth 100000 in
set_option maxHeartbeats 2000000 in
theorem implLoad_bad (T : TypeId) (x : Value) (nm D : Bs) (HL : Fails (.iface T x) nm D) (w : World) (hV : w.cell? ⟨0, 0, none⟩ = some (.iface T x)) (hw0 : 0 < w.heap.size) :
    Calls Tryd.prog 13 #[.string (S nm), .string (S D)] w fun e w' => e = .returned (.tuple #[.agg #[.string ⟨#[]⟩, .slice none 0 0, .slice none 0 0, .string ⟨#[]⟩], .bool false]) ∧ Below w.heap.size w w' := by
  have hb0 : Below w.heap.size w (w.alloc (.cells #[.string ⟨#[]⟩, .slice none 0 0, .slice none 0 0, .string ⟨#[]⟩] 25)) := (Below.refl _ _).alloc (Nat.le_refl _) _
  have B1 := Blk.new w 25 #[.string ⟨#[]⟩, .slice none 0 0, .slice none 0 0, .string ⟨#[]⟩] _ rfl
  have hcv := run_bytes (w.alloc (.cells #[.string ⟨#[]⟩, .slice none 0 0, .slice none 0 0, .string ⟨#[]⟩] 25)) D
  have hsl := bytes_slb (w.alloc (.cells #[.string ⟨#[]⟩, .slice none 0 0, .slice none 0 0, .string ⟨#[]⟩] 25)) 5 D
  have hbb := bytes_below (w.alloc (.cells #[.string ⟨#[]⟩, .slice none 0 0, .slice none 0 0, .string ⟨#[]⟩] 25)) 5 (S D)
  have hs1 : (w.alloc (.cells #[.string ⟨#[]⟩, .slice none 0 0, .slice none 0 0, .string ⟨#[]⟩] 25)).heap.size = w.heap.size + 1 := by simp
  rw [hs1] at hcv hsl
  have B2 := B1.keep hbb
  have hb1 := hb0.trans (hbb.mono (by rw [hs1]; omega))
  generalize Lib.bytesWorld (w.alloc (.cells #[.string ⟨#[]⟩, .slice none 0 0, .slice none 0 0, .string ⟨#[]⟩] 25)) 5 (S D) = W1 at *
  generalize grownCap (w.alloc (.cells #[.string ⟨#[]⟩, .slice none 0 0, .slice none 0 0, .string ⟨#[]⟩] 25)) D.length 0 5 = cap at *
  have HC := Lib.hid (HL W1 _ ((hb1.cell (p := ⟨0, 0, none⟩) hw0).trans hV) (by have := hb1.size; omega) hsl)
  have HB2 := Lib.hid B2
  have HB1 := Lib.hid hb1
  clear hb0 B1 hsl hbb hs1 B2 hb1 HL hV
  go_enter Tryd.func13, Tryd.ntmps13
  go_wp2_with fail
  refine HC.out.mono ?_
  rintro e w1 ⟨rfl, hbx⟩
  have B3 := HB2.out.keep hbx
  have hb2 := HB1.out.trans (hbx.mono HB1.out.size)
  have hlt3 := B3.lt
  obtain ⟨r0, r1, r2, r3, rf⟩ := Blk.out (nm := []) (ext := []) B3
  clear hbx HC hcv HB2 HB1
  go_wp2_with fail
  refine bodyPost_ret (v := .tuple #[.agg #[.string ⟨#[]⟩, .slice none 0 0, .slice none 0 0, .string ⟨#[]⟩], .bool false]) (by simp only [results, Tryd.results13]; go_simp) rfl ?_
  exact ⟨rfl, by go_grown⟩

end Go.Proofs.YtgmlclhdibajiaaDoor
