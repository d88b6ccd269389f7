/- FirstZone of the package and of the thin package. -/
import Derived.Test.YtjgidakfpdmfdaaImplLook
namespace Go.Proofs.Ytjgidakfpdmfdaa
open Go.RowKit

theorem pubFirst_ret (p : Pl) (a : Ad) (g : Nat) (w : World) (hL : Loc w g p a) (hok : plOk p) :
    Calls Try.prog 22 #[.pointer (some ⟨g, 0, none⟩)] w fun e w' => e = .returned (.int .i64 (firstZ p.zs p.ts : Int)) ∧ Below w.heap.size w w' := by
  have h1 := hok.2.2.1
  have h2 := hok.2.2.2
  have HC := Lib.hid (lookupFirstZone_ret p a g w hL (by omega) (by omega) (plOk_ix hok))
  go_enter Try.func22, Try.ntmps22
  go_wp2_with fail
  refine HC.out.mono ?_
  rintro e w1 ⟨rfl, hb⟩
  go_wp2
  go_ret
  exact ⟨rfl, hb⟩
set_option maxHeartbeats 2000000 in
theorem implFirst_ret (p : Pl) (a : Ad) (w : World) (B : Nat) (hB : B ≤ w.heap.size) (hR : PlIn w B p a) (hok : plOk p) :
    Calls Try.prog 13 #[plA p a] w fun e w' => e = .returned (.int .i64 (firstZ p.zs p.ts : Int)) ∧ Below w.heap.size w w' := by
  have h1 := hok.2.2.1
  have h2 := hok.2.2.2
  obtain ⟨A1, k1, A2, k2⟩ := a
  have HB1 := InP.new w p ⟨A1, k1, A2, k2⟩
  have HC := Lib.hid (place_loc p ⟨A1, k1, A2, k2⟩ _ B (Nat.le_trans hB HB1.2.size) (hR.below HB1.2 hB) (by omega) (by omega))
  have HK := Lib.hid (fun (g : Nat) (a : Ad) (W : World) (hL : Loc W g p a) => pubFirst_ret p a g W hL hok)
  clear hR h1 h2
  obtain ⟨c0, c1, c2, c3⟩ := HB1.cells
  unfold plA at *
  dsimp only at c1 c2 HC HB1 ⊢
  go_enter Try.func13, Try.ntmps13
  go_wp2_with fail
  refine HC.out.mono ?_
  rintro e w1 ⟨v, rfl, g, a', rfl, hL, hb1⟩
  have HK1 := Lib.hid (HK.out g a' w1 hL)
  have hb2 := HB1.2.trans (hb1.mono HB1.2.size)
  clear hL hb1 HC HK c0 c1 c2 c3 HB1
  go_wp2_with fail
  refine HK1.out.mono ?_
  rintro e w2 ⟨rfl, hb3⟩
  have hb4 : Below w.heap.size w w2 := hb2.trans (hb3.mono hb2.size)
  go_wp2_with fail
  go_ret
  exact ⟨rfl, hb4⟩

end Go.Proofs.Ytjgidakfpdmfdaa
