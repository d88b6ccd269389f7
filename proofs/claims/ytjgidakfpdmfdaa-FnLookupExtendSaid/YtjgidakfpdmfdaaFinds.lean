/- The laws' own test 'finds'. -/
import Derived.Test.YtjgidakfpdmfdaaImplParts
namespace Go.Proofs.Ytjgidakfpdmfdaa
open Go.RowKit

def pF : Pl := ⟨[], [⟨[65, 66, 67], 60, false⟩], [], []⟩
theorem pF_ok : plOk pF := by
  refine ⟨?_, ?_, ?_, ?_⟩
  · intro z hz; simp [pF] at hz; subst hz; decide
  · intro k t h; simp [pF] at h
  · decide
  · decide
theorem lookF_pF : lookF pF 5 = ⟨[65, 66, 67], 60, -9223372036854775808, 9223372036854775807, false⟩ := by
  rw [lookF_first pF 5 ⟨[65, 66, 67], 60, false⟩ rfl rfl]; rfl
theorem field_found (s : ByteArray) (a b c d : Value) (w : World) : (Instr.field 34 (.agg #[.string s, a, b, c, d]) 0).run Try.prog w = .ok (.string s) w := by kernel_rfl
theorem field_place (s t : Value) (A : Option Addr) (n c : Nat) (u : Value) (w : World) : (Instr.field 25 (.agg #[s, .slice A n c, t, u]) 1).run Try.prog w = .ok (.slice A n c) w := by kernel_rfl
set_option maxRecDepth 100000 in
set_option maxHeartbeats 4000000 in
theorem finds_ret : Ret 10 #[] (.bool true) := by
  intro w
  have hb0 : Below w.heap.size w ((w.alloc (.cells #[.string ⟨#[65, 66, 67]⟩, .int .i64 60, .bool false] 29)).alloc (.cells #[.string ⟨#[]⟩, .slice (some ⟨w.heap.size, 0, none⟩) 1 1, .slice none 0 0, .string ⟨#[]⟩] 25)) := ((Below.refl _ _).alloc (Nat.le_refl _) _).alloc (by simp) _
  have BZ := (Blk.new w 29 #[.string ⟨#[65, 66, 67]⟩, .int .i64 60, .bool false] _ rfl).alloc (.cells #[.string ⟨#[]⟩, .slice (some ⟨w.heap.size, 0, none⟩) 1 1, .slice none 0 0, .string ⟨#[]⟩] 25)
  have BP := Blk.new (w.alloc (.cells #[.string ⟨#[65, 66, 67]⟩, .int .i64 60, .bool false] 29)) 25 #[.string ⟨#[]⟩, .slice (some ⟨w.heap.size, 0, none⟩) 1 1, .slice none 0 0, .string ⟨#[]⟩] (w.heap.size + 1) (by simp)
  have hPl : ∀ W : World, Blk W w.heap.size 29 #[.string ⟨#[65, 66, 67]⟩, .int .i64 60, .bool false] → PlIn W W.heap.size pF ⟨some ⟨w.heap.size, 0, none⟩, 1, none, 0⟩ := by
    intro W hW
    refine ⟨fun _ => ⟨_, rfl, hW.lt, ?_⟩, fun h => by simp [pF] at h, fun t ht => by simp [pF] at ht⟩
    intro j u hu
    have e : (⟨w.heap.size, 0, none⟩ : Addr).add j = ⟨w.heap.size, j, none⟩ := by unfold Addr.add; split <;> simp_all
    rw [e, hW.cell j]
    have hl : zosC pF.zs = [.string ⟨#[65, 66, 67]⟩, .int .i64 60, .bool false] := rfl
    rw [hl] at hu
    simpa using hu
  have H1 := implLookup_ret pF ⟨some ⟨w.heap.size, 0, none⟩, 1, none, 0⟩ _ _ (Nat.le_refl _) (hPl _ BZ) (by decide) (by decide) (.inr pF_ok) (by decide) 5
  obtain ⟨x, y, hxy⟩ : ∃ x y, lookF pF 5 = ⟨[65, 66, 67], 60, x, y, false⟩ := ⟨_, _, lookF_pF⟩
  rw [hxy] at H1
  have H1 := Lib.hid H1
  clear hxy
  have H2 := Lib.hid (fun (W : World) (hW : Blk W w.heap.size 29 #[.string ⟨#[65, 66, 67]⟩, .int .i64 60, .bool false]) => implParts_ret pF ⟨some ⟨w.heap.size, 0, none⟩, 1, none, 0⟩ W _ (Nat.le_refl _) (hPl W hW) (by decide) (by decide))
  clear hPl
  have ff := field_found
  have fp := field_place
  go_enter Try.func10, Try.ntmps10
  go_wp2_with fail
  refine H1.out.mono ?_
  rintro e w1 ⟨he, hb1⟩
  change e = .returned (.agg #[.string ⟨#[65, 66, 67]⟩, .int .i64 60, .int .i64 x, .int .i64 y, .bool false]) at he
  subst he
  have BZ1 := BZ.keep hb1
  have BP1 := BP.keep hb1
  have hb2 := hb0.trans (hb1.mono hb0.size)
  have H3 := Lib.hid (H2.out w1 BZ1)
  have c0 := BP1.cell 0
  have c1 := BP1.cell 1
  have c2 := BP1.cell 2
  have c3 := BP1.cell 3
  simp at c0 c1 c2 c3
  have hlt := BP1.lt
  clear H1 H2 hb0 BZ BP hb1
  go_wp2_with fail
  refine H3.out.mono ?_
  rintro e w2 ⟨⟨Q1, q1, Q2, q2⟩, rfl, _, hb3⟩
  have hb4 : Below w.heap.size w w2 := hb2.trans (hb3.mono hb2.size)
  unfold plA
  dsimp only
  clear c0 c1 c2 c3 hb3
  go_wp2_with fail
  go_ret
  exact ⟨rfl, hb4⟩

end Go.Proofs.Ytjgidakfpdmfdaa
