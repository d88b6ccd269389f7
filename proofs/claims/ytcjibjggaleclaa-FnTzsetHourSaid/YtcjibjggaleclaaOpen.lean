/- Arguments that are structs, opened: a rule, a zone. -/
import Derived.Test.YtcjibjggaleclaaRule
import Derived.Test.YtcjibjggaleclaaFacts
import Derived.OpenShut
import Derived.ShutString
import Derived.ChangeOld
import Derived.Lib.SmallJoins
namespace Go.Proofs.Ytcjibjggaleclaa
open Go.ChangeShapes Go.WideShapes Go.ChangeAt Go.RowKit Go.Joins Go.Deep

theorem fact_laid : laidOutB Try.prog = true := by kernel_rfl

section
variable {H : Type} {enc : TypeId × Value → H} {w : World} {base : Nat} {spare : Nat → Bool} {held : Bool} {r : Reach} {b0 : Nat} {v : Value} {d : DataW H} {p : List MemPlace}
theorem int_of {n : Nat} {y : DataW H × List MemPlace} {c : Value} (h : DataW.trod enc Try.prog w base spare held n 3 [c] = some y) : ∃ x : Int, c = .int .i64 x := by
  obtain ⟨a, e, _, _⟩ := DataW.trod_int Try.underlying3 h
  simp at e
  exact ⟨a, e⟩

theorem list5 {α : Type} {l : List α} (h : l.length = 5) : ∃ a b c d e, l = [a, b, c, d, e] := by
  match l, h with
  | [a, b, c, d, e], _ => exact ⟨a, b, c, d, e, rfl⟩

set_option maxRecDepth 100000 in
theorem open_rule (hv : Value.okWide Try.prog w r b0 25 v) (h : DataW.Trod enc Try.prog w base spare held 25 v d p) : ∃ x : Ru, v = ruA x := by
  obtain ⟨cs, rfl, hsz⟩ := okWide_struct Try.underlying25 hv
  obtain ⟨l⟩ := cs
  have hC : Try.prog.cellsOf 25 = 5 := by kernel_rfl
  obtain ⟨c0, c1, c2, c3, c4, rfl⟩ := list5 (l := l) (hsz.trans hC)
  obtain ⟨fuel, hf⟩ := h
  obtain ⟨xs, n, _, hx, _, hlen, hg⟩ := DataW.trod_struct Try.underlying25 hf
  obtain ⟨y0, y1, y2, y3, y4, rfl⟩ := list5 (l := xs) hlen
  have g0 := hg 0 _ rfl
  have g1 := hg 1 _ rfl
  have g2 := hg 2 _ rfl
  have g3 := hg 3 _ rfl
  have g4 := hg 4 _ rfl
  simp only [Value.cells] at g0 g1 g2 g3 g4
  obtain ⟨a0, rfl⟩ := int_of (c := c0) g0
  obtain ⟨a1, rfl⟩ := int_of (c := c1) g1
  obtain ⟨a2, rfl⟩ := int_of (c := c2) g2
  obtain ⟨a3, rfl⟩ := int_of (c := c3) g3
  obtain ⟨a4, rfl⟩ := int_of (c := c4) g4
  exact ⟨⟨a0, a1, a2, a3, a4⟩, rfl⟩

def zoA (n : Bs) (off : Int) (dst : Bool) : Value := .agg #[.string (S n), .int .i64 off, .bool dst]
set_option maxRecDepth 100000 in
theorem open_zone (hv : Value.okWide Try.prog w r b0 23 v) (h : DataW.Trod enc Try.prog w base spare held 23 v d p) : ∃ (n : Bs) (off : Int) (dst : Bool), v = zoA n off dst := by
  obtain ⟨c0, c1, c2, y0, y1, y2, n, rfl, _, _, g0, g1, g2⟩ := open_agg3 Try.underlying23 (by kernel_rfl) (by kernel_rfl) hv h
  obtain ⟨a, e, _, _⟩ := DataW.trod_string Try.underlying9 g0
  obtain ⟨a1, rfl⟩ := int_of g1
  obtain ⟨b, e2, _⟩ := DataW.trod_bool Try.underlying4 g2
  simp at e e2
  subst e e2
  exact ⟨a.data.toList, a1, b, by rw [zoA, S_of]⟩
end
end Go.Proofs.Ytcjibjggaleclaa
