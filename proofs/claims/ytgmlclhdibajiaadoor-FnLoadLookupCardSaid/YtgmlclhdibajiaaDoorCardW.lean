/- The listed variable of the cards: what the condition gives, a world that meets it. -/
import Derived.Test.YtgmlclhdibajiaaDoorFacts
import Derived.Test.YtgmlclhdibajiaaDoorTie
import Derived.Test.YtgmlclhdibajiaaDoorWords
import Derived.ChangeSame
import Derived.ChangeVars
import Derived.JoinedOf
import Derived.RowKit
import Derived.RowKitTokens
import Derived.LaidLaws
import Derived.LaidHandle
import Derived.Stop.LaidErr
namespace Go.Proofs.YtgmlclhdibajiaaDoor
open Go.ChangeShapes Go.WideShapes Go.RowKit

theorem card_own : ownKnob Tryd.prog.godebug = none := by kernel_rfl
theorem card_glob : Tryd.prog.globalNamed "loop.example/pub-zonerules/pub/gotimezone.errBadData" = some 0 := by kernel_rfl
theorem card_gtype : (Tryd.prog.globals[0]?).map (·.type) = some 48 := by kernel_rfl
theorem card_cells : Tryd.prog.cellsOf 147 = 1 := by kernel_rfl
theorem card_cells9 : Tryd.prog.cellsOf 9 = 1 := by kernel_rfl
theorem card_star : "*" ++ "errors.errorString" = "*errors.errorString" := by decide
theorem card_row (u : TypeId) (h : Tryd.prog.typeName? 3 u = some "*errors.errorString") : u = 130 :=
  typeName_ptr_named (nm := "errors.errorString") (by rw [card_star]; kernel_rfl) (by kernel_rfl) (by decide) u (by rw [card_star]; exact h)
/-- what is listed -/
def cardLaid : List (String × DataW Unit) := [("loop.example/pub-zonerules/pub/gotimezone.errBadData", Rows.laid_loop_example_pub_zonerules_pub_gotimezone_errBadData)]
/-- the variable holds an error: a pointer -/
theorem card_laid {W : World} (h : laidMetH Tryd.prog cardLaid W) : ∃ a0 : Addr, W.var? Tryd.prog "loop.example/pub-zonerules/pub/gotimezone.errBadData" = some #[.iface 130 (.pointer (some a0))] := by
  have h : laidMet Tryd.prog cardLaid W := h
  obtain ⟨a0, s0, hv0, _⟩ := laid_sentinel h card_glob card_gtype Tryd.underlying48 card_row Tryd.underlying130 Tryd.underlying147 rfl rfl Tryd.underlying9 card_cells card_cells9
  exact ⟨a0, hv0⟩
theorem card_cell {W : World} {x : Value} (h : W.var? Tryd.prog "loop.example/pub-zonerules/pub/gotimezone.errBadData" = some #[x]) : W.cell? ⟨0, 0, none⟩ = some x := by
  simpa using World.var?_cell card_glob h 0
theorem card_var {W : World} {x : Value} (h : W.var? Tryd.prog "loop.example/pub-zonerules/pub/gotimezone.errBadData" = some #[x]) : 0 < W.heap.size := by
  have hc := card_cell h
  rcases Nat.lt_or_ge 0 W.heap.size with h' | h'
  · exact h'
  · simp [World.cell?, Array.getElem?_eq_none h'] at hc
theorem card_var_below {W W' : World} {x : Value} (hb : Below W.heap.size W W') (h : W.var? Tryd.prog "loop.example/pub-zonerules/pub/gotimezone.errBadData" = some #[x]) : W'.var? Tryd.prog "loop.example/pub-zonerules/pub/gotimezone.errBadData" = some #[x] := by
  have h0 := card_var h
  unfold World.var? at h ⊢
  rw [card_glob] at h ⊢
  simp only [Option.bind_some] at h ⊢
  rw [hb.block 0 h0]
  exact h
theorem card_read {H : Type} (enc : TypeId × Value → H) {W : World} {x : Value} (h : W.var? Tryd.prog "loop.example/pub-zonerules/pub/gotimezone.errBadData" = some #[x]) (hi : IsIface x) (sp : Nat → Bool) :
    DataW.TrodVars enc Tryd.prog W sp ["loop.example/pub-zonerules/pub/gotimezone.errBadData"] [tok enc x] [.cell 0 0] :=
  vars_read1 enc card_glob card_gtype Tryd.underlying48 h hi sp
/-- a world that meets the condition -/
noncomputable def cardLow : Nat := (World.holding Tryd.prog default ⟨#[], #[], []⟩).heap.size
noncomputable def cardWorld (os : Os) : World :=
  let w0 := World.holding Tryd.prog os ⟨#[.cells #[.string (S [109, 97, 108, 102, 111, 114, 109, 101, 100, 32, 116, 105, 109, 101, 32, 122, 111, 110, 101, 32, 105, 110, 102, 111, 114, 109, 97, 116, 105, 111, 110])] 147], #[], []⟩
  { w0 with heap := w0.heap.modify 0 fun
      | .cells _ t frozen => .cells #[.iface 130 (.pointer (some ⟨cardLow, 0, none⟩))] t frozen
      | o => o }
theorem cardWorld_met (os : Os) (args : Array Value) : laidMetH Tryd.prog cardLaid ((cardWorld os).forCall (fun _ _ => 0) ⟨#[], args, []⟩).memory := by
  show laidMet Tryd.prog cardLaid _
  exact laidMet_of_run (ps := [.cell 0 0, .cell cardLow 0]) 8 (by kernel_rfl) (by kernel_rfl) (by kernel_rfl)

end Go.Proofs.YtgmlclhdibajiaaDoor
