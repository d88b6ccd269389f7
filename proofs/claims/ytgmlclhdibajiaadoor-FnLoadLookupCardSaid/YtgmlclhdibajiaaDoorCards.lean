/-
  DERIVED. GIVEN WITH THE SEED: THE CARDS: each row of YtgmlclhdibajiaaDoorRows.lean that lists a variable, with what it lists TIED to the program's text (the seventh form; the later family's looks); each row that meets fmt, with fmt's text TOLD by the authors' own Lean function (tested against real Go, not proved from fmt's source: count such statements apart). THE CARD IS WHAT COUNTS. Prove the row's statement (the work); the ties are given (YtgmlclhdibajiaaDoorTie.lean); close each card by the builder's one call (the guide's Derived/Test/ToyasCard.lean, 'card_holds'). Laid BY PROGRAM, IN A SANDBOX (cutbox-door.mjs). By AI agents, Wed Nov 11 2026. No macro, syntax, notation, axiom, sorry.
-/
import Derived.Test.YtgmlclhdibajiaaDoorRows
import GoSem.ClaimSeven
namespace Go.Proofs.YtgmlclhdibajiaaDoor
namespace Rows

/-- THE TIED CARD OF 'laws.FnLoadLookup'. -/
def fnLoadLookupCard : Claim7 := { stood := { row := fnLoadLookupRow, standIns := [], harness := (true, "3f9f44d4b034b46353b5df00559eebd1848c4b4f0cdc85ea5b3d7c42a3113c23"), looks := false }, kinds := [], alts := [], laidByText := true, laidKinds := [.sentinel], laidTests := true, laidLooks := .later }
def FnLoadLookupCardSaid : Prop := Claim7.holds Tryd.pinned (.plain (OpenSpec.ofChange fnLoadLookupSpec)) fnLoadLookupCard

/-- THE TIED CARD OF 'laws.FnLoadCut'. -/
def fnLoadCutCard : Claim7 := { stood := { row := fnLoadCutRow, standIns := [], harness := (true, "3f9f44d4b034b46353b5df00559eebd1848c4b4f0cdc85ea5b3d7c42a3113c23"), looks := false }, kinds := [], alts := [], laidByText := true, laidKinds := [.sentinel], laidTests := true, laidLooks := .later }
def FnLoadCutCardSaid : Prop := Claim7.holds Tryd.pinned (.plain (OpenSpec.ofChange fnLoadCutSpec)) fnLoadCutCard

/-- THE TIED CARD OF 'laws.FnLoadFile1'. -/
def fnLoadFile1Card : Claim7 := { stood := { row := fnLoadFile1Row, standIns := [], harness := (true, "3f9f44d4b034b46353b5df00559eebd1848c4b4f0cdc85ea5b3d7c42a3113c23"), looks := false }, kinds := [], alts := [], laidByText := true, laidKinds := [.sentinel], laidTests := true, laidLooks := .later }
def FnLoadFile1CardSaid : Prop := Claim7.holds Tryd.pinned (.plain (OpenSpec.ofChange fnLoadFile1Spec)) fnLoadFile1Card

/-- THE TIED CARD OF 'laws.FnLoadFile2'. -/
def fnLoadFile2Card : Claim7 := { stood := { row := fnLoadFile2Row, standIns := [], harness := (true, "3f9f44d4b034b46353b5df00559eebd1848c4b4f0cdc85ea5b3d7c42a3113c23"), looks := false }, kinds := [], alts := [], laidByText := true, laidKinds := [.sentinel], laidTests := true, laidLooks := .later }
def FnLoadFile2CardSaid : Prop := Claim7.holds Tryd.pinned (.plain (OpenSpec.ofChange fnLoadFile2Spec)) fnLoadFile2Card

/-- THE TIED CARD OF 'laws.FnLoadIndex'. -/
def fnLoadIndexCard : Claim7 := { stood := { row := fnLoadIndexRow, standIns := [], harness := (true, "3f9f44d4b034b46353b5df00559eebd1848c4b4f0cdc85ea5b3d7c42a3113c23"), looks := false }, kinds := [], alts := [], laidByText := true, laidKinds := [.sentinel], laidTests := true, laidLooks := .later }
def FnLoadIndexCardSaid : Prop := Claim7.holds Tryd.pinned (.plain (OpenSpec.ofChange fnLoadIndexSpec)) fnLoadIndexCard

/-- THE TIED CARD OF 'laws.FnLoadMagic'. -/
def fnLoadMagicCard : Claim7 := { stood := { row := fnLoadMagicRow, standIns := [], harness := (true, "3f9f44d4b034b46353b5df00559eebd1848c4b4f0cdc85ea5b3d7c42a3113c23"), looks := false }, kinds := [], alts := [], laidByText := true, laidKinds := [.sentinel], laidTests := true, laidLooks := .later }
def FnLoadMagicCardSaid : Prop := Claim7.holds Tryd.pinned (.plain (OpenSpec.ofChange fnLoadMagicSpec)) fnLoadMagicCard

/-- THE TIED CARD OF 'laws.FnLoadNone'. -/
def fnLoadNoneCard : Claim7 := { stood := { row := fnLoadNoneRow, standIns := [], harness := (true, "3f9f44d4b034b46353b5df00559eebd1848c4b4f0cdc85ea5b3d7c42a3113c23"), looks := false }, kinds := [], alts := [], laidByText := true, laidKinds := [.sentinel], laidTests := true, laidLooks := .later }
def FnLoadNoneCardSaid : Prop := Claim7.holds Tryd.pinned (.plain (OpenSpec.ofChange fnLoadNoneSpec)) fnLoadNoneCard

/-- THE SECOND FORM's CARD OF 'laws.FnLoadLookup'. -/
def fnLoadLookupUptoCard : Claim7 := { stood := { row := fnLoadLookupUptoRow, standIns := [], harness := (true, "3f9f44d4b034b46353b5df00559eebd1848c4b4f0cdc85ea5b3d7c42a3113c23"), looks := false }, kinds := [], alts := [], laidByText := true, laidKinds := [.sentinel], laidTests := true, laidLooks := .later }
def FnLoadLookupUptoCardSaid : Prop := Claim7.holds Tryd.pinned (.plain (OpenSpec.upto fnLoadLookupSpec)) fnLoadLookupUptoCard

/-- THE SECOND FORM's CARD OF 'laws.FnLoadCut'. -/
def fnLoadCutUptoCard : Claim7 := { stood := { row := fnLoadCutUptoRow, standIns := [], harness := (true, "3f9f44d4b034b46353b5df00559eebd1848c4b4f0cdc85ea5b3d7c42a3113c23"), looks := false }, kinds := [], alts := [], laidByText := true, laidKinds := [.sentinel], laidTests := true, laidLooks := .later }
def FnLoadCutUptoCardSaid : Prop := Claim7.holds Tryd.pinned (.plain (OpenSpec.upto fnLoadCutSpec)) fnLoadCutUptoCard

/-- THE SECOND FORM's CARD OF 'laws.FnLoadFile1'. -/
def fnLoadFile1UptoCard : Claim7 := { stood := { row := fnLoadFile1UptoRow, standIns := [], harness := (true, "3f9f44d4b034b46353b5df00559eebd1848c4b4f0cdc85ea5b3d7c42a3113c23"), looks := false }, kinds := [], alts := [], laidByText := true, laidKinds := [.sentinel], laidTests := true, laidLooks := .later }
def FnLoadFile1UptoCardSaid : Prop := Claim7.holds Tryd.pinned (.plain (OpenSpec.upto fnLoadFile1Spec)) fnLoadFile1UptoCard

/-- THE SECOND FORM's CARD OF 'laws.FnLoadFile2'. -/
def fnLoadFile2UptoCard : Claim7 := { stood := { row := fnLoadFile2UptoRow, standIns := [], harness := (true, "3f9f44d4b034b46353b5df00559eebd1848c4b4f0cdc85ea5b3d7c42a3113c23"), looks := false }, kinds := [], alts := [], laidByText := true, laidKinds := [.sentinel], laidTests := true, laidLooks := .later }
def FnLoadFile2UptoCardSaid : Prop := Claim7.holds Tryd.pinned (.plain (OpenSpec.upto fnLoadFile2Spec)) fnLoadFile2UptoCard

/-- THE SECOND FORM's CARD OF 'laws.FnLoadIndex'. -/
def fnLoadIndexUptoCard : Claim7 := { stood := { row := fnLoadIndexUptoRow, standIns := [], harness := (true, "3f9f44d4b034b46353b5df00559eebd1848c4b4f0cdc85ea5b3d7c42a3113c23"), looks := false }, kinds := [], alts := [], laidByText := true, laidKinds := [.sentinel], laidTests := true, laidLooks := .later }
def FnLoadIndexUptoCardSaid : Prop := Claim7.holds Tryd.pinned (.plain (OpenSpec.upto fnLoadIndexSpec)) fnLoadIndexUptoCard

/-- THE SECOND FORM's CARD OF 'laws.FnLoadMagic'. -/
def fnLoadMagicUptoCard : Claim7 := { stood := { row := fnLoadMagicUptoRow, standIns := [], harness := (true, "3f9f44d4b034b46353b5df00559eebd1848c4b4f0cdc85ea5b3d7c42a3113c23"), looks := false }, kinds := [], alts := [], laidByText := true, laidKinds := [.sentinel], laidTests := true, laidLooks := .later }
def FnLoadMagicUptoCardSaid : Prop := Claim7.holds Tryd.pinned (.plain (OpenSpec.upto fnLoadMagicSpec)) fnLoadMagicUptoCard

/-- THE SECOND FORM's CARD OF 'laws.FnLoadNone'. -/
def fnLoadNoneUptoCard : Claim7 := { stood := { row := fnLoadNoneUptoRow, standIns := [], harness := (true, "3f9f44d4b034b46353b5df00559eebd1848c4b4f0cdc85ea5b3d7c42a3113c23"), looks := false }, kinds := [], alts := [], laidByText := true, laidKinds := [.sentinel], laidTests := true, laidLooks := .later }
def FnLoadNoneUptoCardSaid : Prop := Claim7.holds Tryd.pinned (.plain (OpenSpec.upto fnLoadNoneSpec)) fnLoadNoneUptoCard
end Rows
end Go.Proofs.YtgmlclhdibajiaaDoor
