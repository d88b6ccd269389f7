/-
  NARROWER THAN 'FOR EVERY INPUT', by the rows' own cells (each row's printed sentence says how): FnLoadLookup: ifaces, laid · FnLoadCut: ifaces, laid · FnLoadFile1: ifaces, laid · FnLoadFile2: ifaces, laid · FnLoadIndex: ifaces, laid · FnLoadMagic: ifaces, laid · FnLoadNone: ifaces, laid.
  DERIVED. THE GIVEN ROWS OF THIS SEAT. 7 by the template 'for every input the law returns true; each argument reads behind the call as it read before'; 0 by the template 'total and deterministic' (their statements: YtgmlclhdibajiaaDoorTotals.lean).
  GIVEN WITH THE SEED: the statements are not yours to turn. If you find one false, say at which input.
  Laid BY PROGRAM, IN A SANDBOX (cutbox-rows.mjs): the forced cells as the released guide's own fill.sh prints them over the translation bfae6cb7eac7c3b0… (all of the seat's roots in one cut). By AI agents, Wed Nov 11 2026. No macro, syntax, notation, axiom, sorry.
-/
import Derived.Test.YtgmlclhdibajiaaDoorChecked
import GoSem.Claim
import GoSem.ClaimJoined
import GoSem.ClaimMapViews
import Derived.JoinedTies
import Derived.KernelRfl
namespace Go.Proofs.YtgmlclhdibajiaaDoor
/- THE CELL 'sum', in the pinned program and in every row, IS THE sha256 OF THE DUMP (.gsa) THAT YtgmlclhdibajiaaDoorProg.lean LOADS. Nothing in Lean hashes anything: it is a label: what it is worth is what the hold of that sum in a sandbox is worth. -/
noncomputable def Tryd.pinned : Pinned := { name := "ytgmlclhdibajiaadoor", sum := "bfae6cb7eac7c3b0c3c69ea6e86a4c3d17f24116c63dbd38fe5becd16748af44", checked := Tryd.checked }
namespace Rows
def none {H : Type} : Left H := { results := [], args := [] }

/- WHAT THE LISTED PACKAGE-LEVEL VARIABLES READ AS WHEN THE CALL BEGINS. Each datum BY PROGRAM (the guide's laid-datum.mjs) off the statement by which the dump's own 'gosem.cut.vars' lays the variable. In a bare row this is a premise. The card (YtgmlclhdibajiaaDoorCards.lean) ties it to the program's text. -/
def laid_loop_example_pub_zonerules_pub_gotimezone_errBadData {H : Type} : DataW H := .iface "*errors.errorString" (.ptr (.agg [.lit (.string [109, 97, 108, 102, 111, 114, 109, 101, 100, 32, 116, 105, 109, 101, 32, 122, 111, 110, 101, 32, 105, 110, 102, 111, 114, 109, 97, 116, 105, 111, 110])]))

/-- 'laws.FnLoadLookup': WHATEVER THE INPUT: true; the input reads as it did. -/
def fnLoadLookupSpec : ChangeSpec := { name := "fnLoadLookup", vars := ["loop.example/pub-zonerules/pub/gotimezone.errBadData"], fn := fun _ => fun
  | [d1, d2, g1] => { results := [.lit (.bool true)], args := [d1, d2], vars := [g1] }
  | _ => none }
def fnLoadLookupRow : OpenClaim := { program := "ytgmlclhdibajiaadoor", sum := "bfae6cb7eac7c3b0c3c69ea6e86a4c3d17f24116c63dbd38fe5becd16748af44", func := "loop.example/pub-zonerules/laws.FnLoadLookup", spec := "fnLoadLookup", named := ["loop.example/pub-zonerules/pub/gotimezone.errBadData"], ifaces := true, apart := false, laid := [("loop.example/pub-zonerules/pub/gotimezone.errBadData", laid_loop_example_pub_zonerules_pub_gotimezone_errBadData)] }
def FnLoadLookupSaid : Prop := fnLoadLookupRow.holds Tryd.pinned (OpenSpec.ofChange fnLoadLookupSpec)

/-- ITS FALSE NEIGHBOUR: 'it returns false'. Refute it at one input. -/
def fnLoadLookupWrong : ChangeSpec := { name := "fnLoadLookup", vars := ["loop.example/pub-zonerules/pub/gotimezone.errBadData"], fn := fun _ => fun
  | [d1, d2, g1] => { results := [.lit (.bool false)], args := [d1, d2], vars := [g1] }
  | _ => none }
def FnLoadLookupWrongFalsely : Prop := fnLoadLookupRow.holds Tryd.pinned (OpenSpec.ofChange fnLoadLookupWrong)

/-- 'laws.FnLoadCut': WHATEVER THE INPUT: true; the input reads as it did. -/
def fnLoadCutSpec : ChangeSpec := { name := "fnLoadCut", vars := ["loop.example/pub-zonerules/pub/gotimezone.errBadData"], fn := fun _ => fun
  | [d1, d2, g1] => { results := [.lit (.bool true)], args := [d1, d2], vars := [g1] }
  | _ => none }
def fnLoadCutRow : OpenClaim := { program := "ytgmlclhdibajiaadoor", sum := "bfae6cb7eac7c3b0c3c69ea6e86a4c3d17f24116c63dbd38fe5becd16748af44", func := "loop.example/pub-zonerules/laws.FnLoadCut", spec := "fnLoadCut", named := ["loop.example/pub-zonerules/pub/gotimezone.errBadData"], ifaces := true, apart := false, laid := [("loop.example/pub-zonerules/pub/gotimezone.errBadData", laid_loop_example_pub_zonerules_pub_gotimezone_errBadData)] }
def FnLoadCutSaid : Prop := fnLoadCutRow.holds Tryd.pinned (OpenSpec.ofChange fnLoadCutSpec)

/-- ITS FALSE NEIGHBOUR: 'it returns false'. Refute it at one input. -/
def fnLoadCutWrong : ChangeSpec := { name := "fnLoadCut", vars := ["loop.example/pub-zonerules/pub/gotimezone.errBadData"], fn := fun _ => fun
  | [d1, d2, g1] => { results := [.lit (.bool false)], args := [d1, d2], vars := [g1] }
  | _ => none }
def FnLoadCutWrongFalsely : Prop := fnLoadCutRow.holds Tryd.pinned (OpenSpec.ofChange fnLoadCutWrong)

/-- 'laws.FnLoadFile1': WHATEVER THE INPUT: true; the input reads as it did. -/
def fnLoadFile1Spec : ChangeSpec := { name := "fnLoadFile1", vars := ["loop.example/pub-zonerules/pub/gotimezone.errBadData"], fn := fun _ => fun
  | [d1, d2, g1] => { results := [.lit (.bool true)], args := [d1, d2], vars := [g1] }
  | _ => none }
def fnLoadFile1Row : OpenClaim := { program := "ytgmlclhdibajiaadoor", sum := "bfae6cb7eac7c3b0c3c69ea6e86a4c3d17f24116c63dbd38fe5becd16748af44", func := "loop.example/pub-zonerules/laws.FnLoadFile1", spec := "fnLoadFile1", named := ["loop.example/pub-zonerules/pub/gotimezone.errBadData"], ifaces := true, apart := false, laid := [("loop.example/pub-zonerules/pub/gotimezone.errBadData", laid_loop_example_pub_zonerules_pub_gotimezone_errBadData)] }
def FnLoadFile1Said : Prop := fnLoadFile1Row.holds Tryd.pinned (OpenSpec.ofChange fnLoadFile1Spec)

/-- ITS FALSE NEIGHBOUR: 'it returns false'. Refute it at one input. -/
def fnLoadFile1Wrong : ChangeSpec := { name := "fnLoadFile1", vars := ["loop.example/pub-zonerules/pub/gotimezone.errBadData"], fn := fun _ => fun
  | [d1, d2, g1] => { results := [.lit (.bool false)], args := [d1, d2], vars := [g1] }
  | _ => none }
def FnLoadFile1WrongFalsely : Prop := fnLoadFile1Row.holds Tryd.pinned (OpenSpec.ofChange fnLoadFile1Wrong)

/-- 'laws.FnLoadFile2': WHATEVER THE INPUT: true; the input reads as it did. -/
def fnLoadFile2Spec : ChangeSpec := { name := "fnLoadFile2", vars := ["loop.example/pub-zonerules/pub/gotimezone.errBadData"], fn := fun _ => fun
  | [d1, d2, g1] => { results := [.lit (.bool true)], args := [d1, d2], vars := [g1] }
  | _ => none }
def fnLoadFile2Row : OpenClaim := { program := "ytgmlclhdibajiaadoor", sum := "bfae6cb7eac7c3b0c3c69ea6e86a4c3d17f24116c63dbd38fe5becd16748af44", func := "loop.example/pub-zonerules/laws.FnLoadFile2", spec := "fnLoadFile2", named := ["loop.example/pub-zonerules/pub/gotimezone.errBadData"], ifaces := true, apart := false, laid := [("loop.example/pub-zonerules/pub/gotimezone.errBadData", laid_loop_example_pub_zonerules_pub_gotimezone_errBadData)] }
def FnLoadFile2Said : Prop := fnLoadFile2Row.holds Tryd.pinned (OpenSpec.ofChange fnLoadFile2Spec)

/-- ITS FALSE NEIGHBOUR: 'it returns false'. Refute it at one input. -/
def fnLoadFile2Wrong : ChangeSpec := { name := "fnLoadFile2", vars := ["loop.example/pub-zonerules/pub/gotimezone.errBadData"], fn := fun _ => fun
  | [d1, d2, g1] => { results := [.lit (.bool false)], args := [d1, d2], vars := [g1] }
  | _ => none }
def FnLoadFile2WrongFalsely : Prop := fnLoadFile2Row.holds Tryd.pinned (OpenSpec.ofChange fnLoadFile2Wrong)

/-- 'laws.FnLoadIndex': WHATEVER THE INPUT: true; the input reads as it did. -/
def fnLoadIndexSpec : ChangeSpec := { name := "fnLoadIndex", vars := ["loop.example/pub-zonerules/pub/gotimezone.errBadData"], fn := fun _ => fun
  | [d1, d2, d3, g1] => { results := [.lit (.bool true)], args := [d1, d2, d3], vars := [g1] }
  | _ => none }
def fnLoadIndexRow : OpenClaim := { program := "ytgmlclhdibajiaadoor", sum := "bfae6cb7eac7c3b0c3c69ea6e86a4c3d17f24116c63dbd38fe5becd16748af44", func := "loop.example/pub-zonerules/laws.FnLoadIndex", spec := "fnLoadIndex", named := ["loop.example/pub-zonerules/pub/gotimezone.errBadData"], ifaces := true, apart := false, laid := [("loop.example/pub-zonerules/pub/gotimezone.errBadData", laid_loop_example_pub_zonerules_pub_gotimezone_errBadData)] }
def FnLoadIndexSaid : Prop := fnLoadIndexRow.holds Tryd.pinned (OpenSpec.ofChange fnLoadIndexSpec)

/-- ITS FALSE NEIGHBOUR: 'it returns false'. Refute it at one input. -/
def fnLoadIndexWrong : ChangeSpec := { name := "fnLoadIndex", vars := ["loop.example/pub-zonerules/pub/gotimezone.errBadData"], fn := fun _ => fun
  | [d1, d2, d3, g1] => { results := [.lit (.bool false)], args := [d1, d2, d3], vars := [g1] }
  | _ => none }
def FnLoadIndexWrongFalsely : Prop := fnLoadIndexRow.holds Tryd.pinned (OpenSpec.ofChange fnLoadIndexWrong)

/-- 'laws.FnLoadMagic': WHATEVER THE INPUT: true; the input reads as it did. -/
def fnLoadMagicSpec : ChangeSpec := { name := "fnLoadMagic", vars := ["loop.example/pub-zonerules/pub/gotimezone.errBadData"], fn := fun _ => fun
  | [d1, d2, d3, g1] => { results := [.lit (.bool true)], args := [d1, d2, d3], vars := [g1] }
  | _ => none }
def fnLoadMagicRow : OpenClaim := { program := "ytgmlclhdibajiaadoor", sum := "bfae6cb7eac7c3b0c3c69ea6e86a4c3d17f24116c63dbd38fe5becd16748af44", func := "loop.example/pub-zonerules/laws.FnLoadMagic", spec := "fnLoadMagic", named := ["loop.example/pub-zonerules/pub/gotimezone.errBadData"], ifaces := true, apart := false, laid := [("loop.example/pub-zonerules/pub/gotimezone.errBadData", laid_loop_example_pub_zonerules_pub_gotimezone_errBadData)] }
def FnLoadMagicSaid : Prop := fnLoadMagicRow.holds Tryd.pinned (OpenSpec.ofChange fnLoadMagicSpec)

/-- ITS FALSE NEIGHBOUR: 'it returns false'. Refute it at one input. -/
def fnLoadMagicWrong : ChangeSpec := { name := "fnLoadMagic", vars := ["loop.example/pub-zonerules/pub/gotimezone.errBadData"], fn := fun _ => fun
  | [d1, d2, d3, g1] => { results := [.lit (.bool false)], args := [d1, d2, d3], vars := [g1] }
  | _ => none }
def FnLoadMagicWrongFalsely : Prop := fnLoadMagicRow.holds Tryd.pinned (OpenSpec.ofChange fnLoadMagicWrong)

/-- 'laws.FnLoadNone': WHATEVER THE INPUT: true; the input reads as it did. -/
def fnLoadNoneSpec : ChangeSpec := { name := "fnLoadNone", vars := ["loop.example/pub-zonerules/pub/gotimezone.errBadData"], fn := fun _ => fun
  | [d1, d2, g1] => { results := [.lit (.bool true)], args := [d1, d2], vars := [g1] }
  | _ => none }
def fnLoadNoneRow : OpenClaim := { program := "ytgmlclhdibajiaadoor", sum := "bfae6cb7eac7c3b0c3c69ea6e86a4c3d17f24116c63dbd38fe5becd16748af44", func := "loop.example/pub-zonerules/laws.FnLoadNone", spec := "fnLoadNone", named := ["loop.example/pub-zonerules/pub/gotimezone.errBadData"], ifaces := true, apart := false, laid := [("loop.example/pub-zonerules/pub/gotimezone.errBadData", laid_loop_example_pub_zonerules_pub_gotimezone_errBadData)] }
def FnLoadNoneSaid : Prop := fnLoadNoneRow.holds Tryd.pinned (OpenSpec.ofChange fnLoadNoneSpec)

/-- ITS FALSE NEIGHBOUR: 'it returns false'. Refute it at one input. -/
def fnLoadNoneWrong : ChangeSpec := { name := "fnLoadNone", vars := ["loop.example/pub-zonerules/pub/gotimezone.errBadData"], fn := fun _ => fun
  | [d1, d2, g1] => { results := [.lit (.bool false)], args := [d1, d2], vars := [g1] }
  | _ => none }
def FnLoadNoneWrongFalsely : Prop := fnLoadNoneRow.holds Tryd.pinned (OpenSpec.ofChange fnLoadNoneWrong)

/- THE SECOND FORM. 'bulk': how many values and letters a reading holds, each counted each time it is reached (what is shared counts as often as it is met; a slice's spare places count too). A statement '..UptoSaid' is the law's where the arguments, and the package variables that the reading takes, are together of bulk at most 1048576: NARROWER than '..Said'. Prove '..Said' where nothing that the law and all that it calls make is longer than what came in: it says more and counts as full. Else prove '..UptoSaid'. A law counts once. -/
mutual
def uptoBulk {H : Type} : DataW H → Nat
  | .lit (.string bytes) => bytes.length + 1
  | .lit _ => 1
  | .nil => 1
  | .ptr d => uptoBulk d + 1
  | .slice elems spare => uptoBulkAll elems + uptoBulkAll spare + 1
  | .agg parts => uptoBulkAll parts + 1
  | .iface _ d => uptoBulk d + 1
  | .map entries => uptoBulkEntries entries + 1
  | .held _ => 1
def uptoBulkAll {H : Type} : List (DataW H) → Nat
  | [] => 0
  | d :: r => uptoBulk d + uptoBulkAll r
def uptoBulkEntries {H : Type} : List (Lit × DataW H) → Nat
  | [] => 0
  | x :: r => uptoBulkEntry x + uptoBulkEntries r
def uptoBulkEntry {H : Type} : Lit × DataW H → Nat
  | (.string bytes, d) => bytes.length + uptoBulk d + 1
  | (_, d) => uptoBulk d + 1
 end
def uptoSmall : (H : Type) → List (DataW H) → Bool := fun _ ds => decide (uptoBulkAll ds ≤ 1048576)
def OpenSpec.upto (s : _root_.Go.ChangeSpec) : _root_.Go.OpenSpec := { _root_.Go.OpenSpec.ofChange s with cond := some uptoSmall }

/-- 'laws.FnLoadLookup', WHERE WHAT IT READS IS OF BULK AT MOST 1048576: true; the input reads as it did. -/
def fnLoadLookupUptoRow : OpenClaim := { program := "ytgmlclhdibajiaadoor", sum := "bfae6cb7eac7c3b0c3c69ea6e86a4c3d17f24116c63dbd38fe5becd16748af44", func := "loop.example/pub-zonerules/laws.FnLoadLookup", spec := "fnLoadLookup", named := ["loop.example/pub-zonerules/pub/gotimezone.errBadData"], ifaces := true, apart := false, laid := [("loop.example/pub-zonerules/pub/gotimezone.errBadData", laid_loop_example_pub_zonerules_pub_gotimezone_errBadData)], narrowed := true }
def FnLoadLookupUptoSaid : Prop := fnLoadLookupUptoRow.holds Tryd.pinned (OpenSpec.upto fnLoadLookupSpec)

/-- 'laws.FnLoadCut', WHERE WHAT IT READS IS OF BULK AT MOST 1048576: true; the input reads as it did. -/
def fnLoadCutUptoRow : OpenClaim := { program := "ytgmlclhdibajiaadoor", sum := "bfae6cb7eac7c3b0c3c69ea6e86a4c3d17f24116c63dbd38fe5becd16748af44", func := "loop.example/pub-zonerules/laws.FnLoadCut", spec := "fnLoadCut", named := ["loop.example/pub-zonerules/pub/gotimezone.errBadData"], ifaces := true, apart := false, laid := [("loop.example/pub-zonerules/pub/gotimezone.errBadData", laid_loop_example_pub_zonerules_pub_gotimezone_errBadData)], narrowed := true }
def FnLoadCutUptoSaid : Prop := fnLoadCutUptoRow.holds Tryd.pinned (OpenSpec.upto fnLoadCutSpec)

/-- 'laws.FnLoadFile1', WHERE WHAT IT READS IS OF BULK AT MOST 1048576: true; the input reads as it did. -/
def fnLoadFile1UptoRow : OpenClaim := { program := "ytgmlclhdibajiaadoor", sum := "bfae6cb7eac7c3b0c3c69ea6e86a4c3d17f24116c63dbd38fe5becd16748af44", func := "loop.example/pub-zonerules/laws.FnLoadFile1", spec := "fnLoadFile1", named := ["loop.example/pub-zonerules/pub/gotimezone.errBadData"], ifaces := true, apart := false, laid := [("loop.example/pub-zonerules/pub/gotimezone.errBadData", laid_loop_example_pub_zonerules_pub_gotimezone_errBadData)], narrowed := true }
def FnLoadFile1UptoSaid : Prop := fnLoadFile1UptoRow.holds Tryd.pinned (OpenSpec.upto fnLoadFile1Spec)

/-- 'laws.FnLoadFile2', WHERE WHAT IT READS IS OF BULK AT MOST 1048576: true; the input reads as it did. -/
def fnLoadFile2UptoRow : OpenClaim := { program := "ytgmlclhdibajiaadoor", sum := "bfae6cb7eac7c3b0c3c69ea6e86a4c3d17f24116c63dbd38fe5becd16748af44", func := "loop.example/pub-zonerules/laws.FnLoadFile2", spec := "fnLoadFile2", named := ["loop.example/pub-zonerules/pub/gotimezone.errBadData"], ifaces := true, apart := false, laid := [("loop.example/pub-zonerules/pub/gotimezone.errBadData", laid_loop_example_pub_zonerules_pub_gotimezone_errBadData)], narrowed := true }
def FnLoadFile2UptoSaid : Prop := fnLoadFile2UptoRow.holds Tryd.pinned (OpenSpec.upto fnLoadFile2Spec)

/-- 'laws.FnLoadIndex', WHERE WHAT IT READS IS OF BULK AT MOST 1048576: true; the input reads as it did. -/
def fnLoadIndexUptoRow : OpenClaim := { program := "ytgmlclhdibajiaadoor", sum := "bfae6cb7eac7c3b0c3c69ea6e86a4c3d17f24116c63dbd38fe5becd16748af44", func := "loop.example/pub-zonerules/laws.FnLoadIndex", spec := "fnLoadIndex", named := ["loop.example/pub-zonerules/pub/gotimezone.errBadData"], ifaces := true, apart := false, laid := [("loop.example/pub-zonerules/pub/gotimezone.errBadData", laid_loop_example_pub_zonerules_pub_gotimezone_errBadData)], narrowed := true }
def FnLoadIndexUptoSaid : Prop := fnLoadIndexUptoRow.holds Tryd.pinned (OpenSpec.upto fnLoadIndexSpec)

/-- 'laws.FnLoadMagic', WHERE WHAT IT READS IS OF BULK AT MOST 1048576: true; the input reads as it did. -/
def fnLoadMagicUptoRow : OpenClaim := { program := "ytgmlclhdibajiaadoor", sum := "bfae6cb7eac7c3b0c3c69ea6e86a4c3d17f24116c63dbd38fe5becd16748af44", func := "loop.example/pub-zonerules/laws.FnLoadMagic", spec := "fnLoadMagic", named := ["loop.example/pub-zonerules/pub/gotimezone.errBadData"], ifaces := true, apart := false, laid := [("loop.example/pub-zonerules/pub/gotimezone.errBadData", laid_loop_example_pub_zonerules_pub_gotimezone_errBadData)], narrowed := true }
def FnLoadMagicUptoSaid : Prop := fnLoadMagicUptoRow.holds Tryd.pinned (OpenSpec.upto fnLoadMagicSpec)

/-- 'laws.FnLoadNone', WHERE WHAT IT READS IS OF BULK AT MOST 1048576: true; the input reads as it did. -/
def fnLoadNoneUptoRow : OpenClaim := { program := "ytgmlclhdibajiaadoor", sum := "bfae6cb7eac7c3b0c3c69ea6e86a4c3d17f24116c63dbd38fe5becd16748af44", func := "loop.example/pub-zonerules/laws.FnLoadNone", spec := "fnLoadNone", named := ["loop.example/pub-zonerules/pub/gotimezone.errBadData"], ifaces := true, apart := false, laid := [("loop.example/pub-zonerules/pub/gotimezone.errBadData", laid_loop_example_pub_zonerules_pub_gotimezone_errBadData)], narrowed := true }
def FnLoadNoneUptoSaid : Prop := fnLoadNoneUptoRow.holds Tryd.pinned (OpenSpec.upto fnLoadNoneSpec)

end Rows
end Go.Proofs.YtgmlclhdibajiaaDoor
