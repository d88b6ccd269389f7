/-
  No cell of these rows narrows 'for every input' (looked for: loops, veiled, ifaces, maps, wideKeys, modest, calm, conditions, laid).
  DERIVED. THE GIVEN ROWS OF THIS SEAT. 15 by the template 'for every input the law returns true; each argument reads behind the call as it read before'; 0 by the template 'total and deterministic' (their statements: YtkikpcfcjkgblaaTotals.lean).
  GIVEN WITH THE SEED: the statements are not yours to turn. If you find one false, say at which input.
  Laid BY PROGRAM, IN A SANDBOX (cutbox-rows.mjs): the forced cells as the released guide's own fill.sh prints them over the translation 132815082060d425… (all of the seat's roots in one cut). By AI agents, Wed Nov 11 2026. No macro, syntax, notation, axiom, sorry.
-/
import Derived.Test.YtkikpcfcjkgblaaChecked
import GoSem.Claim
import GoSem.ClaimJoined
import GoSem.ClaimMapViews
import Derived.JoinedTies
import Derived.KernelRfl
namespace Go.Proofs.Ytkikpcfcjkgblaa
/- THE CELL 'sum', in the pinned program and in every row, IS THE sha256 OF THE DUMP (.gsa) THAT YtkikpcfcjkgblaaProg.lean LOADS. Nothing in Lean hashes anything: it is a label: what it is worth is what the hold of that sum in a sandbox is worth. -/
noncomputable def Try.pinned : Pinned := { name := "ytkikpcfcjkgblaa", sum := "132815082060d4256ca6286cd8b7b8edd5685c854e7c3716844a3f3fd8eb9fbb", checked := Try.checked }
namespace Rows
def none {H : Type} : Left H := { results := [], args := [] }

/-- 'laws.FnExactOffset': WHATEVER THE INPUT: true; the input reads as it did. -/
def fnExactOffsetSpec : ChangeSpec := { name := "fnExactOffset", fn := fun _ => fun
  | [d] => { results := [.lit (.bool true)], args := [d] }
  | _ => none }
def fnExactOffsetRow : OpenClaim := { program := "ytkikpcfcjkgblaa", sum := "132815082060d4256ca6286cd8b7b8edd5685c854e7c3716844a3f3fd8eb9fbb", func := "loop.example/pub-zonerules/laws.FnExactOffset", spec := "fnExactOffset", apart := false }
def FnExactOffsetSaid : Prop := fnExactOffsetRow.holds Try.pinned (OpenSpec.ofChange fnExactOffsetSpec)

/-- ITS FALSE NEIGHBOUR: 'it returns false'. Refute it at one input. -/
def fnExactOffsetWrong : ChangeSpec := { name := "fnExactOffset", fn := fun _ => fun
  | [d] => { results := [.lit (.bool false)], args := [d] }
  | _ => none }
def FnExactOffsetWrongFalsely : Prop := fnExactOffsetRow.holds Try.pinned (OpenSpec.ofChange fnExactOffsetWrong)

/-- 'laws.FnOffsetClock': WHATEVER THE INPUT: true; the input reads as it did. -/
def fnOffsetClockSpec : ChangeSpec := { name := "fnOffsetClock", fn := fun _ => fun
  | [d1, d2, d3] => { results := [.lit (.bool true)], args := [d1, d2, d3] }
  | _ => none }
def fnOffsetClockRow : OpenClaim := { program := "ytkikpcfcjkgblaa", sum := "132815082060d4256ca6286cd8b7b8edd5685c854e7c3716844a3f3fd8eb9fbb", func := "loop.example/pub-zonerules/laws.FnOffsetClock", spec := "fnOffsetClock", apart := false }
def FnOffsetClockSaid : Prop := fnOffsetClockRow.holds Try.pinned (OpenSpec.ofChange fnOffsetClockSpec)

/-- ITS FALSE NEIGHBOUR: 'it returns false'. Refute it at one input. -/
def fnOffsetClockWrong : ChangeSpec := { name := "fnOffsetClock", fn := fun _ => fun
  | [d1, d2, d3] => { results := [.lit (.bool false)], args := [d1, d2, d3] }
  | _ => none }
def FnOffsetClockWrongFalsely : Prop := fnOffsetClockRow.holds Try.pinned (OpenSpec.ofChange fnOffsetClockWrong)

/-- 'laws.FnExactNum': WHATEVER THE INPUT: true; the input reads as it did. -/
def fnExactNumSpec : ChangeSpec := { name := "fnExactNum", fn := fun _ => fun
  | [d1, d2, d3] => { results := [.lit (.bool true)], args := [d1, d2, d3] }
  | _ => none }
def fnExactNumRow : OpenClaim := { program := "ytkikpcfcjkgblaa", sum := "132815082060d4256ca6286cd8b7b8edd5685c854e7c3716844a3f3fd8eb9fbb", func := "loop.example/pub-zonerules/laws.FnExactNum", spec := "fnExactNum", apart := false }
def FnExactNumSaid : Prop := fnExactNumRow.holds Try.pinned (OpenSpec.ofChange fnExactNumSpec)

/-- ITS FALSE NEIGHBOUR: 'it returns false'. Refute it at one input. -/
def fnExactNumWrong : ChangeSpec := { name := "fnExactNum", fn := fun _ => fun
  | [d1, d2, d3] => { results := [.lit (.bool false)], args := [d1, d2, d3] }
  | _ => none }
def FnExactNumWrongFalsely : Prop := fnExactNumRow.holds Try.pinned (OpenSpec.ofChange fnExactNumWrong)

/-- 'laws.FnExactName': WHATEVER THE INPUT: true; the input reads as it did. -/
def fnExactNameSpec : ChangeSpec := { name := "fnExactName", fn := fun _ => fun
  | [d1, d2] => { results := [.lit (.bool true)], args := [d1, d2] }
  | _ => none }
def fnExactNameRow : OpenClaim := { program := "ytkikpcfcjkgblaa", sum := "132815082060d4256ca6286cd8b7b8edd5685c854e7c3716844a3f3fd8eb9fbb", func := "loop.example/pub-zonerules/laws.FnExactName", spec := "fnExactName", apart := false }
def FnExactNameSaid : Prop := fnExactNameRow.holds Try.pinned (OpenSpec.ofChange fnExactNameSpec)

/-- ITS FALSE NEIGHBOUR: 'it returns false'. Refute it at one input. -/
def fnExactNameWrong : ChangeSpec := { name := "fnExactName", fn := fun _ => fun
  | [d1, d2] => { results := [.lit (.bool false)], args := [d1, d2] }
  | _ => none }
def FnExactNameWrongFalsely : Prop := fnExactNameRow.holds Try.pinned (OpenSpec.ofChange fnExactNameWrong)

/-- 'laws.FnNameShort': WHATEVER THE INPUT: true; the input reads as it did. -/
def fnNameShortSpec : ChangeSpec := { name := "fnNameShort", fn := fun _ => fun
  | [d1, d2] => { results := [.lit (.bool true)], args := [d1, d2] }
  | _ => none }
def fnNameShortRow : OpenClaim := { program := "ytkikpcfcjkgblaa", sum := "132815082060d4256ca6286cd8b7b8edd5685c854e7c3716844a3f3fd8eb9fbb", func := "loop.example/pub-zonerules/laws.FnNameShort", spec := "fnNameShort", apart := false }
def FnNameShortSaid : Prop := fnNameShortRow.holds Try.pinned (OpenSpec.ofChange fnNameShortSpec)

/-- ITS FALSE NEIGHBOUR: 'it returns false'. Refute it at one input. -/
def fnNameShortWrong : ChangeSpec := { name := "fnNameShort", fn := fun _ => fun
  | [d1, d2] => { results := [.lit (.bool false)], args := [d1, d2] }
  | _ => none }
def FnNameShortWrongFalsely : Prop := fnNameShortRow.holds Try.pinned (OpenSpec.ofChange fnNameShortWrong)

/-- 'laws.FnExactRule': WHATEVER THE INPUT: true; the input reads as it did. -/
def fnExactRuleSpec : ChangeSpec := { name := "fnExactRule", fn := fun _ => fun
  | [d1, d2, d3] => { results := [.lit (.bool true)], args := [d1, d2, d3] }
  | _ => none }
def fnExactRuleRow : OpenClaim := { program := "ytkikpcfcjkgblaa", sum := "132815082060d4256ca6286cd8b7b8edd5685c854e7c3716844a3f3fd8eb9fbb", func := "loop.example/pub-zonerules/laws.FnExactRule", spec := "fnExactRule", apart := false }
def FnExactRuleSaid : Prop := fnExactRuleRow.holds Try.pinned (OpenSpec.ofChange fnExactRuleSpec)

/-- ITS FALSE NEIGHBOUR: 'it returns false'. Refute it at one input. -/
def fnExactRuleWrong : ChangeSpec := { name := "fnExactRule", fn := fun _ => fun
  | [d1, d2, d3] => { results := [.lit (.bool false)], args := [d1, d2, d3] }
  | _ => none }
def FnExactRuleWrongFalsely : Prop := fnExactRuleRow.holds Try.pinned (OpenSpec.ofChange fnExactRuleWrong)

/-- 'laws.FnRuleSpoilt': WHATEVER THE INPUT: true; the input reads as it did. -/
def fnRuleSpoiltSpec : ChangeSpec := { name := "fnRuleSpoilt", fn := fun _ => fun
  | [d1, d2, d3, d4] => { results := [.lit (.bool true)], args := [d1, d2, d3, d4] }
  | _ => none }
def fnRuleSpoiltRow : OpenClaim := { program := "ytkikpcfcjkgblaa", sum := "132815082060d4256ca6286cd8b7b8edd5685c854e7c3716844a3f3fd8eb9fbb", func := "loop.example/pub-zonerules/laws.FnRuleSpoilt", spec := "fnRuleSpoilt", apart := false }
def FnRuleSpoiltSaid : Prop := fnRuleSpoiltRow.holds Try.pinned (OpenSpec.ofChange fnRuleSpoiltSpec)

/-- ITS FALSE NEIGHBOUR: 'it returns false'. Refute it at one input. -/
def fnRuleSpoiltWrong : ChangeSpec := { name := "fnRuleSpoilt", fn := fun _ => fun
  | [d1, d2, d3, d4] => { results := [.lit (.bool false)], args := [d1, d2, d3, d4] }
  | _ => none }
def FnRuleSpoiltWrongFalsely : Prop := fnRuleSpoiltRow.holds Try.pinned (OpenSpec.ofChange fnRuleSpoiltWrong)

/-- 'laws.FnExactRuleTime': WHATEVER THE INPUT: true; the input reads as it did. -/
def fnExactRuleTimeSpec : ChangeSpec := { name := "fnExactRuleTime", fn := fun _ => fun
  | [d1, d2, d3] => { results := [.lit (.bool true)], args := [d1, d2, d3] }
  | _ => none }
def fnExactRuleTimeRow : OpenClaim := { program := "ytkikpcfcjkgblaa", sum := "132815082060d4256ca6286cd8b7b8edd5685c854e7c3716844a3f3fd8eb9fbb", func := "loop.example/pub-zonerules/laws.FnExactRuleTime", spec := "fnExactRuleTime", apart := false }
def FnExactRuleTimeSaid : Prop := fnExactRuleTimeRow.holds Try.pinned (OpenSpec.ofChange fnExactRuleTimeSpec)

/-- ITS FALSE NEIGHBOUR: 'it returns false'. Refute it at one input. -/
def fnExactRuleTimeWrong : ChangeSpec := { name := "fnExactRuleTime", fn := fun _ => fun
  | [d1, d2, d3] => { results := [.lit (.bool false)], args := [d1, d2, d3] }
  | _ => none }
def FnExactRuleTimeWrongFalsely : Prop := fnExactRuleTimeRow.holds Try.pinned (OpenSpec.ofChange fnExactRuleTimeWrong)

/-- 'laws.FnRuleTimeWeekday': WHATEVER THE INPUT: true; the input reads as it did. -/
def fnRuleTimeWeekdaySpec : ChangeSpec := { name := "fnRuleTimeWeekday", fn := fun _ => fun
  | [d1, d2] => { results := [.lit (.bool true)], args := [d1, d2] }
  | _ => none }
def fnRuleTimeWeekdayRow : OpenClaim := { program := "ytkikpcfcjkgblaa", sum := "132815082060d4256ca6286cd8b7b8edd5685c854e7c3716844a3f3fd8eb9fbb", func := "loop.example/pub-zonerules/laws.FnRuleTimeWeekday", spec := "fnRuleTimeWeekday", apart := false }
def FnRuleTimeWeekdaySaid : Prop := fnRuleTimeWeekdayRow.holds Try.pinned (OpenSpec.ofChange fnRuleTimeWeekdaySpec)

/-- ITS FALSE NEIGHBOUR: 'it returns false'. Refute it at one input. -/
def fnRuleTimeWeekdayWrong : ChangeSpec := { name := "fnRuleTimeWeekday", fn := fun _ => fun
  | [d1, d2] => { results := [.lit (.bool false)], args := [d1, d2] }
  | _ => none }
def FnRuleTimeWeekdayWrongFalsely : Prop := fnRuleTimeWeekdayRow.holds Try.pinned (OpenSpec.ofChange fnRuleTimeWeekdayWrong)

/-- 'laws.FnExactTzset': WHATEVER THE INPUT: true; the input reads as it did. -/
def fnExactTzsetSpec : ChangeSpec := { name := "fnExactTzset", fn := fun _ => fun
  | [d1, d2, d3, d4, d5, d6, d7] => { results := [.lit (.bool true)], args := [d1, d2, d3, d4, d5, d6, d7] }
  | _ => none }
def fnExactTzsetRow : OpenClaim := { program := "ytkikpcfcjkgblaa", sum := "132815082060d4256ca6286cd8b7b8edd5685c854e7c3716844a3f3fd8eb9fbb", func := "loop.example/pub-zonerules/laws.FnExactTzset", spec := "fnExactTzset", apart := false }
def FnExactTzsetSaid : Prop := fnExactTzsetRow.holds Try.pinned (OpenSpec.ofChange fnExactTzsetSpec)

/-- ITS FALSE NEIGHBOUR: 'it returns false'. Refute it at one input. -/
def fnExactTzsetWrong : ChangeSpec := { name := "fnExactTzset", fn := fun _ => fun
  | [d1, d2, d3, d4, d5, d6, d7] => { results := [.lit (.bool false)], args := [d1, d2, d3, d4, d5, d6, d7] }
  | _ => none }
def FnExactTzsetWrongFalsely : Prop := fnExactTzsetRow.holds Try.pinned (OpenSpec.ofChange fnExactTzsetWrong)

/-- 'laws.FnTzsetBounds': WHATEVER THE INPUT: true; the input reads as it did. -/
def fnTzsetBoundsSpec : ChangeSpec := { name := "fnTzsetBounds", fn := fun _ => fun
  | [d1, d2, d3, d4, d5] => { results := [.lit (.bool true)], args := [d1, d2, d3, d4, d5] }
  | _ => none }
def fnTzsetBoundsRow : OpenClaim := { program := "ytkikpcfcjkgblaa", sum := "132815082060d4256ca6286cd8b7b8edd5685c854e7c3716844a3f3fd8eb9fbb", func := "loop.example/pub-zonerules/laws.FnTzsetBounds", spec := "fnTzsetBounds", apart := false }
def FnTzsetBoundsSaid : Prop := fnTzsetBoundsRow.holds Try.pinned (OpenSpec.ofChange fnTzsetBoundsSpec)

/-- ITS FALSE NEIGHBOUR: 'it returns false'. Refute it at one input. -/
def fnTzsetBoundsWrong : ChangeSpec := { name := "fnTzsetBounds", fn := fun _ => fun
  | [d1, d2, d3, d4, d5] => { results := [.lit (.bool false)], args := [d1, d2, d3, d4, d5] }
  | _ => none }
def FnTzsetBoundsWrongFalsely : Prop := fnTzsetBoundsRow.holds Try.pinned (OpenSpec.ofChange fnTzsetBoundsWrong)

/-- 'laws.FnTzsetFixed': WHATEVER THE INPUT: true; the input reads as it did. -/
def fnTzsetFixedSpec : ChangeSpec := { name := "fnTzsetFixed", fn := fun _ => fun
  | [d1, d2, d3, d4] => { results := [.lit (.bool true)], args := [d1, d2, d3, d4] }
  | _ => none }
def fnTzsetFixedRow : OpenClaim := { program := "ytkikpcfcjkgblaa", sum := "132815082060d4256ca6286cd8b7b8edd5685c854e7c3716844a3f3fd8eb9fbb", func := "loop.example/pub-zonerules/laws.FnTzsetFixed", spec := "fnTzsetFixed", apart := false }
def FnTzsetFixedSaid : Prop := fnTzsetFixedRow.holds Try.pinned (OpenSpec.ofChange fnTzsetFixedSpec)

/-- ITS FALSE NEIGHBOUR: 'it returns false'. Refute it at one input. -/
def fnTzsetFixedWrong : ChangeSpec := { name := "fnTzsetFixed", fn := fun _ => fun
  | [d1, d2, d3, d4] => { results := [.lit (.bool false)], args := [d1, d2, d3, d4] }
  | _ => none }
def FnTzsetFixedWrongFalsely : Prop := fnTzsetFixedRow.holds Try.pinned (OpenSpec.ofChange fnTzsetFixedWrong)

/-- 'laws.FnTzsetHour': WHATEVER THE INPUT: true; the input reads as it did. -/
def fnTzsetHourSpec : ChangeSpec := { name := "fnTzsetHour", fn := fun _ => fun
  | [d1, d2, d3, d4, d5] => { results := [.lit (.bool true)], args := [d1, d2, d3, d4, d5] }
  | _ => none }
def fnTzsetHourRow : OpenClaim := { program := "ytkikpcfcjkgblaa", sum := "132815082060d4256ca6286cd8b7b8edd5685c854e7c3716844a3f3fd8eb9fbb", func := "loop.example/pub-zonerules/laws.FnTzsetHour", spec := "fnTzsetHour", apart := false }
def FnTzsetHourSaid : Prop := fnTzsetHourRow.holds Try.pinned (OpenSpec.ofChange fnTzsetHourSpec)

/-- ITS FALSE NEIGHBOUR: 'it returns false'. Refute it at one input. -/
def fnTzsetHourWrong : ChangeSpec := { name := "fnTzsetHour", fn := fun _ => fun
  | [d1, d2, d3, d4, d5] => { results := [.lit (.bool false)], args := [d1, d2, d3, d4, d5] }
  | _ => none }
def FnTzsetHourWrongFalsely : Prop := fnTzsetHourRow.holds Try.pinned (OpenSpec.ofChange fnTzsetHourWrong)

/-- 'laws.FnTzsetSpoilt': WHATEVER THE INPUT: true; the input reads as it did. -/
def fnTzsetSpoiltSpec : ChangeSpec := { name := "fnTzsetSpoilt", fn := fun _ => fun
  | [d1, d2, d3, d4, d5] => { results := [.lit (.bool true)], args := [d1, d2, d3, d4, d5] }
  | _ => none }
def fnTzsetSpoiltRow : OpenClaim := { program := "ytkikpcfcjkgblaa", sum := "132815082060d4256ca6286cd8b7b8edd5685c854e7c3716844a3f3fd8eb9fbb", func := "loop.example/pub-zonerules/laws.FnTzsetSpoilt", spec := "fnTzsetSpoilt", apart := false }
def FnTzsetSpoiltSaid : Prop := fnTzsetSpoiltRow.holds Try.pinned (OpenSpec.ofChange fnTzsetSpoiltSpec)

/-- ITS FALSE NEIGHBOUR: 'it returns false'. Refute it at one input. -/
def fnTzsetSpoiltWrong : ChangeSpec := { name := "fnTzsetSpoilt", fn := fun _ => fun
  | [d1, d2, d3, d4, d5] => { results := [.lit (.bool false)], args := [d1, d2, d3, d4, d5] }
  | _ => none }
def FnTzsetSpoiltWrongFalsely : Prop := fnTzsetSpoiltRow.holds Try.pinned (OpenSpec.ofChange fnTzsetSpoiltWrong)

/-- 'laws.FnTzsetUsual': WHATEVER THE INPUT: true; the input reads as it did. -/
def fnTzsetUsualSpec : ChangeSpec := { name := "fnTzsetUsual", fn := fun _ => fun
  | [d1, d2, d3] => { results := [.lit (.bool true)], args := [d1, d2, d3] }
  | _ => none }
def fnTzsetUsualRow : OpenClaim := { program := "ytkikpcfcjkgblaa", sum := "132815082060d4256ca6286cd8b7b8edd5685c854e7c3716844a3f3fd8eb9fbb", func := "loop.example/pub-zonerules/laws.FnTzsetUsual", spec := "fnTzsetUsual", apart := false }
def FnTzsetUsualSaid : Prop := fnTzsetUsualRow.holds Try.pinned (OpenSpec.ofChange fnTzsetUsualSpec)

/-- ITS FALSE NEIGHBOUR: 'it returns false'. Refute it at one input. -/
def fnTzsetUsualWrong : ChangeSpec := { name := "fnTzsetUsual", fn := fun _ => fun
  | [d1, d2, d3] => { results := [.lit (.bool false)], args := [d1, d2, d3] }
  | _ => none }
def FnTzsetUsualWrongFalsely : Prop := fnTzsetUsualRow.holds Try.pinned (OpenSpec.ofChange fnTzsetUsualWrong)

/- THE SECOND FORM. 'bulk': how many values and letters a reading holds, each counted each time it is reached (what is shared counts as often as it is met; a slice's spare places count too). A statement '..UptoSaid' is the law's where the arguments, and the package variables that the reading takes, are together of bulk at most 1048576: NARROWER than '..Said'. Prove '..Said' where nothing that the law and all that it calls make is longer than what came in: it says more and counts as full. Else prove '..UptoSaid'. A law counts once. -/
mutual
def uptoBulk {H : Type} : DataW H → Nat
  | .lit (.string bytes) => bytes.length + 1
  | .lit _ => 1
  | .nil => 1
  | .ptr d => uptoBulk d + 1
  | .slice elems spare => uptoBulkAll elems + uptoBulkAll spare + 1
  | .agg parts => uptoBulkAll parts + 1
  | .iface _ d => uptoBulk d + 1
  | .map entries => uptoBulkEntries entries + 1
  | .held _ => 1
def uptoBulkAll {H : Type} : List (DataW H) → Nat
  | [] => 0
  | d :: r => uptoBulk d + uptoBulkAll r
def uptoBulkEntries {H : Type} : List (Lit × DataW H) → Nat
  | [] => 0
  | x :: r => uptoBulkEntry x + uptoBulkEntries r
def uptoBulkEntry {H : Type} : Lit × DataW H → Nat
  | (.string bytes, d) => bytes.length + uptoBulk d + 1
  | (_, d) => uptoBulk d + 1
 end
def uptoSmall : (H : Type) → List (DataW H) → Bool := fun _ ds => decide (uptoBulkAll ds ≤ 1048576)
def OpenSpec.upto (s : _root_.Go.ChangeSpec) : _root_.Go.OpenSpec := { _root_.Go.OpenSpec.ofChange s with cond := some uptoSmall }

/-- 'laws.FnExactOffset', WHERE WHAT IT READS IS OF BULK AT MOST 1048576: true; the input reads as it did. -/
def fnExactOffsetUptoRow : OpenClaim := { program := "ytkikpcfcjkgblaa", sum := "132815082060d4256ca6286cd8b7b8edd5685c854e7c3716844a3f3fd8eb9fbb", func := "loop.example/pub-zonerules/laws.FnExactOffset", spec := "fnExactOffset", apart := false, narrowed := true }
def FnExactOffsetUptoSaid : Prop := fnExactOffsetUptoRow.holds Try.pinned (OpenSpec.upto fnExactOffsetSpec)

/-- 'laws.FnOffsetClock', WHERE WHAT IT READS IS OF BULK AT MOST 1048576: true; the input reads as it did. -/
def fnOffsetClockUptoRow : OpenClaim := { program := "ytkikpcfcjkgblaa", sum := "132815082060d4256ca6286cd8b7b8edd5685c854e7c3716844a3f3fd8eb9fbb", func := "loop.example/pub-zonerules/laws.FnOffsetClock", spec := "fnOffsetClock", apart := false, narrowed := true }
def FnOffsetClockUptoSaid : Prop := fnOffsetClockUptoRow.holds Try.pinned (OpenSpec.upto fnOffsetClockSpec)

/-- 'laws.FnExactNum', WHERE WHAT IT READS IS OF BULK AT MOST 1048576: true; the input reads as it did. -/
def fnExactNumUptoRow : OpenClaim := { program := "ytkikpcfcjkgblaa", sum := "132815082060d4256ca6286cd8b7b8edd5685c854e7c3716844a3f3fd8eb9fbb", func := "loop.example/pub-zonerules/laws.FnExactNum", spec := "fnExactNum", apart := false, narrowed := true }
def FnExactNumUptoSaid : Prop := fnExactNumUptoRow.holds Try.pinned (OpenSpec.upto fnExactNumSpec)

/-- 'laws.FnExactName', WHERE WHAT IT READS IS OF BULK AT MOST 1048576: true; the input reads as it did. -/
def fnExactNameUptoRow : OpenClaim := { program := "ytkikpcfcjkgblaa", sum := "132815082060d4256ca6286cd8b7b8edd5685c854e7c3716844a3f3fd8eb9fbb", func := "loop.example/pub-zonerules/laws.FnExactName", spec := "fnExactName", apart := false, narrowed := true }
def FnExactNameUptoSaid : Prop := fnExactNameUptoRow.holds Try.pinned (OpenSpec.upto fnExactNameSpec)

/-- 'laws.FnNameShort', WHERE WHAT IT READS IS OF BULK AT MOST 1048576: true; the input reads as it did. -/
def fnNameShortUptoRow : OpenClaim := { program := "ytkikpcfcjkgblaa", sum := "132815082060d4256ca6286cd8b7b8edd5685c854e7c3716844a3f3fd8eb9fbb", func := "loop.example/pub-zonerules/laws.FnNameShort", spec := "fnNameShort", apart := false, narrowed := true }
def FnNameShortUptoSaid : Prop := fnNameShortUptoRow.holds Try.pinned (OpenSpec.upto fnNameShortSpec)

/-- 'laws.FnExactRule', WHERE WHAT IT READS IS OF BULK AT MOST 1048576: true; the input reads as it did. -/
def fnExactRuleUptoRow : OpenClaim := { program := "ytkikpcfcjkgblaa", sum := "132815082060d4256ca6286cd8b7b8edd5685c854e7c3716844a3f3fd8eb9fbb", func := "loop.example/pub-zonerules/laws.FnExactRule", spec := "fnExactRule", apart := false, narrowed := true }
def FnExactRuleUptoSaid : Prop := fnExactRuleUptoRow.holds Try.pinned (OpenSpec.upto fnExactRuleSpec)

/-- 'laws.FnRuleSpoilt', WHERE WHAT IT READS IS OF BULK AT MOST 1048576: true; the input reads as it did. -/
def fnRuleSpoiltUptoRow : OpenClaim := { program := "ytkikpcfcjkgblaa", sum := "132815082060d4256ca6286cd8b7b8edd5685c854e7c3716844a3f3fd8eb9fbb", func := "loop.example/pub-zonerules/laws.FnRuleSpoilt", spec := "fnRuleSpoilt", apart := false, narrowed := true }
def FnRuleSpoiltUptoSaid : Prop := fnRuleSpoiltUptoRow.holds Try.pinned (OpenSpec.upto fnRuleSpoiltSpec)

/-- 'laws.FnExactRuleTime', WHERE WHAT IT READS IS OF BULK AT MOST 1048576: true; the input reads as it did. -/
def fnExactRuleTimeUptoRow : OpenClaim := { program := "ytkikpcfcjkgblaa", sum := "132815082060d4256ca6286cd8b7b8edd5685c854e7c3716844a3f3fd8eb9fbb", func := "loop.example/pub-zonerules/laws.FnExactRuleTime", spec := "fnExactRuleTime", apart := false, narrowed := true }
def FnExactRuleTimeUptoSaid : Prop := fnExactRuleTimeUptoRow.holds Try.pinned (OpenSpec.upto fnExactRuleTimeSpec)

/-- 'laws.FnRuleTimeWeekday', WHERE WHAT IT READS IS OF BULK AT MOST 1048576: true; the input reads as it did. -/
def fnRuleTimeWeekdayUptoRow : OpenClaim := { program := "ytkikpcfcjkgblaa", sum := "132815082060d4256ca6286cd8b7b8edd5685c854e7c3716844a3f3fd8eb9fbb", func := "loop.example/pub-zonerules/laws.FnRuleTimeWeekday", spec := "fnRuleTimeWeekday", apart := false, narrowed := true }
def FnRuleTimeWeekdayUptoSaid : Prop := fnRuleTimeWeekdayUptoRow.holds Try.pinned (OpenSpec.upto fnRuleTimeWeekdaySpec)

/-- 'laws.FnExactTzset', WHERE WHAT IT READS IS OF BULK AT MOST 1048576: true; the input reads as it did. -/
def fnExactTzsetUptoRow : OpenClaim := { program := "ytkikpcfcjkgblaa", sum := "132815082060d4256ca6286cd8b7b8edd5685c854e7c3716844a3f3fd8eb9fbb", func := "loop.example/pub-zonerules/laws.FnExactTzset", spec := "fnExactTzset", apart := false, narrowed := true }
def FnExactTzsetUptoSaid : Prop := fnExactTzsetUptoRow.holds Try.pinned (OpenSpec.upto fnExactTzsetSpec)

/-- 'laws.FnTzsetBounds', WHERE WHAT IT READS IS OF BULK AT MOST 1048576: true; the input reads as it did. -/
def fnTzsetBoundsUptoRow : OpenClaim := { program := "ytkikpcfcjkgblaa", sum := "132815082060d4256ca6286cd8b7b8edd5685c854e7c3716844a3f3fd8eb9fbb", func := "loop.example/pub-zonerules/laws.FnTzsetBounds", spec := "fnTzsetBounds", apart := false, narrowed := true }
def FnTzsetBoundsUptoSaid : Prop := fnTzsetBoundsUptoRow.holds Try.pinned (OpenSpec.upto fnTzsetBoundsSpec)

/-- 'laws.FnTzsetFixed', WHERE WHAT IT READS IS OF BULK AT MOST 1048576: true; the input reads as it did. -/
def fnTzsetFixedUptoRow : OpenClaim := { program := "ytkikpcfcjkgblaa", sum := "132815082060d4256ca6286cd8b7b8edd5685c854e7c3716844a3f3fd8eb9fbb", func := "loop.example/pub-zonerules/laws.FnTzsetFixed", spec := "fnTzsetFixed", apart := false, narrowed := true }
def FnTzsetFixedUptoSaid : Prop := fnTzsetFixedUptoRow.holds Try.pinned (OpenSpec.upto fnTzsetFixedSpec)

/-- 'laws.FnTzsetHour', WHERE WHAT IT READS IS OF BULK AT MOST 1048576: true; the input reads as it did. -/
def fnTzsetHourUptoRow : OpenClaim := { program := "ytkikpcfcjkgblaa", sum := "132815082060d4256ca6286cd8b7b8edd5685c854e7c3716844a3f3fd8eb9fbb", func := "loop.example/pub-zonerules/laws.FnTzsetHour", spec := "fnTzsetHour", apart := false, narrowed := true }
def FnTzsetHourUptoSaid : Prop := fnTzsetHourUptoRow.holds Try.pinned (OpenSpec.upto fnTzsetHourSpec)

/-- 'laws.FnTzsetSpoilt', WHERE WHAT IT READS IS OF BULK AT MOST 1048576: true; the input reads as it did. -/
def fnTzsetSpoiltUptoRow : OpenClaim := { program := "ytkikpcfcjkgblaa", sum := "132815082060d4256ca6286cd8b7b8edd5685c854e7c3716844a3f3fd8eb9fbb", func := "loop.example/pub-zonerules/laws.FnTzsetSpoilt", spec := "fnTzsetSpoilt", apart := false, narrowed := true }
def FnTzsetSpoiltUptoSaid : Prop := fnTzsetSpoiltUptoRow.holds Try.pinned (OpenSpec.upto fnTzsetSpoiltSpec)

/-- 'laws.FnTzsetUsual', WHERE WHAT IT READS IS OF BULK AT MOST 1048576: true; the input reads as it did. -/
def fnTzsetUsualUptoRow : OpenClaim := { program := "ytkikpcfcjkgblaa", sum := "132815082060d4256ca6286cd8b7b8edd5685c854e7c3716844a3f3fd8eb9fbb", func := "loop.example/pub-zonerules/laws.FnTzsetUsual", spec := "fnTzsetUsual", apart := false, narrowed := true }
def FnTzsetUsualUptoSaid : Prop := fnTzsetUsualUptoRow.holds Try.pinned (OpenSpec.upto fnTzsetUsualSpec)

end Rows
end Go.Proofs.Ytkikpcfcjkgblaa
