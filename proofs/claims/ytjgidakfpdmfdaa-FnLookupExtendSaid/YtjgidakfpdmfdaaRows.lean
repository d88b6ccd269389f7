/-
  No cell of these rows narrows 'for every input' (looked for: loops, veiled, ifaces, maps, wideKeys, modest, calm, conditions, laid).
  DERIVED. THE GIVEN ROWS OF THIS SEAT. 5 by the template 'for every input the law returns true; each argument reads behind the call as it read before'; 0 by the template 'total and deterministic' (their statements: YtjgidakfpdmfdaaTotals.lean).
  GIVEN WITH THE SEED: the statements are not yours to turn. If you find one false, say at which input.
  Laid BY PROGRAM, IN A SANDBOX (cutbox-rows.mjs): the forced cells as the released guide's own fill.sh prints them over the translation 78c889ab07f02c50… (all of the seat's roots in one cut). By AI agents, Wed Nov 11 2026. No macro, syntax, notation, axiom, sorry.
-/
import Derived.Test.YtjgidakfpdmfdaaChecked
import GoSem.Claim
import GoSem.ClaimJoined
import GoSem.ClaimMapViews
import Derived.JoinedTies
import Derived.KernelRfl
namespace Go.Proofs.Ytjgidakfpdmfdaa
/- THE CELL 'sum', in the pinned program and in every row, IS THE sha256 OF THE DUMP (.gsa) THAT YtjgidakfpdmfdaaProg.lean LOADS. Nothing in Lean hashes anything: it is a label: what it is worth is what the hold of that sum in a sandbox is worth. -/
noncomputable def Try.pinned : Pinned := { name := "ytjgidakfpdmfdaa", sum := "78c889ab07f02c50c0439811132e2d6a9293ca7e602c1d34c4d38ad587cc9aac", checked := Try.checked }
namespace Rows
def none {H : Type} : Left H := { results := [], args := [] }

/-- 'laws.FnNameMissing': WHATEVER THE INPUT: true; the input reads as it did. -/
def fnNameMissingSpec : ChangeSpec := { name := "fnNameMissing", fn := fun _ => fun
  | [d1, d2, d3] => { results := [.lit (.bool true)], args := [d1, d2, d3] }
  | _ => none }
def fnNameMissingRow : OpenClaim := { program := "ytjgidakfpdmfdaa", sum := "78c889ab07f02c50c0439811132e2d6a9293ca7e602c1d34c4d38ad587cc9aac", func := "loop.example/pub-zonerules/laws.FnNameMissing", spec := "fnNameMissing", apart := false }
def FnNameMissingSaid : Prop := fnNameMissingRow.holds Try.pinned (OpenSpec.ofChange fnNameMissingSpec)

/-- ITS FALSE NEIGHBOUR: 'it returns false'. Refute it at one input. -/
def fnNameMissingWrong : ChangeSpec := { name := "fnNameMissing", fn := fun _ => fun
  | [d1, d2, d3] => { results := [.lit (.bool false)], args := [d1, d2, d3] }
  | _ => none }
def FnNameMissingWrongFalsely : Prop := fnNameMissingRow.holds Try.pinned (OpenSpec.ofChange fnNameMissingWrong)

/-- 'laws.FnNameOffset': WHATEVER THE INPUT: true; the input reads as it did. -/
def fnNameOffsetSpec : ChangeSpec := { name := "fnNameOffset", fn := fun _ => fun
  | [d1, d2, d3] => { results := [.lit (.bool true)], args := [d1, d2, d3] }
  | _ => none }
def fnNameOffsetRow : OpenClaim := { program := "ytjgidakfpdmfdaa", sum := "78c889ab07f02c50c0439811132e2d6a9293ca7e602c1d34c4d38ad587cc9aac", func := "loop.example/pub-zonerules/laws.FnNameOffset", spec := "fnNameOffset", apart := false }
def FnNameOffsetSaid : Prop := fnNameOffsetRow.holds Try.pinned (OpenSpec.ofChange fnNameOffsetSpec)

/-- ITS FALSE NEIGHBOUR: 'it returns false'. Refute it at one input. -/
def fnNameOffsetWrong : ChangeSpec := { name := "fnNameOffset", fn := fun _ => fun
  | [d1, d2, d3] => { results := [.lit (.bool false)], args := [d1, d2, d3] }
  | _ => none }
def FnNameOffsetWrongFalsely : Prop := fnNameOffsetRow.holds Try.pinned (OpenSpec.ofChange fnNameOffsetWrong)

/-- 'laws.FnLookupBetween': WHATEVER THE INPUT: true; the input reads as it did. -/
def fnLookupBetweenSpec : ChangeSpec := { name := "fnLookupBetween", fn := fun _ => fun
  | [d1, d2, d3] => { results := [.lit (.bool true)], args := [d1, d2, d3] }
  | _ => none }
def fnLookupBetweenRow : OpenClaim := { program := "ytjgidakfpdmfdaa", sum := "78c889ab07f02c50c0439811132e2d6a9293ca7e602c1d34c4d38ad587cc9aac", func := "loop.example/pub-zonerules/laws.FnLookupBetween", spec := "fnLookupBetween", apart := false }
def FnLookupBetweenSaid : Prop := fnLookupBetweenRow.holds Try.pinned (OpenSpec.ofChange fnLookupBetweenSpec)

/-- ITS FALSE NEIGHBOUR: 'it returns false'. Refute it at one input. -/
def fnLookupBetweenWrong : ChangeSpec := { name := "fnLookupBetween", fn := fun _ => fun
  | [d1, d2, d3] => { results := [.lit (.bool false)], args := [d1, d2, d3] }
  | _ => none }
def FnLookupBetweenWrongFalsely : Prop := fnLookupBetweenRow.holds Try.pinned (OpenSpec.ofChange fnLookupBetweenWrong)

/-- 'laws.FnExactLookup': WHATEVER THE INPUT: true; the input reads as it did. -/
def fnExactLookupSpec : ChangeSpec := { name := "fnExactLookup", fn := fun _ => fun
  | [d1, d2] => { results := [.lit (.bool true)], args := [d1, d2] }
  | _ => none }
def fnExactLookupRow : OpenClaim := { program := "ytjgidakfpdmfdaa", sum := "78c889ab07f02c50c0439811132e2d6a9293ca7e602c1d34c4d38ad587cc9aac", func := "loop.example/pub-zonerules/laws.FnExactLookup", spec := "fnExactLookup", apart := false }
def FnExactLookupSaid : Prop := fnExactLookupRow.holds Try.pinned (OpenSpec.ofChange fnExactLookupSpec)

/-- ITS FALSE NEIGHBOUR: 'it returns false'. Refute it at one input. -/
def fnExactLookupWrong : ChangeSpec := { name := "fnExactLookup", fn := fun _ => fun
  | [d1, d2] => { results := [.lit (.bool false)], args := [d1, d2] }
  | _ => none }
def FnExactLookupWrongFalsely : Prop := fnExactLookupRow.holds Try.pinned (OpenSpec.ofChange fnExactLookupWrong)

/-- 'laws.FnLookupExtend': WHATEVER THE INPUT: true; the input reads as it did. -/
def fnLookupExtendSpec : ChangeSpec := { name := "fnLookupExtend", fn := fun _ => fun
  | [d1, d2] => { results := [.lit (.bool true)], args := [d1, d2] }
  | _ => none }
def fnLookupExtendRow : OpenClaim := { program := "ytjgidakfpdmfdaa", sum := "78c889ab07f02c50c0439811132e2d6a9293ca7e602c1d34c4d38ad587cc9aac", func := "loop.example/pub-zonerules/laws.FnLookupExtend", spec := "fnLookupExtend", apart := false }
def FnLookupExtendSaid : Prop := fnLookupExtendRow.holds Try.pinned (OpenSpec.ofChange fnLookupExtendSpec)

/-- ITS FALSE NEIGHBOUR: 'it returns false'. Refute it at one input. -/
def fnLookupExtendWrong : ChangeSpec := { name := "fnLookupExtend", fn := fun _ => fun
  | [d1, d2] => { results := [.lit (.bool false)], args := [d1, d2] }
  | _ => none }
def FnLookupExtendWrongFalsely : Prop := fnLookupExtendRow.holds Try.pinned (OpenSpec.ofChange fnLookupExtendWrong)

/- THE SECOND FORM. 'bulk': how many values and letters a reading holds, each counted each time it is reached (what is shared counts as often as it is met; a slice's spare places count too). A statement '..UptoSaid' is the law's where the arguments, and the package variables that the reading takes, are together of bulk at most 1048576: NARROWER than '..Said'. Prove '..Said' where nothing that the law and all that it calls make is longer than what came in: it says more and counts as full. Else prove '..UptoSaid'. A law counts once. -/
mutual
def uptoBulk {H : Type} : DataW H → Nat
  | .lit (.string bytes) => bytes.length + 1
  | .lit _ => 1
  | .nil => 1
  | .ptr d => uptoBulk d + 1
  | .slice elems spare => uptoBulkAll elems + uptoBulkAll spare + 1
  | .agg parts => uptoBulkAll parts + 1
  | .iface _ d => uptoBulk d + 1
  | .map entries => uptoBulkEntries entries + 1
  | .held _ => 1
def uptoBulkAll {H : Type} : List (DataW H) → Nat
  | [] => 0
  | d :: r => uptoBulk d + uptoBulkAll r
def uptoBulkEntries {H : Type} : List (Lit × DataW H) → Nat
  | [] => 0
  | x :: r => uptoBulkEntry x + uptoBulkEntries r
def uptoBulkEntry {H : Type} : Lit × DataW H → Nat
  | (.string bytes, d) => bytes.length + uptoBulk d + 1
  | (_, d) => uptoBulk d + 1
 end
def uptoSmall : (H : Type) → List (DataW H) → Bool := fun _ ds => decide (uptoBulkAll ds ≤ 1048576)
def OpenSpec.upto (s : _root_.Go.ChangeSpec) : _root_.Go.OpenSpec := { _root_.Go.OpenSpec.ofChange s with cond := some uptoSmall }

/-- 'laws.FnNameMissing', WHERE WHAT IT READS IS OF BULK AT MOST 1048576: true; the input reads as it did. -/
def fnNameMissingUptoRow : OpenClaim := { program := "ytjgidakfpdmfdaa", sum := "78c889ab07f02c50c0439811132e2d6a9293ca7e602c1d34c4d38ad587cc9aac", func := "loop.example/pub-zonerules/laws.FnNameMissing", spec := "fnNameMissing", apart := false, narrowed := true }
def FnNameMissingUptoSaid : Prop := fnNameMissingUptoRow.holds Try.pinned (OpenSpec.upto fnNameMissingSpec)

/-- 'laws.FnNameOffset', WHERE WHAT IT READS IS OF BULK AT MOST 1048576: true; the input reads as it did. -/
def fnNameOffsetUptoRow : OpenClaim := { program := "ytjgidakfpdmfdaa", sum := "78c889ab07f02c50c0439811132e2d6a9293ca7e602c1d34c4d38ad587cc9aac", func := "loop.example/pub-zonerules/laws.FnNameOffset", spec := "fnNameOffset", apart := false, narrowed := true }
def FnNameOffsetUptoSaid : Prop := fnNameOffsetUptoRow.holds Try.pinned (OpenSpec.upto fnNameOffsetSpec)

/-- 'laws.FnLookupBetween', WHERE WHAT IT READS IS OF BULK AT MOST 1048576: true; the input reads as it did. -/
def fnLookupBetweenUptoRow : OpenClaim := { program := "ytjgidakfpdmfdaa", sum := "78c889ab07f02c50c0439811132e2d6a9293ca7e602c1d34c4d38ad587cc9aac", func := "loop.example/pub-zonerules/laws.FnLookupBetween", spec := "fnLookupBetween", apart := false, narrowed := true }
def FnLookupBetweenUptoSaid : Prop := fnLookupBetweenUptoRow.holds Try.pinned (OpenSpec.upto fnLookupBetweenSpec)

/-- 'laws.FnExactLookup', WHERE WHAT IT READS IS OF BULK AT MOST 1048576: true; the input reads as it did. -/
def fnExactLookupUptoRow : OpenClaim := { program := "ytjgidakfpdmfdaa", sum := "78c889ab07f02c50c0439811132e2d6a9293ca7e602c1d34c4d38ad587cc9aac", func := "loop.example/pub-zonerules/laws.FnExactLookup", spec := "fnExactLookup", apart := false, narrowed := true }
def FnExactLookupUptoSaid : Prop := fnExactLookupUptoRow.holds Try.pinned (OpenSpec.upto fnExactLookupSpec)

/-- 'laws.FnLookupExtend', WHERE WHAT IT READS IS OF BULK AT MOST 1048576: true; the input reads as it did. -/
def fnLookupExtendUptoRow : OpenClaim := { program := "ytjgidakfpdmfdaa", sum := "78c889ab07f02c50c0439811132e2d6a9293ca7e602c1d34c4d38ad587cc9aac", func := "loop.example/pub-zonerules/laws.FnLookupExtend", spec := "fnLookupExtend", apart := false, narrowed := true }
def FnLookupExtendUptoSaid : Prop := fnLookupExtendUptoRow.holds Try.pinned (OpenSpec.upto fnLookupExtendSpec)

end Rows
end Go.Proofs.Ytjgidakfpdmfdaa
