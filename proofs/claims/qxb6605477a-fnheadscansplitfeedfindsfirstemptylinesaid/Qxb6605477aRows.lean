/-
  No cell of these rows narrows 'for every input' (looked for: loops, veiled, ifaces, maps, wideKeys, modest, calm, conditions, laid).
  DERIVED. THE GIVEN ROWS OF THIS SEAT. 4 by the template 'for every input the law returns true; each argument reads behind the call as it read before'; 0 by the template 'total and deterministic' (their statements: Qxb6605477aTotals.lean).
  GIVEN WITH THE SEED: the statements are not yours to turn. If you find one false, say at which input.
  Laid BY PROGRAM, IN A SANDBOX (cutbox-rows.mjs): the forced cells as the released guide's own fill.sh prints them over the translation 46651ccf0a0a87ac… (all of the seat's roots in one cut). By AI agents, Wed Nov 11 2026. No macro, syntax, notation, axiom, sorry.
-/
import Derived.Test.Qxb6605477aChecked
import GoSem.Claim
import GoSem.ClaimJoined
import GoSem.ClaimMapViews
import Derived.JoinedTies
import Derived.KernelRfl
namespace Go.Proofs.Qxb6605477a
/- THE CELL 'sum', in the pinned program and in every row, IS THE sha256 OF THE DUMP (.gsa) THAT Qxb6605477aProg.lean LOADS. Nothing in Lean hashes anything: it is a label: what it is worth is what the hold of that sum in a sandbox is worth. -/
noncomputable def Try.pinned : Pinned := { name := "qxb6605477a", sum := "46651ccf0a0a87ac7bb24afbe4483850ed2b2867c93ab3a3853f2b345c72a2cb", checked := Try.checked }
namespace Rows
def none {H : Type} : Left H := { results := [], args := [] }

/-- 'zzlaws_http1_b1.FnKindOfMatchesNameTable': WHATEVER THE INPUT: true; the input reads as it did. -/
def fnKindOfMatchesNameTableSpec : ChangeSpec := { name := "fnKindOfMatchesNameTable", fn := fun _ => fun
  | [d] => { results := [.lit (.bool true)], args := [d] }
  | _ => none }
def fnKindOfMatchesNameTableRow : OpenClaim := { program := "qxb6605477a", sum := "46651ccf0a0a87ac7bb24afbe4483850ed2b2867c93ab3a3853f2b345c72a2cb", func := "example.com/halfopen/halfopen/zzlaws_http1_b1.FnKindOfMatchesNameTable", spec := "fnKindOfMatchesNameTable", apart := false }
def FnKindOfMatchesNameTableSaid : Prop := fnKindOfMatchesNameTableRow.holds Try.pinned (OpenSpec.ofChange fnKindOfMatchesNameTableSpec)

/-- ITS FALSE NEIGHBOUR: 'it returns false'. Refute it at one input. -/
def fnKindOfMatchesNameTableWrong : ChangeSpec := { name := "fnKindOfMatchesNameTable", fn := fun _ => fun
  | [d] => { results := [.lit (.bool false)], args := [d] }
  | _ => none }
def FnKindOfMatchesNameTableWrongFalsely : Prop := fnKindOfMatchesNameTableRow.holds Try.pinned (OpenSpec.ofChange fnKindOfMatchesNameTableWrong)

/-- 'zzlaws_http1_b1.FnKindOfCaseVariantsAndNeighbours': WHATEVER THE INPUT: true; the input reads as it did. -/
def fnKindOfCaseVariantsAndNeighboursSpec : ChangeSpec := { name := "fnKindOfCaseVariantsAndNeighbours", fn := fun _ => fun
  | [d1, d2, d3, d4] => { results := [.lit (.bool true)], args := [d1, d2, d3, d4] }
  | _ => none }
def fnKindOfCaseVariantsAndNeighboursRow : OpenClaim := { program := "qxb6605477a", sum := "46651ccf0a0a87ac7bb24afbe4483850ed2b2867c93ab3a3853f2b345c72a2cb", func := "example.com/halfopen/halfopen/zzlaws_http1_b1.FnKindOfCaseVariantsAndNeighbours", spec := "fnKindOfCaseVariantsAndNeighbours", apart := false }
def FnKindOfCaseVariantsAndNeighboursSaid : Prop := fnKindOfCaseVariantsAndNeighboursRow.holds Try.pinned (OpenSpec.ofChange fnKindOfCaseVariantsAndNeighboursSpec)

/-- ITS FALSE NEIGHBOUR: 'it returns false'. Refute it at one input. -/
def fnKindOfCaseVariantsAndNeighboursWrong : ChangeSpec := { name := "fnKindOfCaseVariantsAndNeighbours", fn := fun _ => fun
  | [d1, d2, d3, d4] => { results := [.lit (.bool false)], args := [d1, d2, d3, d4] }
  | _ => none }
def FnKindOfCaseVariantsAndNeighboursWrongFalsely : Prop := fnKindOfCaseVariantsAndNeighboursRow.holds Try.pinned (OpenSpec.ofChange fnKindOfCaseVariantsAndNeighboursWrong)

/-- 'zzlaws_http1_b1.FnHeadScanMatchesByteAutomaton': WHATEVER THE INPUT: true; the input reads as it did. -/
def fnHeadScanMatchesByteAutomatonSpec : ChangeSpec := { name := "fnHeadScanMatchesByteAutomaton", fn := fun _ => fun
  | [d1, d2, d3, d4, d5, d6] => { results := [.lit (.bool true)], args := [d1, d2, d3, d4, d5, d6] }
  | _ => none }
def fnHeadScanMatchesByteAutomatonRow : OpenClaim := { program := "qxb6605477a", sum := "46651ccf0a0a87ac7bb24afbe4483850ed2b2867c93ab3a3853f2b345c72a2cb", func := "example.com/halfopen/halfopen/zzlaws_http1_b1.FnHeadScanMatchesByteAutomaton", spec := "fnHeadScanMatchesByteAutomaton", inPlace := ["internal/bytealg.IndexByte"], apart := false }
def FnHeadScanMatchesByteAutomatonSaid : Prop := fnHeadScanMatchesByteAutomatonRow.holds Try.pinned (OpenSpec.ofChange fnHeadScanMatchesByteAutomatonSpec)

/-- ITS FALSE NEIGHBOUR: 'it returns false'. Refute it at one input. -/
def fnHeadScanMatchesByteAutomatonWrong : ChangeSpec := { name := "fnHeadScanMatchesByteAutomaton", fn := fun _ => fun
  | [d1, d2, d3, d4, d5, d6] => { results := [.lit (.bool false)], args := [d1, d2, d3, d4, d5, d6] }
  | _ => none }
def FnHeadScanMatchesByteAutomatonWrongFalsely : Prop := fnHeadScanMatchesByteAutomatonRow.holds Try.pinned (OpenSpec.ofChange fnHeadScanMatchesByteAutomatonWrong)

/-- 'zzlaws_http1_b1.FnHeadScanSplitFeedFindsFirstEmptyLine': WHATEVER THE INPUT: true; the input reads as it did. -/
def fnHeadScanSplitFeedFindsFirstEmptyLineSpec : ChangeSpec := { name := "fnHeadScanSplitFeedFindsFirstEmptyLine", fn := fun _ => fun
  | [d1, d2] => { results := [.lit (.bool true)], args := [d1, d2] }
  | _ => none }
def fnHeadScanSplitFeedFindsFirstEmptyLineRow : OpenClaim := { program := "qxb6605477a", sum := "46651ccf0a0a87ac7bb24afbe4483850ed2b2867c93ab3a3853f2b345c72a2cb", func := "example.com/halfopen/halfopen/zzlaws_http1_b1.FnHeadScanSplitFeedFindsFirstEmptyLine", spec := "fnHeadScanSplitFeedFindsFirstEmptyLine", inPlace := ["internal/bytealg.IndexByte"], apart := false }
def FnHeadScanSplitFeedFindsFirstEmptyLineSaid : Prop := fnHeadScanSplitFeedFindsFirstEmptyLineRow.holds Try.pinned (OpenSpec.ofChange fnHeadScanSplitFeedFindsFirstEmptyLineSpec)

/-- ITS FALSE NEIGHBOUR: 'it returns false'. Refute it at one input. -/
def fnHeadScanSplitFeedFindsFirstEmptyLineWrong : ChangeSpec := { name := "fnHeadScanSplitFeedFindsFirstEmptyLine", fn := fun _ => fun
  | [d1, d2] => { results := [.lit (.bool false)], args := [d1, d2] }
  | _ => none }
def FnHeadScanSplitFeedFindsFirstEmptyLineWrongFalsely : Prop := fnHeadScanSplitFeedFindsFirstEmptyLineRow.holds Try.pinned (OpenSpec.ofChange fnHeadScanSplitFeedFindsFirstEmptyLineWrong)

end Rows
end Go.Proofs.Qxb6605477a
