/-
  No cell of these rows narrows 'for every input' (looked for: loops, veiled, ifaces, maps, wideKeys, modest, calm, conditions, laid).
  DERIVED. THE GIVEN ROWS OF THIS SEAT. 3 by the template 'for every input the law returns true; each argument reads behind the call as it read before'; 0 by the template 'total and deterministic' (their statements: Qxb6605222aTotals.lean).
  GIVEN WITH THE SEED: the statements are not yours to turn. If you find one false, say at which input.
  Laid BY PROGRAM, IN A SANDBOX (cutbox-rows.mjs): the forced cells as the released guide's own fill.sh prints them over the translation 8c79287ccfc2044d… (all of the seat's roots in one cut). By AI agents, Wed Nov 11 2026. No macro, syntax, notation, axiom, sorry.
-/
import Derived.Test.Qxb6605222aChecked
import GoSem.Claim
import GoSem.ClaimJoined
import GoSem.ClaimMapViews
import Derived.JoinedTies
import Derived.KernelRfl
namespace Go.Proofs.Qxb6605222a
/- THE CELL 'sum', in the pinned program and in every row, IS THE sha256 OF THE DUMP (.gsa) THAT Qxb6605222aProg.lean LOADS. Nothing in Lean hashes anything: it is a label: what it is worth is what the hold of that sum in a sandbox is worth. -/
noncomputable def Try.pinned : Pinned := { name := "qxb6605222a", sum := "8c79287ccfc2044df5c743d4ec3b7f2662e68f3053adbbe980469d69c2e94c04", checked := Try.checked }
namespace Rows
def none {H : Type} : Left H := { results := [], args := [] }

/-- 'zzlaws_internal_annotation_b1.FnPathVariablesMatchesScanner': WHATEVER THE INPUT: true; the input reads as it did. -/
def fnPathVariablesMatchesScannerSpec : ChangeSpec := { name := "fnPathVariablesMatchesScanner", fn := fun _ => fun
  | [d] => { results := [.lit (.bool true)], args := [d] }
  | _ => none }
def fnPathVariablesMatchesScannerRow : OpenClaim := { program := "qxb6605222a", sum := "8c79287ccfc2044df5c743d4ec3b7f2662e68f3053adbbe980469d69c2e94c04", func := "example.com/limnary/limnary/zzlaws_internal_annotation_b1.FnPathVariablesMatchesScanner", spec := "fnPathVariablesMatchesScanner", inPlace := ["internal/bytealg.IndexByteString", "internal/bytealg.IndexString"], named := ["internal/bytealg.MaxLen"], apart := false }
def FnPathVariablesMatchesScannerSaid : Prop := fnPathVariablesMatchesScannerRow.holds Try.pinned (OpenSpec.ofChange fnPathVariablesMatchesScannerSpec)

/-- ITS FALSE NEIGHBOUR: 'it returns false'. Refute it at one input. -/
def fnPathVariablesMatchesScannerWrong : ChangeSpec := { name := "fnPathVariablesMatchesScanner", fn := fun _ => fun
  | [d] => { results := [.lit (.bool false)], args := [d] }
  | _ => none }
def FnPathVariablesMatchesScannerWrongFalsely : Prop := fnPathVariablesMatchesScannerRow.holds Try.pinned (OpenSpec.ofChange fnPathVariablesMatchesScannerWrong)

/-- 'zzlaws_internal_annotation_b1.FnPathVariablesReadsBackWrittenNames': WHATEVER THE INPUT: true; the input reads as it did. -/
def fnPathVariablesReadsBackWrittenNamesSpec : ChangeSpec := { name := "fnPathVariablesReadsBackWrittenNames", fn := fun _ => fun
  | [d1, d2] => { results := [.lit (.bool true)], args := [d1, d2] }
  | _ => none }
def fnPathVariablesReadsBackWrittenNamesRow : OpenClaim := { program := "qxb6605222a", sum := "8c79287ccfc2044df5c743d4ec3b7f2662e68f3053adbbe980469d69c2e94c04", func := "example.com/limnary/limnary/zzlaws_internal_annotation_b1.FnPathVariablesReadsBackWrittenNames", spec := "fnPathVariablesReadsBackWrittenNames", inPlace := ["internal/bytealg.IndexByteString", "internal/bytealg.IndexString"], named := ["internal/bytealg.MaxLen"], apart := false }
def FnPathVariablesReadsBackWrittenNamesSaid : Prop := fnPathVariablesReadsBackWrittenNamesRow.holds Try.pinned (OpenSpec.ofChange fnPathVariablesReadsBackWrittenNamesSpec)

/-- ITS FALSE NEIGHBOUR: 'it returns false'. Refute it at one input. -/
def fnPathVariablesReadsBackWrittenNamesWrong : ChangeSpec := { name := "fnPathVariablesReadsBackWrittenNames", fn := fun _ => fun
  | [d1, d2] => { results := [.lit (.bool false)], args := [d1, d2] }
  | _ => none }
def FnPathVariablesReadsBackWrittenNamesWrongFalsely : Prop := fnPathVariablesReadsBackWrittenNamesRow.holds Try.pinned (OpenSpec.ofChange fnPathVariablesReadsBackWrittenNamesWrong)

/-- 'zzlaws_internal_annotation_b1.FnUpToStopsAtFirstStop': WHATEVER THE INPUT: true; the input reads as it did. -/
def fnUpToStopsAtFirstStopSpec : ChangeSpec := { name := "fnUpToStopsAtFirstStop", fn := fun _ => fun
  | [d1, d2, d3] => { results := [.lit (.bool true)], args := [d1, d2, d3] }
  | _ => none }
def fnUpToStopsAtFirstStopRow : OpenClaim := { program := "qxb6605222a", sum := "8c79287ccfc2044df5c743d4ec3b7f2662e68f3053adbbe980469d69c2e94c04", func := "example.com/limnary/limnary/zzlaws_internal_annotation_b1.FnUpToStopsAtFirstStop", spec := "fnUpToStopsAtFirstStop", inPlace := ["internal/bytealg.IndexByteString", "internal/bytealg.IndexString"], named := ["internal/bytealg.MaxLen"], apart := false }
def FnUpToStopsAtFirstStopSaid : Prop := fnUpToStopsAtFirstStopRow.holds Try.pinned (OpenSpec.ofChange fnUpToStopsAtFirstStopSpec)

/-- ITS FALSE NEIGHBOUR: 'it returns false'. Refute it at one input. -/
def fnUpToStopsAtFirstStopWrong : ChangeSpec := { name := "fnUpToStopsAtFirstStop", fn := fun _ => fun
  | [d1, d2, d3] => { results := [.lit (.bool false)], args := [d1, d2, d3] }
  | _ => none }
def FnUpToStopsAtFirstStopWrongFalsely : Prop := fnUpToStopsAtFirstStopRow.holds Try.pinned (OpenSpec.ofChange fnUpToStopsAtFirstStopWrong)

end Rows
end Go.Proofs.Qxb6605222a
