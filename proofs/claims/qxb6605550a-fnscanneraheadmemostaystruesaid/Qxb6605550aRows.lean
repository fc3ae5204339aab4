/-
  No cell of these rows narrows 'for every input' (looked for: loops, veiled, ifaces, maps, wideKeys, modest, calm, conditions, laid).
  DERIVED. THE GIVEN ROWS OF THIS SEAT. 5 by the template 'for every input the law returns true; each argument reads behind the call as it read before'; 0 by the template 'total and deterministic' (their statements: Qxb6605550aTotals.lean).
  GIVEN WITH THE SEED: the statements are not yours to turn. If you find one false, say at which input.
  Laid BY PROGRAM, IN A SANDBOX (cutbox-rows.mjs): the forced cells as the released guide's own fill.sh prints them over the translation 3441e0aa23785e14… (all of the seat's roots in one cut). By AI agents, Wed Nov 11 2026. No macro, syntax, notation, axiom, sorry.
-/
import Derived.Test.Qxb6605550aChecked
import GoSem.Claim
import GoSem.ClaimJoined
import GoSem.ClaimMapViews
import Derived.JoinedTies
import Derived.KernelRfl
namespace Go.Proofs.Qxb6605550a
/- THE CELL 'sum', in the pinned program and in every row, IS THE sha256 OF THE DUMP (.gsa) THAT Qxb6605550aProg.lean LOADS. Nothing in Lean hashes anything: it is a label: what it is worth is what the hold of that sum in a sandbox is worth. -/
noncomputable def Try.pinned : Pinned := { name := "qxb6605550a", sum := "3441e0aa23785e147331891a4ae344854567e78fbaeba59a5942cc371a23855c", checked := Try.checked }
namespace Rows
def none {H : Type} : Left H := { results := [], args := [] }

/-- 'zzlaws_internal_rawjson_b1.FnStringEndMatchesEscapeScanner': WHATEVER THE INPUT: true; the input reads as it did. -/
def fnStringEndMatchesEscapeScannerSpec : ChangeSpec := { name := "fnStringEndMatchesEscapeScanner", fn := fun _ => fun
  | [d1, d2] => { results := [.lit (.bool true)], args := [d1, d2] }
  | _ => none }
def fnStringEndMatchesEscapeScannerRow : OpenClaim := { program := "qxb6605550a", sum := "3441e0aa23785e147331891a4ae344854567e78fbaeba59a5942cc371a23855c", func := "example.com/veer/veer/zzlaws_internal_rawjson_b1.FnStringEndMatchesEscapeScanner", spec := "fnStringEndMatchesEscapeScanner", inPlace := ["internal/bytealg.IndexByte"], apart := false }
def FnStringEndMatchesEscapeScannerSaid : Prop := fnStringEndMatchesEscapeScannerRow.holds Try.pinned (OpenSpec.ofChange fnStringEndMatchesEscapeScannerSpec)

/-- ITS FALSE NEIGHBOUR: 'it returns false'. Refute it at one input. -/
def fnStringEndMatchesEscapeScannerWrong : ChangeSpec := { name := "fnStringEndMatchesEscapeScanner", fn := fun _ => fun
  | [d1, d2] => { results := [.lit (.bool false)], args := [d1, d2] }
  | _ => none }
def FnStringEndMatchesEscapeScannerWrongFalsely : Prop := fnStringEndMatchesEscapeScannerRow.holds Try.pinned (OpenSpec.ofChange fnStringEndMatchesEscapeScannerWrong)

/-- 'zzlaws_internal_rawjson_b1.FnStringEndClosesEscapedBody': WHATEVER THE INPUT: true; the input reads as it did. -/
def fnStringEndClosesEscapedBodySpec : ChangeSpec := { name := "fnStringEndClosesEscapedBody", fn := fun _ => fun
  | [d1, d2, d3] => { results := [.lit (.bool true)], args := [d1, d2, d3] }
  | _ => none }
def fnStringEndClosesEscapedBodyRow : OpenClaim := { program := "qxb6605550a", sum := "3441e0aa23785e147331891a4ae344854567e78fbaeba59a5942cc371a23855c", func := "example.com/veer/veer/zzlaws_internal_rawjson_b1.FnStringEndClosesEscapedBody", spec := "fnStringEndClosesEscapedBody", inPlace := ["internal/bytealg.IndexByte"], apart := false }
def FnStringEndClosesEscapedBodySaid : Prop := fnStringEndClosesEscapedBodyRow.holds Try.pinned (OpenSpec.ofChange fnStringEndClosesEscapedBodySpec)

/-- ITS FALSE NEIGHBOUR: 'it returns false'. Refute it at one input. -/
def fnStringEndClosesEscapedBodyWrong : ChangeSpec := { name := "fnStringEndClosesEscapedBody", fn := fun _ => fun
  | [d1, d2, d3] => { results := [.lit (.bool false)], args := [d1, d2, d3] }
  | _ => none }
def FnStringEndClosesEscapedBodyWrongFalsely : Prop := fnStringEndClosesEscapedBodyRow.holds Try.pinned (OpenSpec.ofChange fnStringEndClosesEscapedBodyWrong)

/-- 'zzlaws_internal_rawjson_b1.FnAppendEscapeDecodesBack': WHATEVER THE INPUT: true; the input reads as it did. -/
def fnAppendEscapeDecodesBackSpec : ChangeSpec := { name := "fnAppendEscapeDecodesBack", fn := fun _ => fun
  | [d1, d2] => { results := [.lit (.bool true)], args := [d1, d2] }
  | _ => none }
def fnAppendEscapeDecodesBackRow : OpenClaim := { program := "qxb6605550a", sum := "3441e0aa23785e147331891a4ae344854567e78fbaeba59a5942cc371a23855c", func := "example.com/veer/veer/zzlaws_internal_rawjson_b1.FnAppendEscapeDecodesBack", spec := "fnAppendEscapeDecodesBack", apart := false }
def FnAppendEscapeDecodesBackSaid : Prop := fnAppendEscapeDecodesBackRow.holds Try.pinned (OpenSpec.ofChange fnAppendEscapeDecodesBackSpec)

/-- ITS FALSE NEIGHBOUR: 'it returns false'. Refute it at one input. -/
def fnAppendEscapeDecodesBackWrong : ChangeSpec := { name := "fnAppendEscapeDecodesBack", fn := fun _ => fun
  | [d1, d2] => { results := [.lit (.bool false)], args := [d1, d2] }
  | _ => none }
def FnAppendEscapeDecodesBackWrongFalsely : Prop := fnAppendEscapeDecodesBackRow.holds Try.pinned (OpenSpec.ofChange fnAppendEscapeDecodesBackWrong)

/-- 'zzlaws_internal_rawjson_b1.FnScannerAheadMatchesModel': WHATEVER THE INPUT: true; the input reads as it did. -/
def fnScannerAheadMatchesModelSpec : ChangeSpec := { name := "fnScannerAheadMatchesModel", fn := fun _ => fun
  | [d1, d2, d3, d4, d5, d6, d7, d8] => { results := [.lit (.bool true)], args := [d1, d2, d3, d4, d5, d6, d7, d8] }
  | _ => none }
def fnScannerAheadMatchesModelRow : OpenClaim := { program := "qxb6605550a", sum := "3441e0aa23785e147331891a4ae344854567e78fbaeba59a5942cc371a23855c", func := "example.com/veer/veer/zzlaws_internal_rawjson_b1.FnScannerAheadMatchesModel", spec := "fnScannerAheadMatchesModel", inPlace := ["internal/bytealg.IndexByte"], apart := false }
def FnScannerAheadMatchesModelSaid : Prop := fnScannerAheadMatchesModelRow.holds Try.pinned (OpenSpec.ofChange fnScannerAheadMatchesModelSpec)

/-- ITS FALSE NEIGHBOUR: 'it returns false'. Refute it at one input. -/
def fnScannerAheadMatchesModelWrong : ChangeSpec := { name := "fnScannerAheadMatchesModel", fn := fun _ => fun
  | [d1, d2, d3, d4, d5, d6, d7, d8] => { results := [.lit (.bool false)], args := [d1, d2, d3, d4, d5, d6, d7, d8] }
  | _ => none }
def FnScannerAheadMatchesModelWrongFalsely : Prop := fnScannerAheadMatchesModelRow.holds Try.pinned (OpenSpec.ofChange fnScannerAheadMatchesModelWrong)

/-- 'zzlaws_internal_rawjson_b1.FnScannerAheadMemoStaysTrue': WHATEVER THE INPUT: true; the input reads as it did. -/
def fnScannerAheadMemoStaysTrueSpec : ChangeSpec := { name := "fnScannerAheadMemoStaysTrue", fn := fun _ => fun
  | [d1, d2, d3, d4, d5, d6, d7, d8, d9] => { results := [.lit (.bool true)], args := [d1, d2, d3, d4, d5, d6, d7, d8, d9] }
  | _ => none }
def fnScannerAheadMemoStaysTrueRow : OpenClaim := { program := "qxb6605550a", sum := "3441e0aa23785e147331891a4ae344854567e78fbaeba59a5942cc371a23855c", func := "example.com/veer/veer/zzlaws_internal_rawjson_b1.FnScannerAheadMemoStaysTrue", spec := "fnScannerAheadMemoStaysTrue", inPlace := ["internal/bytealg.IndexByte"], apart := false }
def FnScannerAheadMemoStaysTrueSaid : Prop := fnScannerAheadMemoStaysTrueRow.holds Try.pinned (OpenSpec.ofChange fnScannerAheadMemoStaysTrueSpec)

/-- ITS FALSE NEIGHBOUR: 'it returns false'. Refute it at one input. -/
def fnScannerAheadMemoStaysTrueWrong : ChangeSpec := { name := "fnScannerAheadMemoStaysTrue", fn := fun _ => fun
  | [d1, d2, d3, d4, d5, d6, d7, d8, d9] => { results := [.lit (.bool false)], args := [d1, d2, d3, d4, d5, d6, d7, d8, d9] }
  | _ => none }
def FnScannerAheadMemoStaysTrueWrongFalsely : Prop := fnScannerAheadMemoStaysTrueRow.holds Try.pinned (OpenSpec.ofChange fnScannerAheadMemoStaysTrueWrong)

end Rows
end Go.Proofs.Qxb6605550a
