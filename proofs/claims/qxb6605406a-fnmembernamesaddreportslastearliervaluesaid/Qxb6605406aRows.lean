/-
  No cell of these rows narrows 'for every input' (looked for: loops, veiled, ifaces, maps, wideKeys, modest, calm, conditions, laid).
  DERIVED. THE GIVEN ROWS OF THIS SEAT. 5 by the template 'for every input the law returns true; each argument reads behind the call as it read before'; 0 by the template 'total and deterministic' (their statements: Qxb6605406aTotals.lean).
  GIVEN WITH THE SEED: the statements are not yours to turn. If you find one false, say at which input.
  Laid BY PROGRAM, IN A SANDBOX (cutbox-rows.mjs): the forced cells as the released guide's own fill.sh prints them over the translation 54b9fa8d3c1ca711… (all of the seat's roots in one cut). By AI agents, Wed Nov 11 2026. No macro, syntax, notation, axiom, sorry.
-/
import Derived.Test.Qxb6605406aChecked
import GoSem.Claim
import GoSem.ClaimJoined
import GoSem.ClaimMapViews
import Derived.JoinedTies
import Derived.KernelRfl
namespace Go.Proofs.Qxb6605406a
/- THE CELL 'sum', in the pinned program and in every row, IS THE sha256 OF THE DUMP (.gsa) THAT Qxb6605406aProg.lean LOADS. Nothing in Lean hashes anything: it is a label: what it is worth is what the hold of that sum in a sandbox is worth. -/
noncomputable def Try.pinned : Pinned := { name := "qxb6605406a", sum := "54b9fa8d3c1ca7118e1e63524c8edea631c8118c6c68c39f9676411eb7340e39", checked := Try.checked }
namespace Rows
def none {H : Type} : Left H := { results := [], args := [] }

/-- 'zzlaws_root_b1.FnOneLineJoinsWordsWithSingleSpaces': WHATEVER THE INPUT: true; the input reads as it did. -/
def fnOneLineJoinsWordsWithSingleSpacesSpec : ChangeSpec := { name := "fnOneLineJoinsWordsWithSingleSpaces", fn := fun _ => fun
  | [d] => { results := [.lit (.bool true)], args := [d] }
  | _ => none }
def fnOneLineJoinsWordsWithSingleSpacesRow : OpenClaim := { program := "qxb6605406a", sum := "54b9fa8d3c1ca7118e1e63524c8edea631c8118c6c68c39f9676411eb7340e39", func := "example.com/role-condition-check/role-condition-check/zzlaws_root_b1.FnOneLineJoinsWordsWithSingleSpaces", spec := "fnOneLineJoinsWordsWithSingleSpaces", inPlace := ["internal/bytealg.IndexByteString", "internal/bytealg.IndexString", "internal/abi.NoEscape", "internal/bytealg.MakeNoZero"], named := ["internal/bytealg.MaxLen"], apart := false }
def FnOneLineJoinsWordsWithSingleSpacesSaid : Prop := fnOneLineJoinsWordsWithSingleSpacesRow.holds Try.pinned (OpenSpec.ofChange fnOneLineJoinsWordsWithSingleSpacesSpec)

/-- ITS FALSE NEIGHBOUR: 'it returns false'. Refute it at one input. -/
def fnOneLineJoinsWordsWithSingleSpacesWrong : ChangeSpec := { name := "fnOneLineJoinsWordsWithSingleSpaces", fn := fun _ => fun
  | [d] => { results := [.lit (.bool false)], args := [d] }
  | _ => none }
def FnOneLineJoinsWordsWithSingleSpacesWrongFalsely : Prop := fnOneLineJoinsWordsWithSingleSpacesRow.holds Try.pinned (OpenSpec.ofChange fnOneLineJoinsWordsWithSingleSpacesWrong)

/-- 'zzlaws_root_b1.FnOneLineKeepsWordsAndCollapsesEachRun': WHATEVER THE INPUT: true; the input reads as it did. -/
def fnOneLineKeepsWordsAndCollapsesEachRunSpec : ChangeSpec := { name := "fnOneLineKeepsWordsAndCollapsesEachRun", fn := fun _ => fun
  | [d] => { results := [.lit (.bool true)], args := [d] }
  | _ => none }
def fnOneLineKeepsWordsAndCollapsesEachRunRow : OpenClaim := { program := "qxb6605406a", sum := "54b9fa8d3c1ca7118e1e63524c8edea631c8118c6c68c39f9676411eb7340e39", func := "example.com/role-condition-check/role-condition-check/zzlaws_root_b1.FnOneLineKeepsWordsAndCollapsesEachRun", spec := "fnOneLineKeepsWordsAndCollapsesEachRun", inPlace := ["internal/bytealg.IndexByteString", "internal/bytealg.IndexString", "internal/abi.NoEscape", "internal/bytealg.MakeNoZero"], named := ["internal/bytealg.MaxLen"], apart := false }
def FnOneLineKeepsWordsAndCollapsesEachRunSaid : Prop := fnOneLineKeepsWordsAndCollapsesEachRunRow.holds Try.pinned (OpenSpec.ofChange fnOneLineKeepsWordsAndCollapsesEachRunSpec)

/-- ITS FALSE NEIGHBOUR: 'it returns false'. Refute it at one input. -/
def fnOneLineKeepsWordsAndCollapsesEachRunWrong : ChangeSpec := { name := "fnOneLineKeepsWordsAndCollapsesEachRun", fn := fun _ => fun
  | [d] => { results := [.lit (.bool false)], args := [d] }
  | _ => none }
def FnOneLineKeepsWordsAndCollapsesEachRunWrongFalsely : Prop := fnOneLineKeepsWordsAndCollapsesEachRunRow.holds Try.pinned (OpenSpec.ofChange fnOneLineKeepsWordsAndCollapsesEachRunWrong)

/-- 'zzlaws_root_b1.FnStringLengthMatchesEscapeScanner': WHATEVER THE INPUT: true; the input reads as it did. -/
def fnStringLengthMatchesEscapeScannerSpec : ChangeSpec := { name := "fnStringLengthMatchesEscapeScanner", fn := fun _ => fun
  | [d] => { results := [.lit (.bool true)], args := [d] }
  | _ => none }
def fnStringLengthMatchesEscapeScannerRow : OpenClaim := { program := "qxb6605406a", sum := "54b9fa8d3c1ca7118e1e63524c8edea631c8118c6c68c39f9676411eb7340e39", func := "example.com/role-condition-check/role-condition-check/zzlaws_root_b1.FnStringLengthMatchesEscapeScanner", spec := "fnStringLengthMatchesEscapeScanner", inPlace := ["internal/bytealg.IndexByte"], apart := false }
def FnStringLengthMatchesEscapeScannerSaid : Prop := fnStringLengthMatchesEscapeScannerRow.holds Try.pinned (OpenSpec.ofChange fnStringLengthMatchesEscapeScannerSpec)

/-- ITS FALSE NEIGHBOUR: 'it returns false'. Refute it at one input. -/
def fnStringLengthMatchesEscapeScannerWrong : ChangeSpec := { name := "fnStringLengthMatchesEscapeScanner", fn := fun _ => fun
  | [d] => { results := [.lit (.bool false)], args := [d] }
  | _ => none }
def FnStringLengthMatchesEscapeScannerWrongFalsely : Prop := fnStringLengthMatchesEscapeScannerRow.holds Try.pinned (OpenSpec.ofChange fnStringLengthMatchesEscapeScannerWrong)

/-- 'zzlaws_root_b1.FnStringLengthShiftsUnderPrefixes': WHATEVER THE INPUT: true; the input reads as it did. -/
def fnStringLengthShiftsUnderPrefixesSpec : ChangeSpec := { name := "fnStringLengthShiftsUnderPrefixes", fn := fun _ => fun
  | [d1, d2] => { results := [.lit (.bool true)], args := [d1, d2] }
  | _ => none }
def fnStringLengthShiftsUnderPrefixesRow : OpenClaim := { program := "qxb6605406a", sum := "54b9fa8d3c1ca7118e1e63524c8edea631c8118c6c68c39f9676411eb7340e39", func := "example.com/role-condition-check/role-condition-check/zzlaws_root_b1.FnStringLengthShiftsUnderPrefixes", spec := "fnStringLengthShiftsUnderPrefixes", inPlace := ["internal/bytealg.IndexByte"], apart := false }
def FnStringLengthShiftsUnderPrefixesSaid : Prop := fnStringLengthShiftsUnderPrefixesRow.holds Try.pinned (OpenSpec.ofChange fnStringLengthShiftsUnderPrefixesSpec)

/-- ITS FALSE NEIGHBOUR: 'it returns false'. Refute it at one input. -/
def fnStringLengthShiftsUnderPrefixesWrong : ChangeSpec := { name := "fnStringLengthShiftsUnderPrefixes", fn := fun _ => fun
  | [d1, d2] => { results := [.lit (.bool false)], args := [d1, d2] }
  | _ => none }
def FnStringLengthShiftsUnderPrefixesWrongFalsely : Prop := fnStringLengthShiftsUnderPrefixesRow.holds Try.pinned (OpenSpec.ofChange fnStringLengthShiftsUnderPrefixesWrong)

/-- 'zzlaws_root_b1.FnMemberNamesAddReportsLastEarlierValue': WHATEVER THE INPUT: true; the input reads as it did. -/
def fnMemberNamesAddReportsLastEarlierValueSpec : ChangeSpec := { name := "fnMemberNamesAddReportsLastEarlierValue", fn := fun _ => fun
  | [d] => { results := [.lit (.bool true)], args := [d] }
  | _ => none }
def fnMemberNamesAddReportsLastEarlierValueRow : OpenClaim := { program := "qxb6605406a", sum := "54b9fa8d3c1ca7118e1e63524c8edea631c8118c6c68c39f9676411eb7340e39", func := "example.com/role-condition-check/role-condition-check/zzlaws_root_b1.FnMemberNamesAddReportsLastEarlierValue", spec := "fnMemberNamesAddReportsLastEarlierValue", apart := false }
def FnMemberNamesAddReportsLastEarlierValueSaid : Prop := fnMemberNamesAddReportsLastEarlierValueRow.holds Try.pinned (OpenSpec.ofChange fnMemberNamesAddReportsLastEarlierValueSpec)

/-- ITS FALSE NEIGHBOUR: 'it returns false'. Refute it at one input. -/
def fnMemberNamesAddReportsLastEarlierValueWrong : ChangeSpec := { name := "fnMemberNamesAddReportsLastEarlierValue", fn := fun _ => fun
  | [d] => { results := [.lit (.bool false)], args := [d] }
  | _ => none }
def FnMemberNamesAddReportsLastEarlierValueWrongFalsely : Prop := fnMemberNamesAddReportsLastEarlierValueRow.holds Try.pinned (OpenSpec.ofChange fnMemberNamesAddReportsLastEarlierValueWrong)

end Rows
end Go.Proofs.Qxb6605406a
