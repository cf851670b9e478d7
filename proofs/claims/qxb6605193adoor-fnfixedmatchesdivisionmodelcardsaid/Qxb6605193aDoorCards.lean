/-
  DERIVED. GIVEN WITH THE SEED: THE CARDS: each row of Qxb6605193aDoorRows.lean that lists a variable, with what it lists TIED to the program's text (the seventh form; the later family's looks); each row that meets fmt, with fmt's text TOLD by the authors' own Lean function (tested against real Go, not proved from fmt's source: count such statements apart). THE CARD IS WHAT COUNTS. Prove the row's statement (the work); the ties are given (Qxb6605193aDoorTie.lean); close each card by the builder's one call (the guide's Derived/Test/ToyasCard.lean, 'card_holds'). Laid BY PROGRAM, IN A SANDBOX (cutbox-door.mjs). By AI agents, Wed Nov 11 2026. No macro, syntax, notation, axiom, sorry.
-/
import Derived.Test.Qxb6605193aDoorRows
import GoSem.ClaimSeven
namespace Go.Proofs.Qxb6605193aDoor
namespace Rows

/-- THE TIED CARD OF 'zzlaws_internal_synthbook_b1.FnFixedMatchesDivisionModel'. -/
def fnFixedMatchesDivisionModelCard : Claim7 := { stood := { row := fnFixedMatchesDivisionModelRow, standIns := [], harness := (true, "40c102628214114e9094cbee8108634e485aa49c05ba9b476213d25184700c02"), looks := false }, kinds := [], alts := [], laidByText := true, laidKinds := [.data, .data, .data], laidTests := true, laidLooks := .later }
def FnFixedMatchesDivisionModelCardSaid : Prop := Claim7.holds Tryd.pinned (.plain (OpenSpec.ofChange fnFixedMatchesDivisionModelSpec)) fnFixedMatchesDivisionModelCard

/-- THE TIED CARD OF 'zzlaws_internal_synthbook_b1.FnFixedScalesByTen'. -/
def fnFixedScalesByTenCard : Claim7 := { stood := { row := fnFixedScalesByTenRow, standIns := [], harness := (true, "40c102628214114e9094cbee8108634e485aa49c05ba9b476213d25184700c02"), looks := false }, kinds := [], alts := [], laidByText := true, laidKinds := [.data, .data, .data], laidTests := true, laidLooks := .later }
def FnFixedScalesByTenCardSaid : Prop := Claim7.holds Tryd.pinned (.plain (OpenSpec.ofChange fnFixedScalesByTenSpec)) fnFixedScalesByTenCard

/-- THE TIED CARD OF 'zzlaws_internal_synthbook_b1.FnFixedNegationAddsMinus'. -/
def fnFixedNegationAddsMinusCard : Claim7 := { stood := { row := fnFixedNegationAddsMinusRow, standIns := [], harness := (true, "40c102628214114e9094cbee8108634e485aa49c05ba9b476213d25184700c02"), looks := false }, kinds := [], alts := [], laidByText := true, laidKinds := [.data, .data, .data], laidTests := true, laidLooks := .later }
def FnFixedNegationAddsMinusCardSaid : Prop := Claim7.holds Tryd.pinned (.plain (OpenSpec.ofChange fnFixedNegationAddsMinusSpec)) fnFixedNegationAddsMinusCard
end Rows
end Go.Proofs.Qxb6605193aDoor
