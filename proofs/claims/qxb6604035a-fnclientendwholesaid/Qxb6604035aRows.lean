/-
  No cell of these rows narrows 'for every input' (looked for: loops, veiled, ifaces, maps, wideKeys, modest, calm, conditions, laid).
  DERIVED. THE GIVEN ROWS OF THIS SEAT. 2 by the template 'for every input the law returns true; each argument reads behind the call as it read before'; 0 by the template 'total and deterministic' (their statements: Qxb6604035aTotals.lean).
  GIVEN WITH THE SEED: the statements are not yours to turn. If you find one false, say at which input.
  Laid BY PROGRAM, IN A SANDBOX (cutbox-rows.mjs): the forced cells as the released guide's own fill.sh prints them over the translation 157d2b9aaff4a751… (all of the seat's roots in one cut). By AI agents, Wed Nov 11 2026. No macro, syntax, notation, axiom, sorry.
-/
import Derived.Test.Qxb6604035aChecked
import GoSem.Claim
import GoSem.ClaimJoined
import GoSem.ClaimMapViews
import Derived.JoinedTies
import Derived.KernelRfl
namespace Go.Proofs.Qxb6604035a
/- THE CELL 'sum', in the pinned program and in every row, IS THE sha256 OF THE DUMP (.gsa) THAT Qxb6604035aProg.lean LOADS. Nothing in Lean hashes anything: it is a label: what it is worth is what the hold of that sum in a sandbox is worth. -/
noncomputable def Try.pinned : Pinned := { name := "qxb6604035a", sum := "157d2b9aaff4a751e3ec406b796d6874e977bfeb030c3e9ce61b6af946361eba", checked := Try.checked }
namespace Rows
def none {H : Type} : Left H := { results := [], args := [] }

/-- 'zzlaws_history_b1.FnClientEndWhole': WHATEVER THE INPUT: true; the input reads as it did. -/
def fnClientEndWholeSpec : ChangeSpec := { name := "fnClientEndWhole", fn := fun _ => fun
  | [d1, d2, d3, d4] => { results := [.lit (.bool true)], args := [d1, d2, d3, d4] }
  | _ => none }
def fnClientEndWholeRow : OpenClaim := { program := "qxb6604035a", sum := "157d2b9aaff4a751e3ec406b796d6874e977bfeb030c3e9ce61b6af946361eba", func := "example.com/holdfast/holdfast/zzlaws_history_b1.FnClientEndWhole", spec := "fnClientEndWhole", apart := false }
def FnClientEndWholeSaid : Prop := fnClientEndWholeRow.holds Try.pinned (OpenSpec.ofChange fnClientEndWholeSpec)

/-- ITS FALSE NEIGHBOUR: 'it returns false'. Refute it at one input. -/
def fnClientEndWholeWrong : ChangeSpec := { name := "fnClientEndWhole", fn := fun _ => fun
  | [d1, d2, d3, d4] => { results := [.lit (.bool false)], args := [d1, d2, d3, d4] }
  | _ => none }
def FnClientEndWholeWrongFalsely : Prop := fnClientEndWholeRow.holds Try.pinned (OpenSpec.ofChange fnClientEndWholeWrong)

/-- 'zzlaws_history_b1.FnClientEndFailedIDsStayApart': WHATEVER THE INPUT: true; the input reads as it did. -/
def fnClientEndFailedIDsStayApartSpec : ChangeSpec := { name := "fnClientEndFailedIDsStayApart", fn := fun _ => fun
  | [d1, d2, d3, d4, d5] => { results := [.lit (.bool true)], args := [d1, d2, d3, d4, d5] }
  | _ => none }
def fnClientEndFailedIDsStayApartRow : OpenClaim := { program := "qxb6604035a", sum := "157d2b9aaff4a751e3ec406b796d6874e977bfeb030c3e9ce61b6af946361eba", func := "example.com/holdfast/holdfast/zzlaws_history_b1.FnClientEndFailedIDsStayApart", spec := "fnClientEndFailedIDsStayApart", apart := false }
def FnClientEndFailedIDsStayApartSaid : Prop := fnClientEndFailedIDsStayApartRow.holds Try.pinned (OpenSpec.ofChange fnClientEndFailedIDsStayApartSpec)

/-- ITS FALSE NEIGHBOUR: 'it returns false'. Refute it at one input. -/
def fnClientEndFailedIDsStayApartWrong : ChangeSpec := { name := "fnClientEndFailedIDsStayApart", fn := fun _ => fun
  | [d1, d2, d3, d4, d5] => { results := [.lit (.bool false)], args := [d1, d2, d3, d4, d5] }
  | _ => none }
def FnClientEndFailedIDsStayApartWrongFalsely : Prop := fnClientEndFailedIDsStayApartRow.holds Try.pinned (OpenSpec.ofChange fnClientEndFailedIDsStayApartWrong)

end Rows
end Go.Proofs.Qxb6604035a
