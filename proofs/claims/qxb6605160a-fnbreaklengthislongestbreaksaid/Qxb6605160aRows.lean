/-
  No cell of these rows narrows 'for every input' (looked for: loops, veiled, ifaces, maps, wideKeys, modest, calm, conditions, laid).
  DERIVED. THE GIVEN ROWS OF THIS SEAT. 2 by the template 'for every input the law returns true; each argument reads behind the call as it read before'; 0 by the template 'total and deterministic' (their statements: Qxb6605160aTotals.lean).
  GIVEN WITH THE SEED: the statements are not yours to turn. If you find one false, say at which input.
  Laid BY PROGRAM, IN A SANDBOX (cutbox-rows.mjs): the forced cells as the released guide's own fill.sh prints them over the translation 394ca49066c9afea… (all of the seat's roots in one cut). By AI agents, Wed Nov 11 2026. No macro, syntax, notation, axiom, sorry.
-/
import Derived.Test.Qxb6605160aChecked
import GoSem.Claim
import GoSem.ClaimJoined
import GoSem.ClaimMapViews
import Derived.JoinedTies
import Derived.KernelRfl
namespace Go.Proofs.Qxb6605160a
/- THE CELL 'sum', in the pinned program and in every row, IS THE sha256 OF THE DUMP (.gsa) THAT Qxb6605160aProg.lean LOADS. Nothing in Lean hashes anything: it is a label: what it is worth is what the hold of that sum in a sandbox is worth. -/
noncomputable def Try.pinned : Pinned := { name := "qxb6605160a", sum := "394ca49066c9afea7ed89aeeaef82cf825886585f85b3e16fd4ca156b7e3ec98", checked := Try.checked }
namespace Rows
def none {H : Type} : Left H := { results := [], args := [] }

/-- 'zzlaws_root_b1.FnBreakLengthIsLongestBreak': WHATEVER THE INPUT: true; the input reads as it did. -/
def fnBreakLengthIsLongestBreakSpec : ChangeSpec := { name := "fnBreakLengthIsLongestBreak", fn := fun _ => fun
  | [d] => { results := [.lit (.bool true)], args := [d] }
  | _ => none }
def fnBreakLengthIsLongestBreakRow : OpenClaim := { program := "qxb6605160a", sum := "394ca49066c9afea7ed89aeeaef82cf825886585f85b3e16fd4ca156b7e3ec98", func := "example.com/daftar/daftar/zzlaws_root_b1.FnBreakLengthIsLongestBreak", spec := "fnBreakLengthIsLongestBreak", apart := false }
def FnBreakLengthIsLongestBreakSaid : Prop := fnBreakLengthIsLongestBreakRow.holds Try.pinned (OpenSpec.ofChange fnBreakLengthIsLongestBreakSpec)

/-- ITS FALSE NEIGHBOUR: 'it returns false'. Refute it at one input. -/
def fnBreakLengthIsLongestBreakWrong : ChangeSpec := { name := "fnBreakLengthIsLongestBreak", fn := fun _ => fun
  | [d] => { results := [.lit (.bool false)], args := [d] }
  | _ => none }
def FnBreakLengthIsLongestBreakWrongFalsely : Prop := fnBreakLengthIsLongestBreakRow.holds Try.pinned (OpenSpec.ofChange fnBreakLengthIsLongestBreakWrong)

/-- 'zzlaws_root_b1.FnWithGroupsFreely': WHATEVER THE INPUT: true; the input reads as it did. -/
def fnWithGroupsFreelySpec : ChangeSpec := { name := "fnWithGroupsFreely", fn := fun _ => fun
  | [d1, d2, d3, d4, d5, d6] => { results := [.lit (.bool true)], args := [d1, d2, d3, d4, d5, d6] }
  | _ => none }
def fnWithGroupsFreelyRow : OpenClaim := { program := "qxb6605160a", sum := "394ca49066c9afea7ed89aeeaef82cf825886585f85b3e16fd4ca156b7e3ec98", func := "example.com/daftar/daftar/zzlaws_root_b1.FnWithGroupsFreely", spec := "fnWithGroupsFreely", apart := false }
def FnWithGroupsFreelySaid : Prop := fnWithGroupsFreelyRow.holds Try.pinned (OpenSpec.ofChange fnWithGroupsFreelySpec)

/-- ITS FALSE NEIGHBOUR: 'it returns false'. Refute it at one input. -/
def fnWithGroupsFreelyWrong : ChangeSpec := { name := "fnWithGroupsFreely", fn := fun _ => fun
  | [d1, d2, d3, d4, d5, d6] => { results := [.lit (.bool false)], args := [d1, d2, d3, d4, d5, d6] }
  | _ => none }
def FnWithGroupsFreelyWrongFalsely : Prop := fnWithGroupsFreelyRow.holds Try.pinned (OpenSpec.ofChange fnWithGroupsFreelyWrong)

end Rows
end Go.Proofs.Qxb6605160a
