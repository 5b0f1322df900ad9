/-
  No cell of these rows narrows 'for every input' (looked for: loops, veiled, ifaces, maps, wideKeys, modest, calm, conditions, laid).
  DERIVED. THE GIVEN ROWS OF THIS SEAT. 3 by the template 'for every input the law returns true; each argument reads behind the call as it read before'; 0 by the template 'total and deterministic' (their statements: Qxb6601364aTotals.lean).
  GIVEN WITH THE SEED: the statements are not yours to turn. If you find one false, say at which input.
  Laid BY PROGRAM, IN A SANDBOX (cutbox-rows.mjs): the forced cells as the released guide's own fill.sh prints them over the translation 8c42401c13880866… (all of the seat's roots in one cut). By AI agents, Wed Nov 11 2026. No macro, syntax, notation, axiom, sorry.
-/
import Derived.Test.Qxb6601364aChecked
import GoSem.Claim
import GoSem.ClaimJoined
import GoSem.ClaimMapViews
import Derived.JoinedTies
import Derived.KernelRfl
namespace Go.Proofs.Qxb6601364a
/- THE CELL 'sum', in the pinned program and in every row, IS THE sha256 OF THE DUMP (.gsa) THAT Qxb6601364aProg.lean LOADS. Nothing in Lean hashes anything: it is a label: what it is worth is what the hold of that sum in a sandbox is worth. -/
noncomputable def Try.pinned : Pinned := { name := "qxb6601364a", sum := "8c42401c1388086663498889cec0de0f4fd3920e1f3fb5d476da6f82c0798f63", checked := Try.checked }
namespace Rows
def none {H : Type} : Left H := { results := [], args := [] }

/-- 'zzlaws_root_b1.FnStatusLetterClasses': WHATEVER THE INPUT: true; the input reads as it did. -/
def fnStatusLetterClassesSpec : ChangeSpec := { name := "fnStatusLetterClasses", fn := fun _ => fun
  | [] => { results := [.lit (.bool true)], args := [] }
  | _ => none }
def fnStatusLetterClassesRow : OpenClaim := { program := "qxb6601364a", sum := "8c42401c1388086663498889cec0de0f4fd3920e1f3fb5d476da6f82c0798f63", func := "example.com/retrace/retrace/zzlaws_root_b1.FnStatusLetterClasses", spec := "fnStatusLetterClasses", apart := false }
def FnStatusLetterClassesSaid : Prop := fnStatusLetterClassesRow.holds Try.pinned (OpenSpec.ofChange fnStatusLetterClassesSpec)

/-- ITS FALSE NEIGHBOUR: 'it returns false'. Refute it at one input. -/
def fnStatusLetterClassesWrong : ChangeSpec := { name := "fnStatusLetterClasses", fn := fun _ => fun
  | [] => { results := [.lit (.bool false)], args := [] }
  | _ => none }
def FnStatusLetterClassesWrongFalsely : Prop := fnStatusLetterClassesRow.holds Try.pinned (OpenSpec.ofChange fnStatusLetterClassesWrong)

/-- 'zzlaws_root_b1.FnCountsAddUndo': WHATEVER THE INPUT: true; the input reads as it did. -/
def fnCountsAddUndoSpec : ChangeSpec := { name := "fnCountsAddUndo", fn := fun _ => fun
  | [d1, d2, d3, d4] => { results := [.lit (.bool true)], args := [d1, d2, d3, d4] }
  | _ => none }
def fnCountsAddUndoRow : OpenClaim := { program := "qxb6601364a", sum := "8c42401c1388086663498889cec0de0f4fd3920e1f3fb5d476da6f82c0798f63", func := "example.com/retrace/retrace/zzlaws_root_b1.FnCountsAddUndo", spec := "fnCountsAddUndo", apart := false }
def FnCountsAddUndoSaid : Prop := fnCountsAddUndoRow.holds Try.pinned (OpenSpec.ofChange fnCountsAddUndoSpec)

/-- ITS FALSE NEIGHBOUR: 'it returns false'. Refute it at one input. -/
def fnCountsAddUndoWrong : ChangeSpec := { name := "fnCountsAddUndo", fn := fun _ => fun
  | [d1, d2, d3, d4] => { results := [.lit (.bool false)], args := [d1, d2, d3, d4] }
  | _ => none }
def FnCountsAddUndoWrongFalsely : Prop := fnCountsAddUndoRow.holds Try.pinned (OpenSpec.ofChange fnCountsAddUndoWrong)

/-- 'zzlaws_root_b1.FnCountsAddCommute': WHATEVER THE INPUT: true; the input reads as it did. -/
def fnCountsAddCommuteSpec : ChangeSpec := { name := "fnCountsAddCommute", fn := fun _ => fun
  | [d1, d2, d3, d4, d5, d6] => { results := [.lit (.bool true)], args := [d1, d2, d3, d4, d5, d6] }
  | _ => none }
def fnCountsAddCommuteRow : OpenClaim := { program := "qxb6601364a", sum := "8c42401c1388086663498889cec0de0f4fd3920e1f3fb5d476da6f82c0798f63", func := "example.com/retrace/retrace/zzlaws_root_b1.FnCountsAddCommute", spec := "fnCountsAddCommute", apart := false }
def FnCountsAddCommuteSaid : Prop := fnCountsAddCommuteRow.holds Try.pinned (OpenSpec.ofChange fnCountsAddCommuteSpec)

/-- ITS FALSE NEIGHBOUR: 'it returns false'. Refute it at one input. -/
def fnCountsAddCommuteWrong : ChangeSpec := { name := "fnCountsAddCommute", fn := fun _ => fun
  | [d1, d2, d3, d4, d5, d6] => { results := [.lit (.bool false)], args := [d1, d2, d3, d4, d5, d6] }
  | _ => none }
def FnCountsAddCommuteWrongFalsely : Prop := fnCountsAddCommuteRow.holds Try.pinned (OpenSpec.ofChange fnCountsAddCommuteWrong)

end Rows
end Go.Proofs.Qxb6601364a
