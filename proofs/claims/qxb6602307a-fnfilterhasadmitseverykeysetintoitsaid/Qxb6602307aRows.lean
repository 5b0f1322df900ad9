/-
  No cell of these rows narrows 'for every input' (looked for: loops, veiled, ifaces, maps, wideKeys, modest, calm, conditions, laid).
  DERIVED. THE GIVEN ROWS OF THIS SEAT. 5 by the template 'for every input the law returns true; each argument reads behind the call as it read before'; 0 by the template 'total and deterministic' (their statements: Qxb6602307aTotals.lean).
  GIVEN WITH THE SEED: the statements are not yours to turn. If you find one false, say at which input.
  Laid BY PROGRAM, IN A SANDBOX (cutbox-rows.mjs): the forced cells as the released guide's own fill.sh prints them over the translation 87ad12dcdfe7bdbe… (all of the seat's roots in one cut). By AI agents, Wed Nov 11 2026. No macro, syntax, notation, axiom, sorry.
-/
import Derived.Test.Qxb6602307aChecked
import GoSem.Claim
import GoSem.ClaimJoined
import GoSem.ClaimMapViews
import Derived.JoinedTies
import Derived.KernelRfl
namespace Go.Proofs.Qxb6602307a
/- THE CELL 'sum', in the pinned program and in every row, IS THE sha256 OF THE DUMP (.gsa) THAT Qxb6602307aProg.lean LOADS. Nothing in Lean hashes anything: it is a label: what it is worth is what the hold of that sum in a sandbox is worth. -/
noncomputable def Try.pinned : Pinned := { name := "qxb6602307a", sum := "87ad12dcdfe7bdbe0aea37c12dde50a7e5c860303ccaddbca2ddfaf2b4cd615c", checked := Try.checked }
namespace Rows
def none {H : Type} : Left H := { results := [], args := [] }

/-- 'zzlaws_archive_b1.FnHashKeyIsMixedFNV1a': WHATEVER THE INPUT: true; the input reads as it did. -/
def fnHashKeyIsMixedFNV1aSpec : ChangeSpec := { name := "fnHashKeyIsMixedFNV1a", fn := fun _ => fun
  | [d1, d2] => { results := [.lit (.bool true)], args := [d1, d2] }
  | _ => none }
def fnHashKeyIsMixedFNV1aRow : OpenClaim := { program := "qxb6602307a", sum := "87ad12dcdfe7bdbe0aea37c12dde50a7e5c860303ccaddbca2ddfaf2b4cd615c", func := "example.com/votum/votum/zzlaws_archive_b1.FnHashKeyIsMixedFNV1a", spec := "fnHashKeyIsMixedFNV1a", apart := false }
def FnHashKeyIsMixedFNV1aSaid : Prop := fnHashKeyIsMixedFNV1aRow.holds Try.pinned (OpenSpec.ofChange fnHashKeyIsMixedFNV1aSpec)

/-- ITS FALSE NEIGHBOUR: 'it returns false'. Refute it at one input. -/
def fnHashKeyIsMixedFNV1aWrong : ChangeSpec := { name := "fnHashKeyIsMixedFNV1a", fn := fun _ => fun
  | [d1, d2] => { results := [.lit (.bool false)], args := [d1, d2] }
  | _ => none }
def FnHashKeyIsMixedFNV1aWrongFalsely : Prop := fnHashKeyIsMixedFNV1aRow.holds Try.pinned (OpenSpec.ofChange fnHashKeyIsMixedFNV1aWrong)

/-- 'zzlaws_archive_b1.FnHashKeyOneByteChangeShows': WHATEVER THE INPUT: true; the input reads as it did. -/
def fnHashKeyOneByteChangeShowsSpec : ChangeSpec := { name := "fnHashKeyOneByteChangeShows", fn := fun _ => fun
  | [d1, d2, d3] => { results := [.lit (.bool true)], args := [d1, d2, d3] }
  | _ => none }
def fnHashKeyOneByteChangeShowsRow : OpenClaim := { program := "qxb6602307a", sum := "87ad12dcdfe7bdbe0aea37c12dde50a7e5c860303ccaddbca2ddfaf2b4cd615c", func := "example.com/votum/votum/zzlaws_archive_b1.FnHashKeyOneByteChangeShows", spec := "fnHashKeyOneByteChangeShows", apart := false }
def FnHashKeyOneByteChangeShowsSaid : Prop := fnHashKeyOneByteChangeShowsRow.holds Try.pinned (OpenSpec.ofChange fnHashKeyOneByteChangeShowsSpec)

/-- ITS FALSE NEIGHBOUR: 'it returns false'. Refute it at one input. -/
def fnHashKeyOneByteChangeShowsWrong : ChangeSpec := { name := "fnHashKeyOneByteChangeShows", fn := fun _ => fun
  | [d1, d2, d3] => { results := [.lit (.bool false)], args := [d1, d2, d3] }
  | _ => none }
def FnHashKeyOneByteChangeShowsWrongFalsely : Prop := fnHashKeyOneByteChangeShowsRow.holds Try.pinned (OpenSpec.ofChange fnHashKeyOneByteChangeShowsWrong)

/-- 'zzlaws_archive_b1.FnFilterHasDistributesOverAnd': WHATEVER THE INPUT: true; the input reads as it did. -/
def fnFilterHasDistributesOverAndSpec : ChangeSpec := { name := "fnFilterHasDistributesOverAnd", fn := fun _ => fun
  | [d1, d2, d3] => { results := [.lit (.bool true)], args := [d1, d2, d3] }
  | _ => none }
def fnFilterHasDistributesOverAndRow : OpenClaim := { program := "qxb6602307a", sum := "87ad12dcdfe7bdbe0aea37c12dde50a7e5c860303ccaddbca2ddfaf2b4cd615c", func := "example.com/votum/votum/zzlaws_archive_b1.FnFilterHasDistributesOverAnd", spec := "fnFilterHasDistributesOverAnd", apart := false }
def FnFilterHasDistributesOverAndSaid : Prop := fnFilterHasDistributesOverAndRow.holds Try.pinned (OpenSpec.ofChange fnFilterHasDistributesOverAndSpec)

/-- ITS FALSE NEIGHBOUR: 'it returns false'. Refute it at one input. -/
def fnFilterHasDistributesOverAndWrong : ChangeSpec := { name := "fnFilterHasDistributesOverAnd", fn := fun _ => fun
  | [d1, d2, d3] => { results := [.lit (.bool false)], args := [d1, d2, d3] }
  | _ => none }
def FnFilterHasDistributesOverAndWrongFalsely : Prop := fnFilterHasDistributesOverAndRow.holds Try.pinned (OpenSpec.ofChange fnFilterHasDistributesOverAndWrong)

/-- 'zzlaws_archive_b1.FnFilterHasFullAdmitsEmptyRefuses': WHATEVER THE INPUT: true; the input reads as it did. -/
def fnFilterHasFullAdmitsEmptyRefusesSpec : ChangeSpec := { name := "fnFilterHasFullAdmitsEmptyRefuses", fn := fun _ => fun
  | [d1, d2] => { results := [.lit (.bool true)], args := [d1, d2] }
  | _ => none }
def fnFilterHasFullAdmitsEmptyRefusesRow : OpenClaim := { program := "qxb6602307a", sum := "87ad12dcdfe7bdbe0aea37c12dde50a7e5c860303ccaddbca2ddfaf2b4cd615c", func := "example.com/votum/votum/zzlaws_archive_b1.FnFilterHasFullAdmitsEmptyRefuses", spec := "fnFilterHasFullAdmitsEmptyRefuses", apart := false }
def FnFilterHasFullAdmitsEmptyRefusesSaid : Prop := fnFilterHasFullAdmitsEmptyRefusesRow.holds Try.pinned (OpenSpec.ofChange fnFilterHasFullAdmitsEmptyRefusesSpec)

/-- ITS FALSE NEIGHBOUR: 'it returns false'. Refute it at one input. -/
def fnFilterHasFullAdmitsEmptyRefusesWrong : ChangeSpec := { name := "fnFilterHasFullAdmitsEmptyRefuses", fn := fun _ => fun
  | [d1, d2] => { results := [.lit (.bool false)], args := [d1, d2] }
  | _ => none }
def FnFilterHasFullAdmitsEmptyRefusesWrongFalsely : Prop := fnFilterHasFullAdmitsEmptyRefusesRow.holds Try.pinned (OpenSpec.ofChange fnFilterHasFullAdmitsEmptyRefusesWrong)

/-- 'zzlaws_archive_b1.FnFilterHasAdmitsEveryKeySetIntoIt': WHATEVER THE INPUT: true; the input reads as it did. -/
def fnFilterHasAdmitsEveryKeySetIntoItSpec : ChangeSpec := { name := "fnFilterHasAdmitsEveryKeySetIntoIt", fn := fun _ => fun
  | [d1, d2] => { results := [.lit (.bool true)], args := [d1, d2] }
  | _ => none }
def fnFilterHasAdmitsEveryKeySetIntoItRow : OpenClaim := { program := "qxb6602307a", sum := "87ad12dcdfe7bdbe0aea37c12dde50a7e5c860303ccaddbca2ddfaf2b4cd615c", func := "example.com/votum/votum/zzlaws_archive_b1.FnFilterHasAdmitsEveryKeySetIntoIt", spec := "fnFilterHasAdmitsEveryKeySetIntoIt", apart := false }
def FnFilterHasAdmitsEveryKeySetIntoItSaid : Prop := fnFilterHasAdmitsEveryKeySetIntoItRow.holds Try.pinned (OpenSpec.ofChange fnFilterHasAdmitsEveryKeySetIntoItSpec)

/-- ITS FALSE NEIGHBOUR: 'it returns false'. Refute it at one input. -/
def fnFilterHasAdmitsEveryKeySetIntoItWrong : ChangeSpec := { name := "fnFilterHasAdmitsEveryKeySetIntoIt", fn := fun _ => fun
  | [d1, d2] => { results := [.lit (.bool false)], args := [d1, d2] }
  | _ => none }
def FnFilterHasAdmitsEveryKeySetIntoItWrongFalsely : Prop := fnFilterHasAdmitsEveryKeySetIntoItRow.holds Try.pinned (OpenSpec.ofChange fnFilterHasAdmitsEveryKeySetIntoItWrong)

end Rows
end Go.Proofs.Qxb6602307a
