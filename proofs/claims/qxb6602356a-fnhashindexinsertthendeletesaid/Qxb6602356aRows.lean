/-
  No cell of these rows narrows 'for every input' (looked for: loops, veiled, ifaces, maps, wideKeys, modest, calm, conditions, laid).
  DERIVED. THE GIVEN ROWS OF THIS SEAT. 5 by the template 'for every input the law returns true; each argument reads behind the call as it read before'; 0 by the template 'total and deterministic' (their statements: Qxb6602356aTotals.lean).
  GIVEN WITH THE SEED: the statements are not yours to turn. If you find one false, say at which input.
  Laid BY PROGRAM, IN A SANDBOX (cutbox-rows.mjs): the forced cells as the released guide's own fill.sh prints them over the translation ed016101cbd6976f… (all of the seat's roots in one cut). By AI agents, Wed Nov 11 2026. No macro, syntax, notation, axiom, sorry.
-/
import Derived.Test.Qxb6602356aChecked
import GoSem.Claim
import GoSem.ClaimJoined
import GoSem.ClaimMapViews
import Derived.JoinedTies
import Derived.KernelRfl
namespace Go.Proofs.Qxb6602356a
/- THE CELL 'sum', in the pinned program and in every row, IS THE sha256 OF THE DUMP (.gsa) THAT Qxb6602356aProg.lean LOADS. Nothing in Lean hashes anything: it is a label: what it is worth is what the hold of that sum in a sandbox is worth. -/
noncomputable def Try.pinned : Pinned := { name := "qxb6602356a", sum := "ed016101cbd6976f336dff3e5ad371b98ac5ccdf864a954f64c03ba00bb7d421", checked := Try.checked }
namespace Rows
def none {H : Type} : Left H := { results := [], args := [] }

/-- 'zzlaws_internal_hashindex_b1.FnHashindexInsertExact': WHATEVER THE INPUT: true; the input reads as it did. -/
def fnHashindexInsertExactSpec : ChangeSpec := { name := "fnHashindexInsertExact", fn := fun _ => fun
  | [d1, d2, d3, d4, d5, d6] => { results := [.lit (.bool true)], args := [d1, d2, d3, d4, d5, d6] }
  | _ => none }
def fnHashindexInsertExactRow : OpenClaim := { program := "qxb6602356a", sum := "ed016101cbd6976f336dff3e5ad371b98ac5ccdf864a954f64c03ba00bb7d421", func := "example.com/rankweave/rankweave/zzlaws_internal_hashindex_b1.FnHashindexInsertExact", spec := "fnHashindexInsertExact", recurses := true, apart := false }
def FnHashindexInsertExactSaid : Prop := fnHashindexInsertExactRow.holds Try.pinned (OpenSpec.ofChange fnHashindexInsertExactSpec)

/-- ITS FALSE NEIGHBOUR: 'it returns false'. Refute it at one input. -/
def fnHashindexInsertExactWrong : ChangeSpec := { name := "fnHashindexInsertExact", fn := fun _ => fun
  | [d1, d2, d3, d4, d5, d6] => { results := [.lit (.bool false)], args := [d1, d2, d3, d4, d5, d6] }
  | _ => none }
def FnHashindexInsertExactWrongFalsely : Prop := fnHashindexInsertExactRow.holds Try.pinned (OpenSpec.ofChange fnHashindexInsertExactWrong)

/-- 'zzlaws_internal_hashindex_b1.FnHashindexDeleteExact': WHATEVER THE INPUT: true; the input reads as it did. -/
def fnHashindexDeleteExactSpec : ChangeSpec := { name := "fnHashindexDeleteExact", fn := fun _ => fun
  | [d1, d2, d3, d4, d5, d6] => { results := [.lit (.bool true)], args := [d1, d2, d3, d4, d5, d6] }
  | _ => none }
def fnHashindexDeleteExactRow : OpenClaim := { program := "qxb6602356a", sum := "ed016101cbd6976f336dff3e5ad371b98ac5ccdf864a954f64c03ba00bb7d421", func := "example.com/rankweave/rankweave/zzlaws_internal_hashindex_b1.FnHashindexDeleteExact", spec := "fnHashindexDeleteExact", recurses := true, apart := false }
def FnHashindexDeleteExactSaid : Prop := fnHashindexDeleteExactRow.holds Try.pinned (OpenSpec.ofChange fnHashindexDeleteExactSpec)

/-- ITS FALSE NEIGHBOUR: 'it returns false'. Refute it at one input. -/
def fnHashindexDeleteExactWrong : ChangeSpec := { name := "fnHashindexDeleteExact", fn := fun _ => fun
  | [d1, d2, d3, d4, d5, d6] => { results := [.lit (.bool false)], args := [d1, d2, d3, d4, d5, d6] }
  | _ => none }
def FnHashindexDeleteExactWrongFalsely : Prop := fnHashindexDeleteExactRow.holds Try.pinned (OpenSpec.ofChange fnHashindexDeleteExactWrong)

/-- 'zzlaws_internal_hashindex_b1.FnHashindexInsertThenDelete': WHATEVER THE INPUT: true; the input reads as it did. -/
def fnHashindexInsertThenDeleteSpec : ChangeSpec := { name := "fnHashindexInsertThenDelete", fn := fun _ => fun
  | [d1, d2, d3, d4, d5, d6] => { results := [.lit (.bool true)], args := [d1, d2, d3, d4, d5, d6] }
  | _ => none }
def fnHashindexInsertThenDeleteRow : OpenClaim := { program := "qxb6602356a", sum := "ed016101cbd6976f336dff3e5ad371b98ac5ccdf864a954f64c03ba00bb7d421", func := "example.com/rankweave/rankweave/zzlaws_internal_hashindex_b1.FnHashindexInsertThenDelete", spec := "fnHashindexInsertThenDelete", recurses := true, apart := false }
def FnHashindexInsertThenDeleteSaid : Prop := fnHashindexInsertThenDeleteRow.holds Try.pinned (OpenSpec.ofChange fnHashindexInsertThenDeleteSpec)

/-- ITS FALSE NEIGHBOUR: 'it returns false'. Refute it at one input. -/
def fnHashindexInsertThenDeleteWrong : ChangeSpec := { name := "fnHashindexInsertThenDelete", fn := fun _ => fun
  | [d1, d2, d3, d4, d5, d6] => { results := [.lit (.bool false)], args := [d1, d2, d3, d4, d5, d6] }
  | _ => none }
def FnHashindexInsertThenDeleteWrongFalsely : Prop := fnHashindexInsertThenDeleteRow.holds Try.pinned (OpenSpec.ofChange fnHashindexInsertThenDeleteWrong)

/-- 'zzlaws_internal_hashindex_b1.FnHashindexGrowRehash': WHATEVER THE INPUT: true; the input reads as it did. -/
def fnHashindexGrowRehashSpec : ChangeSpec := { name := "fnHashindexGrowRehash", fn := fun _ => fun
  | [d1, d2, d3, d4] => { results := [.lit (.bool true)], args := [d1, d2, d3, d4] }
  | _ => none }
def fnHashindexGrowRehashRow : OpenClaim := { program := "qxb6602356a", sum := "ed016101cbd6976f336dff3e5ad371b98ac5ccdf864a954f64c03ba00bb7d421", func := "example.com/rankweave/rankweave/zzlaws_internal_hashindex_b1.FnHashindexGrowRehash", spec := "fnHashindexGrowRehash", recurses := true, apart := false }
def FnHashindexGrowRehashSaid : Prop := fnHashindexGrowRehashRow.holds Try.pinned (OpenSpec.ofChange fnHashindexGrowRehashSpec)

/-- ITS FALSE NEIGHBOUR: 'it returns false'. Refute it at one input. -/
def fnHashindexGrowRehashWrong : ChangeSpec := { name := "fnHashindexGrowRehash", fn := fun _ => fun
  | [d1, d2, d3, d4] => { results := [.lit (.bool false)], args := [d1, d2, d3, d4] }
  | _ => none }
def FnHashindexGrowRehashWrongFalsely : Prop := fnHashindexGrowRehashRow.holds Try.pinned (OpenSpec.ofChange fnHashindexGrowRehashWrong)

/-- 'zzlaws_internal_hashindex_b1.FnHashindexInsertAllDeleteAll': WHATEVER THE INPUT: true; the input reads as it did. -/
def fnHashindexInsertAllDeleteAllSpec : ChangeSpec := { name := "fnHashindexInsertAllDeleteAll", fn := fun _ => fun
  | [d] => { results := [.lit (.bool true)], args := [d] }
  | _ => none }
def fnHashindexInsertAllDeleteAllRow : OpenClaim := { program := "qxb6602356a", sum := "ed016101cbd6976f336dff3e5ad371b98ac5ccdf864a954f64c03ba00bb7d421", func := "example.com/rankweave/rankweave/zzlaws_internal_hashindex_b1.FnHashindexInsertAllDeleteAll", spec := "fnHashindexInsertAllDeleteAll", recurses := true, apart := false }
def FnHashindexInsertAllDeleteAllSaid : Prop := fnHashindexInsertAllDeleteAllRow.holds Try.pinned (OpenSpec.ofChange fnHashindexInsertAllDeleteAllSpec)

/-- ITS FALSE NEIGHBOUR: 'it returns false'. Refute it at one input. -/
def fnHashindexInsertAllDeleteAllWrong : ChangeSpec := { name := "fnHashindexInsertAllDeleteAll", fn := fun _ => fun
  | [d] => { results := [.lit (.bool false)], args := [d] }
  | _ => none }
def FnHashindexInsertAllDeleteAllWrongFalsely : Prop := fnHashindexInsertAllDeleteAllRow.holds Try.pinned (OpenSpec.ofChange fnHashindexInsertAllDeleteAllWrong)

end Rows
end Go.Proofs.Qxb6602356a
