/-
  No cell of these rows narrows 'for every input' (looked for: loops, veiled, ifaces, maps, wideKeys, modest, calm, conditions, laid).
  DERIVED. THE GIVEN ROWS OF THIS SEAT. 4 by the template 'for every input the law returns true; each argument reads behind the call as it read before'; 0 by the template 'total and deterministic' (their statements: Qxb6604059aModsTotals.lean).
  GIVEN WITH THE SEED: the statements are not yours to turn. If you find one false, say at which input.
  Laid BY PROGRAM, IN A SANDBOX (cutbox-rows.mjs): the forced cells as the released guide's own fill.sh prints them over the translation 6ac7a96eef398f9f… (all of the seat's roots in one cut). By AI agents, Wed Nov 11 2026. No macro, syntax, notation, axiom, sorry.
-/
import Derived.Test.Qxb6604059aModsChecked
import GoSem.Claim
import GoSem.ClaimJoined
import GoSem.ClaimMapViews
import Derived.JoinedTies
import Derived.KernelRfl
namespace Go.Proofs.Qxb6604059aMods
/- THE CELL 'sum', in the pinned program and in every row, IS THE sha256 OF THE DUMP (.gsa) THAT Qxb6604059aModsProg.lean LOADS. Nothing in Lean hashes anything: it is a label: what it is worth is what the hold of that sum in a sandbox is worth. -/
noncomputable def Trym.pinned : Pinned := { name := "qxb6604059amods", sum := "6ac7a96eef398f9fe94fef4f5682f2ab2744a3e1683f27add99ba537d8e8e589", checked := Trym.checked }
namespace Rows
def none {H : Type} : Left H := { results := [], args := [] }

/-- 'zzlaws_internal_pgstore_b1.FnOperatorQueriesSpliceTableName': WHATEVER THE INPUT: true; the input reads as it did. -/
def fnOperatorQueriesSpliceTableNameSpec : ChangeSpec := { name := "fnOperatorQueriesSpliceTableName", fn := fun _ => fun
  | [d1, d2, d3, d4, d5, d6] => { results := [.lit (.bool true)], args := [d1, d2, d3, d4, d5, d6] }
  | _ => none }
def fnOperatorQueriesSpliceTableNameRow : OpenClaim := { program := "qxb6604059amods", sum := "6ac7a96eef398f9fe94fef4f5682f2ab2744a3e1683f27add99ba537d8e8e589", func := "example.com/ferrybox/ferrybox/zzlaws_internal_pgstore_b1.FnOperatorQueriesSpliceTableName", spec := "fnOperatorQueriesSpliceTableName", make := .lifted ["publicsums"], apart := false }
def FnOperatorQueriesSpliceTableNameSaid : Prop := fnOperatorQueriesSpliceTableNameRow.holds Trym.pinned (OpenSpec.ofChange fnOperatorQueriesSpliceTableNameSpec)

/-- ITS FALSE NEIGHBOUR: 'it returns false'. Refute it at one input. -/
def fnOperatorQueriesSpliceTableNameWrong : ChangeSpec := { name := "fnOperatorQueriesSpliceTableName", fn := fun _ => fun
  | [d1, d2, d3, d4, d5, d6] => { results := [.lit (.bool false)], args := [d1, d2, d3, d4, d5, d6] }
  | _ => none }
def FnOperatorQueriesSpliceTableNameWrongFalsely : Prop := fnOperatorQueriesSpliceTableNameRow.holds Trym.pinned (OpenSpec.ofChange fnOperatorQueriesSpliceTableNameWrong)

/-- 'zzlaws_internal_pgstore_b1.FnOperatorQueriesTellTablesApart': WHATEVER THE INPUT: true; the input reads as it did. -/
def fnOperatorQueriesTellTablesApartSpec : ChangeSpec := { name := "fnOperatorQueriesTellTablesApart", fn := fun _ => fun
  | [d1, d2] => { results := [.lit (.bool true)], args := [d1, d2] }
  | _ => none }
def fnOperatorQueriesTellTablesApartRow : OpenClaim := { program := "qxb6604059amods", sum := "6ac7a96eef398f9fe94fef4f5682f2ab2744a3e1683f27add99ba537d8e8e589", func := "example.com/ferrybox/ferrybox/zzlaws_internal_pgstore_b1.FnOperatorQueriesTellTablesApart", spec := "fnOperatorQueriesTellTablesApart", make := .lifted ["publicsums"], apart := false }
def FnOperatorQueriesTellTablesApartSaid : Prop := fnOperatorQueriesTellTablesApartRow.holds Trym.pinned (OpenSpec.ofChange fnOperatorQueriesTellTablesApartSpec)

/-- ITS FALSE NEIGHBOUR: 'it returns false'. Refute it at one input. -/
def fnOperatorQueriesTellTablesApartWrong : ChangeSpec := { name := "fnOperatorQueriesTellTablesApart", fn := fun _ => fun
  | [d1, d2] => { results := [.lit (.bool false)], args := [d1, d2] }
  | _ => none }
def FnOperatorQueriesTellTablesApartWrongFalsely : Prop := fnOperatorQueriesTellTablesApartRow.holds Trym.pinned (OpenSpec.ofChange fnOperatorQueriesTellTablesApartWrong)

/-- 'zzlaws_internal_pgstore_b1.FnTableIndexesSpliceOrder': WHATEVER THE INPUT: true; the input reads as it did. -/
def fnTableIndexesSpliceOrderSpec : ChangeSpec := { name := "fnTableIndexesSpliceOrder", fn := fun _ => fun
  | [d] => { results := [.lit (.bool true)], args := [d] }
  | _ => none }
def fnTableIndexesSpliceOrderRow : OpenClaim := { program := "qxb6604059amods", sum := "6ac7a96eef398f9fe94fef4f5682f2ab2744a3e1683f27add99ba537d8e8e589", func := "example.com/ferrybox/ferrybox/zzlaws_internal_pgstore_b1.FnTableIndexesSpliceOrder", spec := "fnTableIndexesSpliceOrder", make := .lifted ["publicsums"], apart := false }
def FnTableIndexesSpliceOrderSaid : Prop := fnTableIndexesSpliceOrderRow.holds Trym.pinned (OpenSpec.ofChange fnTableIndexesSpliceOrderSpec)

/-- ITS FALSE NEIGHBOUR: 'it returns false'. Refute it at one input. -/
def fnTableIndexesSpliceOrderWrong : ChangeSpec := { name := "fnTableIndexesSpliceOrder", fn := fun _ => fun
  | [d] => { results := [.lit (.bool false)], args := [d] }
  | _ => none }
def FnTableIndexesSpliceOrderWrongFalsely : Prop := fnTableIndexesSpliceOrderRow.holds Trym.pinned (OpenSpec.ofChange fnTableIndexesSpliceOrderWrong)

/-- 'zzlaws_internal_pgstore_b1.FnIndexesServeBacklogAndCleanup': WHATEVER THE INPUT: true; the input reads as it did. -/
def fnIndexesServeBacklogAndCleanupSpec : ChangeSpec := { name := "fnIndexesServeBacklogAndCleanup", fn := fun _ => fun
  | [d1, d2] => { results := [.lit (.bool true)], args := [d1, d2] }
  | _ => none }
def fnIndexesServeBacklogAndCleanupRow : OpenClaim := { program := "qxb6604059amods", sum := "6ac7a96eef398f9fe94fef4f5682f2ab2744a3e1683f27add99ba537d8e8e589", func := "example.com/ferrybox/ferrybox/zzlaws_internal_pgstore_b1.FnIndexesServeBacklogAndCleanup", spec := "fnIndexesServeBacklogAndCleanup", make := .lifted ["publicsums"], apart := false }
def FnIndexesServeBacklogAndCleanupSaid : Prop := fnIndexesServeBacklogAndCleanupRow.holds Trym.pinned (OpenSpec.ofChange fnIndexesServeBacklogAndCleanupSpec)

/-- ITS FALSE NEIGHBOUR: 'it returns false'. Refute it at one input. -/
def fnIndexesServeBacklogAndCleanupWrong : ChangeSpec := { name := "fnIndexesServeBacklogAndCleanup", fn := fun _ => fun
  | [d1, d2] => { results := [.lit (.bool false)], args := [d1, d2] }
  | _ => none }
def FnIndexesServeBacklogAndCleanupWrongFalsely : Prop := fnIndexesServeBacklogAndCleanupRow.holds Trym.pinned (OpenSpec.ofChange fnIndexesServeBacklogAndCleanupWrong)

end Rows
end Go.Proofs.Qxb6604059aMods
