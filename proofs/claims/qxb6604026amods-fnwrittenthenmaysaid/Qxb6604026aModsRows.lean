/-
  No cell of these rows narrows 'for every input' (looked for: loops, veiled, ifaces, maps, wideKeys, modest, calm, conditions, laid).
  DERIVED. THE GIVEN ROWS OF THIS SEAT. 2 by the template 'for every input the law returns true; each argument reads behind the call as it read before'; 0 by the template 'total and deterministic' (their statements: Qxb6604026aModsTotals.lean).
  GIVEN WITH THE SEED: the statements are not yours to turn. If you find one false, say at which input.
  Laid BY PROGRAM, IN A SANDBOX (cutbox-rows.mjs): the forced cells as the released guide's own fill.sh prints them over the translation a84ca3d77db606e0… (all of the seat's roots in one cut). By AI agents, Wed Nov 11 2026. No macro, syntax, notation, axiom, sorry.
-/
import Derived.Test.Qxb6604026aModsChecked
import GoSem.Claim
import GoSem.ClaimJoined
import GoSem.ClaimMapViews
import Derived.JoinedTies
import Derived.KernelRfl
namespace Go.Proofs.Qxb6604026aMods
/- THE CELL 'sum', in the pinned program and in every row, IS THE sha256 OF THE DUMP (.gsa) THAT Qxb6604026aModsProg.lean LOADS. Nothing in Lean hashes anything: it is a label: what it is worth is what the hold of that sum in a sandbox is worth. -/
noncomputable def Trym.pinned : Pinned := { name := "qxb6604026amods", sum := "a84ca3d77db606e0fc534f611f53f01ca76777f802d40fe31d16ceac3961f540", checked := Trym.checked }
namespace Rows
def none {H : Type} : Left H := { results := [], args := [] }

/-- 'zzlaws_sim_b1.FnMayRevisionsAreAPointOrARay': WHATEVER THE INPUT: true; the input reads as it did. -/
def fnMayRevisionsAreAPointOrARaySpec : ChangeSpec := { name := "fnMayRevisionsAreAPointOrARay", fn := fun _ => fun
  | [d1, d2, d3, d4, d5, d6] => { results := [.lit (.bool true)], args := [d1, d2, d3, d4, d5, d6] }
  | _ => none }
def fnMayRevisionsAreAPointOrARayRow : OpenClaim := { program := "qxb6604026amods", sum := "a84ca3d77db606e0fc534f611f53f01ca76777f802d40fe31d16ceac3961f540", func := "example.com/coxswain/coxswain/zzlaws_sim_b1.FnMayRevisionsAreAPointOrARay", spec := "fnMayRevisionsAreAPointOrARay", make := .lifted ["publicsums"], apart := false }
def FnMayRevisionsAreAPointOrARaySaid : Prop := fnMayRevisionsAreAPointOrARayRow.holds Trym.pinned (OpenSpec.ofChange fnMayRevisionsAreAPointOrARaySpec)

/-- ITS FALSE NEIGHBOUR: 'it returns false'. Refute it at one input. -/
def fnMayRevisionsAreAPointOrARayWrong : ChangeSpec := { name := "fnMayRevisionsAreAPointOrARay", fn := fun _ => fun
  | [d1, d2, d3, d4, d5, d6] => { results := [.lit (.bool false)], args := [d1, d2, d3, d4, d5, d6] }
  | _ => none }
def FnMayRevisionsAreAPointOrARayWrongFalsely : Prop := fnMayRevisionsAreAPointOrARayRow.holds Trym.pinned (OpenSpec.ofChange fnMayRevisionsAreAPointOrARayWrong)

/-- 'zzlaws_sim_b1.FnWrittenThenMay': WHATEVER THE INPUT: true; the input reads as it did. -/
def fnWrittenThenMaySpec : ChangeSpec := { name := "fnWrittenThenMay", fn := fun _ => fun
  | [d1, d2, d3, d4, d5, d6, d7, d8, d9, d10] => { results := [.lit (.bool true)], args := [d1, d2, d3, d4, d5, d6, d7, d8, d9, d10] }
  | _ => none }
def fnWrittenThenMayRow : OpenClaim := { program := "qxb6604026amods", sum := "a84ca3d77db606e0fc534f611f53f01ca76777f802d40fe31d16ceac3961f540", func := "example.com/coxswain/coxswain/zzlaws_sim_b1.FnWrittenThenMay", spec := "fnWrittenThenMay", make := .lifted ["publicsums"], apart := false }
def FnWrittenThenMaySaid : Prop := fnWrittenThenMayRow.holds Trym.pinned (OpenSpec.ofChange fnWrittenThenMaySpec)

/-- ITS FALSE NEIGHBOUR: 'it returns false'. Refute it at one input. -/
def fnWrittenThenMayWrong : ChangeSpec := { name := "fnWrittenThenMay", fn := fun _ => fun
  | [d1, d2, d3, d4, d5, d6, d7, d8, d9, d10] => { results := [.lit (.bool false)], args := [d1, d2, d3, d4, d5, d6, d7, d8, d9, d10] }
  | _ => none }
def FnWrittenThenMayWrongFalsely : Prop := fnWrittenThenMayRow.holds Trym.pinned (OpenSpec.ofChange fnWrittenThenMayWrong)

end Rows
end Go.Proofs.Qxb6604026aMods
