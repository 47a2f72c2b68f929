/-
  No cell of these rows narrows 'for every input' (looked for: loops, veiled, ifaces, maps, wideKeys, modest, calm, conditions, laid).
  DERIVED. THE GIVEN ROWS OF THIS SEAT. 2 by the template 'for every input the law returns true; each argument reads behind the call as it read before'; 0 by the template 'total and deterministic' (their statements: Qxb6605159aModsTotals.lean).
  GIVEN WITH THE SEED: the statements are not yours to turn. If you find one false, say at which input.
  Laid BY PROGRAM, IN A SANDBOX (cutbox-rows.mjs): the forced cells as the released guide's own fill.sh prints them over the translation 65d39b0bc91e0d81… (all of the seat's roots in one cut). By AI agents, Wed Nov 11 2026. No macro, syntax, notation, axiom, sorry.
-/
import Derived.Test.Qxb6605159aModsChecked
import GoSem.Claim
import GoSem.ClaimJoined
import GoSem.ClaimMapViews
import Derived.JoinedTies
import Derived.KernelRfl
namespace Go.Proofs.Qxb6605159aMods
/- THE CELL 'sum', in the pinned program and in every row, IS THE sha256 OF THE DUMP (.gsa) THAT Qxb6605159aModsProg.lean LOADS. Nothing in Lean hashes anything: it is a label: what it is worth is what the hold of that sum in a sandbox is worth. -/
noncomputable def Trym.pinned : Pinned := { name := "qxb6605159amods", sum := "65d39b0bc91e0d81213c24c367df5d1df46605e863d8c69dcf99cb0d892cad43", checked := Trym.checked }
namespace Rows
def none {H : Type} : Left H := { results := [], args := [] }

/-- 'zzlaws_ledger_b1.FnIsDigitsExact': WHATEVER THE INPUT: true; the input reads as it did. -/
def fnIsDigitsExactSpec : ChangeSpec := { name := "fnIsDigitsExact", fn := fun _ => fun
  | [d] => { results := [.lit (.bool true)], args := [d] }
  | _ => none }
def fnIsDigitsExactRow : OpenClaim := { program := "qxb6605159amods", sum := "65d39b0bc91e0d81213c24c367df5d1df46605e863d8c69dcf99cb0d892cad43", func := "example.com/tessera/tessera/zzlaws_ledger_b1.FnIsDigitsExact", spec := "fnIsDigitsExact", make := .lifted ["publicsums"], apart := false }
def FnIsDigitsExactSaid : Prop := fnIsDigitsExactRow.holds Trym.pinned (OpenSpec.ofChange fnIsDigitsExactSpec)

/-- ITS FALSE NEIGHBOUR: 'it returns false'. Refute it at one input. -/
def fnIsDigitsExactWrong : ChangeSpec := { name := "fnIsDigitsExact", fn := fun _ => fun
  | [d] => { results := [.lit (.bool false)], args := [d] }
  | _ => none }
def FnIsDigitsExactWrongFalsely : Prop := fnIsDigitsExactRow.holds Trym.pinned (OpenSpec.ofChange fnIsDigitsExactWrong)

/-- 'zzlaws_ledger_b1.FnIsDigitsAcceptsDecimalRendering': WHATEVER THE INPUT: true; the input reads as it did. -/
def fnIsDigitsAcceptsDecimalRenderingSpec : ChangeSpec := { name := "fnIsDigitsAcceptsDecimalRendering", fn := fun _ => fun
  | [d1, d2] => { results := [.lit (.bool true)], args := [d1, d2] }
  | _ => none }
def fnIsDigitsAcceptsDecimalRenderingRow : OpenClaim := { program := "qxb6605159amods", sum := "65d39b0bc91e0d81213c24c367df5d1df46605e863d8c69dcf99cb0d892cad43", func := "example.com/tessera/tessera/zzlaws_ledger_b1.FnIsDigitsAcceptsDecimalRendering", spec := "fnIsDigitsAcceptsDecimalRendering", make := .lifted ["publicsums"], apart := false }
def FnIsDigitsAcceptsDecimalRenderingSaid : Prop := fnIsDigitsAcceptsDecimalRenderingRow.holds Trym.pinned (OpenSpec.ofChange fnIsDigitsAcceptsDecimalRenderingSpec)

/-- ITS FALSE NEIGHBOUR: 'it returns false'. Refute it at one input. -/
def fnIsDigitsAcceptsDecimalRenderingWrong : ChangeSpec := { name := "fnIsDigitsAcceptsDecimalRendering", fn := fun _ => fun
  | [d1, d2] => { results := [.lit (.bool false)], args := [d1, d2] }
  | _ => none }
def FnIsDigitsAcceptsDecimalRenderingWrongFalsely : Prop := fnIsDigitsAcceptsDecimalRenderingRow.holds Trym.pinned (OpenSpec.ofChange fnIsDigitsAcceptsDecimalRenderingWrong)

end Rows
end Go.Proofs.Qxb6605159aMods
