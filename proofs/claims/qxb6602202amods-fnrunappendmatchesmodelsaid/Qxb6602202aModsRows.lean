/-
  No cell of these rows narrows 'for every input' (looked for: loops, veiled, ifaces, maps, wideKeys, modest, calm, conditions, laid).
  DERIVED. THE GIVEN ROWS OF THIS SEAT. 2 by the template 'for every input the law returns true; each argument reads behind the call as it read before'; 0 by the template 'total and deterministic' (their statements: Qxb6602202aModsTotals.lean).
  GIVEN WITH THE SEED: the statements are not yours to turn. If you find one false, say at which input.
  Laid BY PROGRAM, IN A SANDBOX (cutbox-rows.mjs): the forced cells as the released guide's own fill.sh prints them over the translation 84465ab05fbaca98… (all of the seat's roots in one cut). By AI agents, Wed Nov 11 2026. No macro, syntax, notation, axiom, sorry.
-/
import Derived.Test.Qxb6602202aModsChecked
import GoSem.Claim
import GoSem.ClaimJoined
import GoSem.ClaimMapViews
import Derived.JoinedTies
import Derived.KernelRfl
namespace Go.Proofs.Qxb6602202aMods
/- THE CELL 'sum', in the pinned program and in every row, IS THE sha256 OF THE DUMP (.gsa) THAT Qxb6602202aModsProg.lean LOADS. Nothing in Lean hashes anything: it is a label: what it is worth is what the hold of that sum in a sandbox is worth. -/
noncomputable def Trym.pinned : Pinned := { name := "qxb6602202amods", sum := "84465ab05fbaca98a800d36436777ff401b00229ac8d55089f52dc6db2889a10", checked := Trym.checked }
namespace Rows
def none {H : Type} : Left H := { results := [], args := [] }

/-- 'zzlaws_cdi_b1.FnRunAppendMatchesModel': WHATEVER THE INPUT: true; the input reads as it did. -/
def fnRunAppendMatchesModelSpec : ChangeSpec := { name := "fnRunAppendMatchesModel", fn := fun _ => fun
  | [d1, d2] => { results := [.lit (.bool true)], args := [d1, d2] }
  | _ => none }
def fnRunAppendMatchesModelRow : OpenClaim := { program := "qxb6602202amods", sum := "84465ab05fbaca98a800d36436777ff401b00229ac8d55089f52dc6db2889a10", func := "example.com/devicewright/devicewright/zzlaws_cdi_b1.FnRunAppendMatchesModel", spec := "fnRunAppendMatchesModel", make := .lifted ["publicsums"], apart := false }
def FnRunAppendMatchesModelSaid : Prop := fnRunAppendMatchesModelRow.holds Trym.pinned (OpenSpec.ofChange fnRunAppendMatchesModelSpec)

/-- ITS FALSE NEIGHBOUR: 'it returns false'. Refute it at one input. -/
def fnRunAppendMatchesModelWrong : ChangeSpec := { name := "fnRunAppendMatchesModel", fn := fun _ => fun
  | [d1, d2] => { results := [.lit (.bool false)], args := [d1, d2] }
  | _ => none }
def FnRunAppendMatchesModelWrongFalsely : Prop := fnRunAppendMatchesModelRow.holds Trym.pinned (OpenSpec.ofChange fnRunAppendMatchesModelWrong)

/-- 'zzlaws_cdi_b1.FnRunSizeIsAppendedLength': WHATEVER THE INPUT: true; the input reads as it did. -/
def fnRunSizeIsAppendedLengthSpec : ChangeSpec := { name := "fnRunSizeIsAppendedLength", fn := fun _ => fun
  | [d1, d2] => { results := [.lit (.bool true)], args := [d1, d2] }
  | _ => none }
def fnRunSizeIsAppendedLengthRow : OpenClaim := { program := "qxb6602202amods", sum := "84465ab05fbaca98a800d36436777ff401b00229ac8d55089f52dc6db2889a10", func := "example.com/devicewright/devicewright/zzlaws_cdi_b1.FnRunSizeIsAppendedLength", spec := "fnRunSizeIsAppendedLength", make := .lifted ["publicsums"], apart := false }
def FnRunSizeIsAppendedLengthSaid : Prop := fnRunSizeIsAppendedLengthRow.holds Trym.pinned (OpenSpec.ofChange fnRunSizeIsAppendedLengthSpec)

/-- ITS FALSE NEIGHBOUR: 'it returns false'. Refute it at one input. -/
def fnRunSizeIsAppendedLengthWrong : ChangeSpec := { name := "fnRunSizeIsAppendedLength", fn := fun _ => fun
  | [d1, d2] => { results := [.lit (.bool false)], args := [d1, d2] }
  | _ => none }
def FnRunSizeIsAppendedLengthWrongFalsely : Prop := fnRunSizeIsAppendedLengthRow.holds Trym.pinned (OpenSpec.ofChange fnRunSizeIsAppendedLengthWrong)

end Rows
end Go.Proofs.Qxb6602202aMods
