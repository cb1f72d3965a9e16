/-
  No cell of these rows narrows 'for every input' (looked for: loops, veiled, ifaces, maps, wideKeys, modest, calm, conditions, laid).
  DERIVED. THE GIVEN ROWS OF THIS SEAT. 2 by the template 'for every input the law returns true; each argument reads behind the call as it read before'; 0 by the template 'total and deterministic' (their statements: Qxb6602212aModsTotals.lean).
  GIVEN WITH THE SEED: the statements are not yours to turn. If you find one false, say at which input.
  Laid BY PROGRAM, IN A SANDBOX (cutbox-rows.mjs): the forced cells as the released guide's own fill.sh prints them over the translation 3f8218a4f3b19c63… (all of the seat's roots in one cut). By AI agents, Wed Nov 11 2026. No macro, syntax, notation, axiom, sorry.
-/
import Derived.Test.Qxb6602212aModsChecked
import GoSem.Claim
import GoSem.ClaimJoined
import GoSem.ClaimMapViews
import Derived.JoinedTies
import Derived.KernelRfl
namespace Go.Proofs.Qxb6602212aMods
/- THE CELL 'sum', in the pinned program and in every row, IS THE sha256 OF THE DUMP (.gsa) THAT Qxb6602212aModsProg.lean LOADS. Nothing in Lean hashes anything: it is a label: what it is worth is what the hold of that sum in a sandbox is worth. -/
noncomputable def Trym.pinned : Pinned := { name := "qxb6602212amods", sum := "3f8218a4f3b19c63c0b738026207b90873a06b644a22263b01a719126a68ed7b", checked := Trym.checked }
namespace Rows
def none {H : Type} : Left H := { results := [], args := [] }

/-- 'zzlaws_internal_register_b1.FnRowConditionConcat': WHATEVER THE INPUT: true; the input reads as it did. -/
def fnRowConditionConcatSpec : ChangeSpec := { name := "fnRowConditionConcat", fn := fun _ => fun
  | [d1, d2] => { results := [.lit (.bool true)], args := [d1, d2] }
  | _ => none }
def fnRowConditionConcatRow : OpenClaim := { program := "qxb6602212amods", sum := "3f8218a4f3b19c63c0b738026207b90873a06b644a22263b01a719126a68ed7b", func := "example.com/zhaomu/zhaomu/zzlaws_internal_register_b1.FnRowConditionConcat", spec := "fnRowConditionConcat", inPlace := ["internal/abi.NoEscape", "internal/bytealg.MakeNoZero"], make := .lifted ["publicsums"], apart := false }
def FnRowConditionConcatSaid : Prop := fnRowConditionConcatRow.holds Trym.pinned (OpenSpec.ofChange fnRowConditionConcatSpec)

/-- ITS FALSE NEIGHBOUR: 'it returns false'. Refute it at one input. -/
def fnRowConditionConcatWrong : ChangeSpec := { name := "fnRowConditionConcat", fn := fun _ => fun
  | [d1, d2] => { results := [.lit (.bool false)], args := [d1, d2] }
  | _ => none }
def FnRowConditionConcatWrongFalsely : Prop := fnRowConditionConcatRow.holds Trym.pinned (OpenSpec.ofChange fnRowConditionConcatWrong)

/-- 'zzlaws_internal_register_b1.FnHoldingsInjective': WHATEVER THE INPUT: true; the input reads as it did. -/
def fnHoldingsInjectiveSpec : ChangeSpec := { name := "fnHoldingsInjective", fn := fun _ => fun
  | [d1, d2] => { results := [.lit (.bool true)], args := [d1, d2] }
  | _ => none }
def fnHoldingsInjectiveRow : OpenClaim := { program := "qxb6602212amods", sum := "3f8218a4f3b19c63c0b738026207b90873a06b644a22263b01a719126a68ed7b", func := "example.com/zhaomu/zhaomu/zzlaws_internal_register_b1.FnHoldingsInjective", spec := "fnHoldingsInjective", make := .lifted ["publicsums"], apart := false }
def FnHoldingsInjectiveSaid : Prop := fnHoldingsInjectiveRow.holds Trym.pinned (OpenSpec.ofChange fnHoldingsInjectiveSpec)

/-- ITS FALSE NEIGHBOUR: 'it returns false'. Refute it at one input. -/
def fnHoldingsInjectiveWrong : ChangeSpec := { name := "fnHoldingsInjective", fn := fun _ => fun
  | [d1, d2] => { results := [.lit (.bool false)], args := [d1, d2] }
  | _ => none }
def FnHoldingsInjectiveWrongFalsely : Prop := fnHoldingsInjectiveRow.holds Trym.pinned (OpenSpec.ofChange fnHoldingsInjectiveWrong)

end Rows
end Go.Proofs.Qxb6602212aMods
