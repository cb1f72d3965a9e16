/-
  No cell of these rows narrows 'for every input' (looked for: loops, veiled, ifaces, maps, wideKeys, modest, calm, conditions, laid).
  DERIVED. THE GIVEN ROWS OF THIS SEAT. 4 by the template 'for every input the law returns true; each argument reads behind the call as it read before'; 0 by the template 'total and deterministic' (their statements: Qxb6603062aModsTotals.lean).
  GIVEN WITH THE SEED: the statements are not yours to turn. If you find one false, say at which input.
  Laid BY PROGRAM, IN A SANDBOX (cutbox-rows.mjs): the forced cells as the released guide's own fill.sh prints them over the translation 4be4eefb26d7f694… (all of the seat's roots in one cut). By AI agents, Wed Nov 11 2026. No macro, syntax, notation, axiom, sorry.
-/
import Derived.Test.Qxb6603062aModsChecked
import GoSem.Claim
import GoSem.ClaimJoined
import GoSem.ClaimMapViews
import Derived.JoinedTies
import Derived.KernelRfl
namespace Go.Proofs.Qxb6603062aMods
/- THE CELL 'sum', in the pinned program and in every row, IS THE sha256 OF THE DUMP (.gsa) THAT Qxb6603062aModsProg.lean LOADS. Nothing in Lean hashes anything: it is a label: what it is worth is what the hold of that sum in a sandbox is worth. -/
noncomputable def Trym.pinned : Pinned := { name := "qxb6603062amods", sum := "4be4eefb26d7f694f86c2b7f67e8515c95790317c121e45eb42317cab824c8d8", checked := Trym.checked }
namespace Rows
def none {H : Type} : Left H := { results := [], args := [] }

/-- 'zzlaws_pkg_store_b1.FnNamesSplitsOverConcatenation': WHATEVER THE INPUT: true; the input reads as it did. -/
def fnNamesSplitsOverConcatenationSpec : ChangeSpec := { name := "fnNamesSplitsOverConcatenation", fn := fun _ => fun
  | [d1, d2] => { results := [.lit (.bool true)], args := [d1, d2] }
  | _ => none }
def fnNamesSplitsOverConcatenationRow : OpenClaim := { program := "qxb6603062amods", sum := "4be4eefb26d7f694f86c2b7f67e8515c95790317c121e45eb42317cab824c8d8", func := "example.com/cents-per-token/cents-per-token/zzlaws_pkg_store_b1.FnNamesSplitsOverConcatenation", spec := "fnNamesSplitsOverConcatenation", make := .lifted ["publicsums"], apart := false }
def FnNamesSplitsOverConcatenationSaid : Prop := fnNamesSplitsOverConcatenationRow.holds Trym.pinned (OpenSpec.ofChange fnNamesSplitsOverConcatenationSpec)

/-- ITS FALSE NEIGHBOUR: 'it returns false'. Refute it at one input. -/
def fnNamesSplitsOverConcatenationWrong : ChangeSpec := { name := "fnNamesSplitsOverConcatenation", fn := fun _ => fun
  | [d1, d2] => { results := [.lit (.bool false)], args := [d1, d2] }
  | _ => none }
def FnNamesSplitsOverConcatenationWrongFalsely : Prop := fnNamesSplitsOverConcatenationRow.holds Trym.pinned (OpenSpec.ofChange fnNamesSplitsOverConcatenationWrong)

/-- 'zzlaws_pkg_store_b1.FnNamesResultIsFresh': WHATEVER THE INPUT: true; the input reads as it did. -/
def fnNamesResultIsFreshSpec : ChangeSpec := { name := "fnNamesResultIsFresh", fn := fun _ => fun
  | [d] => { results := [.lit (.bool true)], args := [d] }
  | _ => none }
def fnNamesResultIsFreshRow : OpenClaim := { program := "qxb6603062amods", sum := "4be4eefb26d7f694f86c2b7f67e8515c95790317c121e45eb42317cab824c8d8", func := "example.com/cents-per-token/cents-per-token/zzlaws_pkg_store_b1.FnNamesResultIsFresh", spec := "fnNamesResultIsFresh", make := .lifted ["publicsums"], apart := false }
def FnNamesResultIsFreshSaid : Prop := fnNamesResultIsFreshRow.holds Trym.pinned (OpenSpec.ofChange fnNamesResultIsFreshSpec)

/-- ITS FALSE NEIGHBOUR: 'it returns false'. Refute it at one input. -/
def fnNamesResultIsFreshWrong : ChangeSpec := { name := "fnNamesResultIsFresh", fn := fun _ => fun
  | [d] => { results := [.lit (.bool false)], args := [d] }
  | _ => none }
def FnNamesResultIsFreshWrongFalsely : Prop := fnNamesResultIsFreshRow.holds Trym.pinned (OpenSpec.ofChange fnNamesResultIsFreshWrong)

/-- 'zzlaws_pkg_store_b1.FnChargesPaidByFillsOneHole': WHATEVER THE INPUT: true; the input reads as it did. -/
def fnChargesPaidByFillsOneHoleSpec : ChangeSpec := { name := "fnChargesPaidByFillsOneHole", fn := fun _ => fun
  | [d] => { results := [.lit (.bool true)], args := [d] }
  | _ => none }
def fnChargesPaidByFillsOneHoleRow : OpenClaim := { program := "qxb6603062amods", sum := "4be4eefb26d7f694f86c2b7f67e8515c95790317c121e45eb42317cab824c8d8", func := "example.com/cents-per-token/cents-per-token/zzlaws_pkg_store_b1.FnChargesPaidByFillsOneHole", spec := "fnChargesPaidByFillsOneHole", make := .lifted ["publicsums"], apart := false }
def FnChargesPaidByFillsOneHoleSaid : Prop := fnChargesPaidByFillsOneHoleRow.holds Trym.pinned (OpenSpec.ofChange fnChargesPaidByFillsOneHoleSpec)

/-- ITS FALSE NEIGHBOUR: 'it returns false'. Refute it at one input. -/
def fnChargesPaidByFillsOneHoleWrong : ChangeSpec := { name := "fnChargesPaidByFillsOneHole", fn := fun _ => fun
  | [d] => { results := [.lit (.bool false)], args := [d] }
  | _ => none }
def FnChargesPaidByFillsOneHoleWrongFalsely : Prop := fnChargesPaidByFillsOneHoleRow.holds Trym.pinned (OpenSpec.ofChange fnChargesPaidByFillsOneHoleWrong)

/-- 'zzlaws_pkg_store_b1.FnChargesPaidByQuotesStatusAndPayerAlone': WHATEVER THE INPUT: true; the input reads as it did. -/
def fnChargesPaidByQuotesStatusAndPayerAloneSpec : ChangeSpec := { name := "fnChargesPaidByQuotesStatusAndPayerAlone", fn := fun _ => fun
  | [d] => { results := [.lit (.bool true)], args := [d] }
  | _ => none }
def fnChargesPaidByQuotesStatusAndPayerAloneRow : OpenClaim := { program := "qxb6603062amods", sum := "4be4eefb26d7f694f86c2b7f67e8515c95790317c121e45eb42317cab824c8d8", func := "example.com/cents-per-token/cents-per-token/zzlaws_pkg_store_b1.FnChargesPaidByQuotesStatusAndPayerAlone", spec := "fnChargesPaidByQuotesStatusAndPayerAlone", make := .lifted ["publicsums"], apart := false }
def FnChargesPaidByQuotesStatusAndPayerAloneSaid : Prop := fnChargesPaidByQuotesStatusAndPayerAloneRow.holds Trym.pinned (OpenSpec.ofChange fnChargesPaidByQuotesStatusAndPayerAloneSpec)

/-- ITS FALSE NEIGHBOUR: 'it returns false'. Refute it at one input. -/
def fnChargesPaidByQuotesStatusAndPayerAloneWrong : ChangeSpec := { name := "fnChargesPaidByQuotesStatusAndPayerAlone", fn := fun _ => fun
  | [d] => { results := [.lit (.bool false)], args := [d] }
  | _ => none }
def FnChargesPaidByQuotesStatusAndPayerAloneWrongFalsely : Prop := fnChargesPaidByQuotesStatusAndPayerAloneRow.holds Trym.pinned (OpenSpec.ofChange fnChargesPaidByQuotesStatusAndPayerAloneWrong)

end Rows
end Go.Proofs.Qxb6603062aMods
