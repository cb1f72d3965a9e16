/-
  No cell of these rows narrows 'for every input' (looked for: loops, veiled, ifaces, maps, wideKeys, modest, calm, conditions, laid).
  DERIVED. THE GIVEN ROWS OF THIS SEAT. 4 by the template 'for every input the law returns true; each argument reads behind the call as it read before'; 0 by the template 'total and deterministic' (their statements: Qxb6602661aModsTotals.lean).
  GIVEN WITH THE SEED: the statements are not yours to turn. If you find one false, say at which input.
  Laid BY PROGRAM, IN A SANDBOX (cutbox-rows.mjs): the forced cells as the released guide's own fill.sh prints them over the translation 3000dc14f643e49b… (all of the seat's roots in one cut). By AI agents, Wed Nov 11 2026. No macro, syntax, notation, axiom, sorry.
-/
import Derived.Test.Qxb6602661aModsChecked
import GoSem.Claim
import GoSem.ClaimJoined
import GoSem.ClaimMapViews
import Derived.JoinedTies
import Derived.KernelRfl
namespace Go.Proofs.Qxb6602661aMods
/- THE CELL 'sum', in the pinned program and in every row, IS THE sha256 OF THE DUMP (.gsa) THAT Qxb6602661aModsProg.lean LOADS. Nothing in Lean hashes anything: it is a label: what it is worth is what the hold of that sum in a sandbox is worth. -/
noncomputable def Trym.pinned : Pinned := { name := "qxb6602661amods", sum := "3000dc14f643e49ba77c62a05b2c12a89aaa5f25a160b5db73257a03275fea71", checked := Trym.checked }
namespace Rows
def none {H : Type} : Left H := { results := [], args := [] }

/-- 'zzlaws_keys_b1.FnTrimLineEndUndoesAddedLineEnd': WHATEVER THE INPUT: true; the input reads as it did. -/
def fnTrimLineEndUndoesAddedLineEndSpec : ChangeSpec := { name := "fnTrimLineEndUndoesAddedLineEnd", fn := fun _ => fun
  | [d] => { results := [.lit (.bool true)], args := [d] }
  | _ => none }
def fnTrimLineEndUndoesAddedLineEndRow : OpenClaim := { program := "qxb6602661amods", sum := "3000dc14f643e49ba77c62a05b2c12a89aaa5f25a160b5db73257a03275fea71", func := "example.com/kunci/kunci/zzlaws_keys_b1.FnTrimLineEndUndoesAddedLineEnd", spec := "fnTrimLineEndUndoesAddedLineEnd", make := .lifted ["publicsums"], apart := false }
def FnTrimLineEndUndoesAddedLineEndSaid : Prop := fnTrimLineEndUndoesAddedLineEndRow.holds Trym.pinned (OpenSpec.ofChange fnTrimLineEndUndoesAddedLineEndSpec)

/-- ITS FALSE NEIGHBOUR: 'it returns false'. Refute it at one input. -/
def fnTrimLineEndUndoesAddedLineEndWrong : ChangeSpec := { name := "fnTrimLineEndUndoesAddedLineEnd", fn := fun _ => fun
  | [d] => { results := [.lit (.bool false)], args := [d] }
  | _ => none }
def FnTrimLineEndUndoesAddedLineEndWrongFalsely : Prop := fnTrimLineEndUndoesAddedLineEndRow.holds Trym.pinned (OpenSpec.ofChange fnTrimLineEndUndoesAddedLineEndWrong)

/-- 'zzlaws_keys_b1.FnChecksumSharesMatchCRC16OfOneCharacter': WHATEVER THE INPUT: true; the input reads as it did. -/
def fnChecksumSharesMatchCRC16OfOneCharacterSpec : ChangeSpec := { name := "fnChecksumSharesMatchCRC16OfOneCharacter", fn := fun _ => fun
  | [] => { results := [.lit (.bool true)], args := [] }
  | _ => none }
def fnChecksumSharesMatchCRC16OfOneCharacterRow : OpenClaim := { program := "qxb6602661amods", sum := "3000dc14f643e49ba77c62a05b2c12a89aaa5f25a160b5db73257a03275fea71", func := "example.com/kunci/kunci/zzlaws_keys_b1.FnChecksumSharesMatchCRC16OfOneCharacter", spec := "fnChecksumSharesMatchCRC16OfOneCharacter", make := .lifted ["publicsums"], apart := false }
def FnChecksumSharesMatchCRC16OfOneCharacterSaid : Prop := fnChecksumSharesMatchCRC16OfOneCharacterRow.holds Trym.pinned (OpenSpec.ofChange fnChecksumSharesMatchCRC16OfOneCharacterSpec)

/-- ITS FALSE NEIGHBOUR: 'it returns false'. Refute it at one input. -/
def fnChecksumSharesMatchCRC16OfOneCharacterWrong : ChangeSpec := { name := "fnChecksumSharesMatchCRC16OfOneCharacter", fn := fun _ => fun
  | [] => { results := [.lit (.bool false)], args := [] }
  | _ => none }
def FnChecksumSharesMatchCRC16OfOneCharacterWrongFalsely : Prop := fnChecksumSharesMatchCRC16OfOneCharacterRow.holds Trym.pinned (OpenSpec.ofChange fnChecksumSharesMatchCRC16OfOneCharacterWrong)

/-- 'zzlaws_keys_b1.FnChecksumSharesSumToZeroOnValidText': WHATEVER THE INPUT: true; the input reads as it did. -/
def fnChecksumSharesSumToZeroOnValidTextSpec : ChangeSpec := { name := "fnChecksumSharesSumToZeroOnValidText", fn := fun _ => fun
  | [d] => { results := [.lit (.bool true)], args := [d] }
  | _ => none }
def fnChecksumSharesSumToZeroOnValidTextRow : OpenClaim := { program := "qxb6602661amods", sum := "3000dc14f643e49ba77c62a05b2c12a89aaa5f25a160b5db73257a03275fea71", func := "example.com/kunci/kunci/zzlaws_keys_b1.FnChecksumSharesSumToZeroOnValidText", spec := "fnChecksumSharesSumToZeroOnValidText", make := .lifted ["publicsums"], apart := false }
def FnChecksumSharesSumToZeroOnValidTextSaid : Prop := fnChecksumSharesSumToZeroOnValidTextRow.holds Trym.pinned (OpenSpec.ofChange fnChecksumSharesSumToZeroOnValidTextSpec)

/-- ITS FALSE NEIGHBOUR: 'it returns false'. Refute it at one input. -/
def fnChecksumSharesSumToZeroOnValidTextWrong : ChangeSpec := { name := "fnChecksumSharesSumToZeroOnValidText", fn := fun _ => fun
  | [d] => { results := [.lit (.bool false)], args := [d] }
  | _ => none }
def FnChecksumSharesSumToZeroOnValidTextWrongFalsely : Prop := fnChecksumSharesSumToZeroOnValidTextRow.holds Trym.pinned (OpenSpec.ofChange fnChecksumSharesSumToZeroOnValidTextWrong)

/-- 'zzlaws_keys_b1.FnChecksumSharesCatchEveryOneCharacterChange': WHATEVER THE INPUT: true; the input reads as it did. -/
def fnChecksumSharesCatchEveryOneCharacterChangeSpec : ChangeSpec := { name := "fnChecksumSharesCatchEveryOneCharacterChange", fn := fun _ => fun
  | [] => { results := [.lit (.bool true)], args := [] }
  | _ => none }
def fnChecksumSharesCatchEveryOneCharacterChangeRow : OpenClaim := { program := "qxb6602661amods", sum := "3000dc14f643e49ba77c62a05b2c12a89aaa5f25a160b5db73257a03275fea71", func := "example.com/kunci/kunci/zzlaws_keys_b1.FnChecksumSharesCatchEveryOneCharacterChange", spec := "fnChecksumSharesCatchEveryOneCharacterChange", make := .lifted ["publicsums"], apart := false }
def FnChecksumSharesCatchEveryOneCharacterChangeSaid : Prop := fnChecksumSharesCatchEveryOneCharacterChangeRow.holds Trym.pinned (OpenSpec.ofChange fnChecksumSharesCatchEveryOneCharacterChangeSpec)

/-- ITS FALSE NEIGHBOUR: 'it returns false'. Refute it at one input. -/
def fnChecksumSharesCatchEveryOneCharacterChangeWrong : ChangeSpec := { name := "fnChecksumSharesCatchEveryOneCharacterChange", fn := fun _ => fun
  | [] => { results := [.lit (.bool false)], args := [] }
  | _ => none }
def FnChecksumSharesCatchEveryOneCharacterChangeWrongFalsely : Prop := fnChecksumSharesCatchEveryOneCharacterChangeRow.holds Trym.pinned (OpenSpec.ofChange fnChecksumSharesCatchEveryOneCharacterChangeWrong)

end Rows
end Go.Proofs.Qxb6602661aMods
