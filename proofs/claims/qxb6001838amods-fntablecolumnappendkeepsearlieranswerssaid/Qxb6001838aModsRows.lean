/-
  No cell of these rows narrows 'for every input' (looked for: loops, veiled, ifaces, maps, wideKeys, modest, calm, conditions, laid).
  DERIVED. THE GIVEN ROWS OF THIS SEAT. 7 by the template 'for every input the law returns true; each argument reads behind the call as it read before'; 0 by the template 'total and deterministic' (their statements: Qxb6001838aModsTotals.lean).
  GIVEN WITH THE SEED: the statements are not yours to turn. If you find one false, say at which input.
  Laid BY PROGRAM, IN A SANDBOX (cutbox-rows.mjs): the forced cells as the released guide's own fill.sh prints them over the translation bb7985f159a7855a… (all of the seat's roots in one cut). By AI agents, Wed Nov 11 2026. No macro, syntax, notation, axiom, sorry.
-/
import Derived.Test.Qxb6001838aModsChecked
import GoSem.Claim
import GoSem.ClaimJoined
import GoSem.ClaimMapViews
import Derived.JoinedTies
import Derived.KernelRfl
namespace Go.Proofs.Qxb6001838aMods
/- THE CELL 'sum', in the pinned program and in every row, IS THE sha256 OF THE DUMP (.gsa) THAT Qxb6001838aModsProg.lean LOADS. Nothing in Lean hashes anything: it is a label: what it is worth is what the hold of that sum in a sandbox is worth. -/
noncomputable def Trym.pinned : Pinned := { name := "qxb6001838amods", sum := "bb7985f159a7855ae5d289322fc5a7194fe59d20b54a9526945748e286b29d9e", checked := Trym.checked }
namespace Rows
def none {H : Type} : Left H := { results := [], args := [] }

/-- 'zzlaws_sqldb_b1.FnMariadbRanksPagesOfJoinedListsIsOr': WHATEVER THE INPUT: true; the input reads as it did. -/
def fnMariadbRanksPagesOfJoinedListsIsOrSpec : ChangeSpec := { name := "fnMariadbRanksPagesOfJoinedListsIsOr", fn := fun _ => fun
  | [d1, d2] => { results := [.lit (.bool true)], args := [d1, d2] }
  | _ => none }
def fnMariadbRanksPagesOfJoinedListsIsOrRow : OpenClaim := { program := "qxb6001838amods", sum := "bb7985f159a7855ae5d289322fc5a7194fe59d20b54a9526945748e286b29d9e", func := "example.com/shapewire/shapewire/zzlaws_sqldb_b1.FnMariadbRanksPagesOfJoinedListsIsOr", spec := "fnMariadbRanksPagesOfJoinedListsIsOr", make := .lifted ["publicsums"], apart := false }
def FnMariadbRanksPagesOfJoinedListsIsOrSaid : Prop := fnMariadbRanksPagesOfJoinedListsIsOrRow.holds Trym.pinned (OpenSpec.ofChange fnMariadbRanksPagesOfJoinedListsIsOrSpec)

/-- ITS FALSE NEIGHBOUR: 'it returns false'. Refute it at one input. -/
def fnMariadbRanksPagesOfJoinedListsIsOrWrong : ChangeSpec := { name := "fnMariadbRanksPagesOfJoinedListsIsOr", fn := fun _ => fun
  | [d1, d2] => { results := [.lit (.bool false)], args := [d1, d2] }
  | _ => none }
def FnMariadbRanksPagesOfJoinedListsIsOrWrongFalsely : Prop := fnMariadbRanksPagesOfJoinedListsIsOrRow.holds Trym.pinned (OpenSpec.ofChange fnMariadbRanksPagesOfJoinedListsIsOrWrong)

/-- 'zzlaws_sqldb_b1.FnAllDigitsMatchesByteModel': WHATEVER THE INPUT: true; the input reads as it did. -/
def fnAllDigitsMatchesByteModelSpec : ChangeSpec := { name := "fnAllDigitsMatchesByteModel", fn := fun _ => fun
  | [d] => { results := [.lit (.bool true)], args := [d] }
  | _ => none }
def fnAllDigitsMatchesByteModelRow : OpenClaim := { program := "qxb6001838amods", sum := "bb7985f159a7855ae5d289322fc5a7194fe59d20b54a9526945748e286b29d9e", func := "example.com/shapewire/shapewire/zzlaws_sqldb_b1.FnAllDigitsMatchesByteModel", spec := "fnAllDigitsMatchesByteModel", make := .lifted ["publicsums"], apart := false }
def FnAllDigitsMatchesByteModelSaid : Prop := fnAllDigitsMatchesByteModelRow.holds Trym.pinned (OpenSpec.ofChange fnAllDigitsMatchesByteModelSpec)

/-- ITS FALSE NEIGHBOUR: 'it returns false'. Refute it at one input. -/
def fnAllDigitsMatchesByteModelWrong : ChangeSpec := { name := "fnAllDigitsMatchesByteModel", fn := fun _ => fun
  | [d] => { results := [.lit (.bool false)], args := [d] }
  | _ => none }
def FnAllDigitsMatchesByteModelWrongFalsely : Prop := fnAllDigitsMatchesByteModelRow.holds Trym.pinned (OpenSpec.ofChange fnAllDigitsMatchesByteModelWrong)

/-- 'zzlaws_sqldb_b1.FnAllDigitsOfConcatenation': WHATEVER THE INPUT: true; the input reads as it did. -/
def fnAllDigitsOfConcatenationSpec : ChangeSpec := { name := "fnAllDigitsOfConcatenation", fn := fun _ => fun
  | [d1, d2] => { results := [.lit (.bool true)], args := [d1, d2] }
  | _ => none }
def fnAllDigitsOfConcatenationRow : OpenClaim := { program := "qxb6001838amods", sum := "bb7985f159a7855ae5d289322fc5a7194fe59d20b54a9526945748e286b29d9e", func := "example.com/shapewire/shapewire/zzlaws_sqldb_b1.FnAllDigitsOfConcatenation", spec := "fnAllDigitsOfConcatenation", make := .lifted ["publicsums"], apart := false }
def FnAllDigitsOfConcatenationSaid : Prop := fnAllDigitsOfConcatenationRow.holds Trym.pinned (OpenSpec.ofChange fnAllDigitsOfConcatenationSpec)

/-- ITS FALSE NEIGHBOUR: 'it returns false'. Refute it at one input. -/
def fnAllDigitsOfConcatenationWrong : ChangeSpec := { name := "fnAllDigitsOfConcatenation", fn := fun _ => fun
  | [d1, d2] => { results := [.lit (.bool false)], args := [d1, d2] }
  | _ => none }
def FnAllDigitsOfConcatenationWrongFalsely : Prop := fnAllDigitsOfConcatenationRow.holds Trym.pinned (OpenSpec.ofChange fnAllDigitsOfConcatenationWrong)

/-- 'zzlaws_sqldb_b1.FnAllDigitsAcceptsDecimalRefusesSignAndPoint': WHATEVER THE INPUT: true; the input reads as it did. -/
def fnAllDigitsAcceptsDecimalRefusesSignAndPointSpec : ChangeSpec := { name := "fnAllDigitsAcceptsDecimalRefusesSignAndPoint", fn := fun _ => fun
  | [d] => { results := [.lit (.bool true)], args := [d] }
  | _ => none }
def fnAllDigitsAcceptsDecimalRefusesSignAndPointRow : OpenClaim := { program := "qxb6001838amods", sum := "bb7985f159a7855ae5d289322fc5a7194fe59d20b54a9526945748e286b29d9e", func := "example.com/shapewire/shapewire/zzlaws_sqldb_b1.FnAllDigitsAcceptsDecimalRefusesSignAndPoint", spec := "fnAllDigitsAcceptsDecimalRefusesSignAndPoint", make := .lifted ["publicsums"], apart := false }
def FnAllDigitsAcceptsDecimalRefusesSignAndPointSaid : Prop := fnAllDigitsAcceptsDecimalRefusesSignAndPointRow.holds Trym.pinned (OpenSpec.ofChange fnAllDigitsAcceptsDecimalRefusesSignAndPointSpec)

/-- ITS FALSE NEIGHBOUR: 'it returns false'. Refute it at one input. -/
def fnAllDigitsAcceptsDecimalRefusesSignAndPointWrong : ChangeSpec := { name := "fnAllDigitsAcceptsDecimalRefusesSignAndPoint", fn := fun _ => fun
  | [d] => { results := [.lit (.bool false)], args := [d] }
  | _ => none }
def FnAllDigitsAcceptsDecimalRefusesSignAndPointWrongFalsely : Prop := fnAllDigitsAcceptsDecimalRefusesSignAndPointRow.holds Trym.pinned (OpenSpec.ofChange fnAllDigitsAcceptsDecimalRefusesSignAndPointWrong)

/-- 'zzlaws_sqldb_b1.FnTableColumnFindsFirstOfEachName': WHATEVER THE INPUT: true; the input reads as it did. -/
def fnTableColumnFindsFirstOfEachNameSpec : ChangeSpec := { name := "fnTableColumnFindsFirstOfEachName", fn := fun _ => fun
  | [d] => { results := [.lit (.bool true)], args := [d] }
  | _ => none }
def fnTableColumnFindsFirstOfEachNameRow : OpenClaim := { program := "qxb6001838amods", sum := "bb7985f159a7855ae5d289322fc5a7194fe59d20b54a9526945748e286b29d9e", func := "example.com/shapewire/shapewire/zzlaws_sqldb_b1.FnTableColumnFindsFirstOfEachName", spec := "fnTableColumnFindsFirstOfEachName", make := .lifted ["publicsums"], apart := false }
def FnTableColumnFindsFirstOfEachNameSaid : Prop := fnTableColumnFindsFirstOfEachNameRow.holds Trym.pinned (OpenSpec.ofChange fnTableColumnFindsFirstOfEachNameSpec)

/-- ITS FALSE NEIGHBOUR: 'it returns false'. Refute it at one input. -/
def fnTableColumnFindsFirstOfEachNameWrong : ChangeSpec := { name := "fnTableColumnFindsFirstOfEachName", fn := fun _ => fun
  | [d] => { results := [.lit (.bool false)], args := [d] }
  | _ => none }
def FnTableColumnFindsFirstOfEachNameWrongFalsely : Prop := fnTableColumnFindsFirstOfEachNameRow.holds Trym.pinned (OpenSpec.ofChange fnTableColumnFindsFirstOfEachNameWrong)

/-- 'zzlaws_sqldb_b1.FnTableColumnNilExactlyWhenAbsent': WHATEVER THE INPUT: true; the input reads as it did. -/
def fnTableColumnNilExactlyWhenAbsentSpec : ChangeSpec := { name := "fnTableColumnNilExactlyWhenAbsent", fn := fun _ => fun
  | [d1, d2] => { results := [.lit (.bool true)], args := [d1, d2] }
  | _ => none }
def fnTableColumnNilExactlyWhenAbsentRow : OpenClaim := { program := "qxb6001838amods", sum := "bb7985f159a7855ae5d289322fc5a7194fe59d20b54a9526945748e286b29d9e", func := "example.com/shapewire/shapewire/zzlaws_sqldb_b1.FnTableColumnNilExactlyWhenAbsent", spec := "fnTableColumnNilExactlyWhenAbsent", make := .lifted ["publicsums"], apart := false }
def FnTableColumnNilExactlyWhenAbsentSaid : Prop := fnTableColumnNilExactlyWhenAbsentRow.holds Trym.pinned (OpenSpec.ofChange fnTableColumnNilExactlyWhenAbsentSpec)

/-- ITS FALSE NEIGHBOUR: 'it returns false'. Refute it at one input. -/
def fnTableColumnNilExactlyWhenAbsentWrong : ChangeSpec := { name := "fnTableColumnNilExactlyWhenAbsent", fn := fun _ => fun
  | [d1, d2] => { results := [.lit (.bool false)], args := [d1, d2] }
  | _ => none }
def FnTableColumnNilExactlyWhenAbsentWrongFalsely : Prop := fnTableColumnNilExactlyWhenAbsentRow.holds Trym.pinned (OpenSpec.ofChange fnTableColumnNilExactlyWhenAbsentWrong)

/-- 'zzlaws_sqldb_b1.FnTableColumnAppendKeepsEarlierAnswers': WHATEVER THE INPUT: true; the input reads as it did. -/
def fnTableColumnAppendKeepsEarlierAnswersSpec : ChangeSpec := { name := "fnTableColumnAppendKeepsEarlierAnswers", fn := fun _ => fun
  | [d1, d2, d3] => { results := [.lit (.bool true)], args := [d1, d2, d3] }
  | _ => none }
def fnTableColumnAppendKeepsEarlierAnswersRow : OpenClaim := { program := "qxb6001838amods", sum := "bb7985f159a7855ae5d289322fc5a7194fe59d20b54a9526945748e286b29d9e", func := "example.com/shapewire/shapewire/zzlaws_sqldb_b1.FnTableColumnAppendKeepsEarlierAnswers", spec := "fnTableColumnAppendKeepsEarlierAnswers", make := .lifted ["publicsums"], apart := false }
def FnTableColumnAppendKeepsEarlierAnswersSaid : Prop := fnTableColumnAppendKeepsEarlierAnswersRow.holds Trym.pinned (OpenSpec.ofChange fnTableColumnAppendKeepsEarlierAnswersSpec)

/-- ITS FALSE NEIGHBOUR: 'it returns false'. Refute it at one input. -/
def fnTableColumnAppendKeepsEarlierAnswersWrong : ChangeSpec := { name := "fnTableColumnAppendKeepsEarlierAnswers", fn := fun _ => fun
  | [d1, d2, d3] => { results := [.lit (.bool false)], args := [d1, d2, d3] }
  | _ => none }
def FnTableColumnAppendKeepsEarlierAnswersWrongFalsely : Prop := fnTableColumnAppendKeepsEarlierAnswersRow.holds Trym.pinned (OpenSpec.ofChange fnTableColumnAppendKeepsEarlierAnswersWrong)

end Rows
end Go.Proofs.Qxb6001838aMods
