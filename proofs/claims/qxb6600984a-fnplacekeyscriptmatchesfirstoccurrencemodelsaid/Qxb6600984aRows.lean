/-
  No cell of these rows narrows 'for every input' (looked for: loops, veiled, ifaces, maps, wideKeys, modest, calm, conditions, laid).
  DERIVED. THE GIVEN ROWS OF THIS SEAT. 4 by the template 'for every input the law returns true; each argument reads behind the call as it read before'; 0 by the template 'total and deterministic' (their statements: Qxb6600984aTotals.lean).
  GIVEN WITH THE SEED: the statements are not yours to turn. If you find one false, say at which input.
  Laid BY PROGRAM, IN A SANDBOX (cutbox-rows.mjs): the forced cells as the released guide's own fill.sh prints them over the translation ecb8440212333cd1… (all of the seat's roots in one cut). By AI agents, Wed Nov 11 2026. No macro, syntax, notation, axiom, sorry.
-/
import Derived.Test.Qxb6600984aChecked
import GoSem.Claim
import GoSem.ClaimJoined
import GoSem.ClaimMapViews
import Derived.JoinedTies
import Derived.KernelRfl
namespace Go.Proofs.Qxb6600984a
/- THE CELL 'sum', in the pinned program and in every row, IS THE sha256 OF THE DUMP (.gsa) THAT Qxb6600984aProg.lean LOADS. Nothing in Lean hashes anything: it is a label: what it is worth is what the hold of that sum in a sandbox is worth. -/
noncomputable def Try.pinned : Pinned := { name := "qxb6600984a", sum := "ecb8440212333cd16cb24cb42ce74b5ebeae86f12fb480cd7946485f384950d7", checked := Try.checked }
namespace Rows
def none {H : Type} : Left H := { results := [], args := [] }

/-- 'zzlaws_input_b1.FnIsDigitsOfConcatenation': WHATEVER THE INPUT: true; the input reads as it did. -/
def fnIsDigitsOfConcatenationSpec : ChangeSpec := { name := "fnIsDigitsOfConcatenation", fn := fun _ => fun
  | [d1, d2] => { results := [.lit (.bool true)], args := [d1, d2] }
  | _ => none }
def fnIsDigitsOfConcatenationRow : OpenClaim := { program := "qxb6600984a", sum := "ecb8440212333cd16cb24cb42ce74b5ebeae86f12fb480cd7946485f384950d7", func := "example.com/vestwright/vestwright/zzlaws_input_b1.FnIsDigitsOfConcatenation", spec := "fnIsDigitsOfConcatenation", apart := false }
def FnIsDigitsOfConcatenationSaid : Prop := fnIsDigitsOfConcatenationRow.holds Try.pinned (OpenSpec.ofChange fnIsDigitsOfConcatenationSpec)

/-- ITS FALSE NEIGHBOUR: 'it returns false'. Refute it at one input. -/
def fnIsDigitsOfConcatenationWrong : ChangeSpec := { name := "fnIsDigitsOfConcatenation", fn := fun _ => fun
  | [d1, d2] => { results := [.lit (.bool false)], args := [d1, d2] }
  | _ => none }
def FnIsDigitsOfConcatenationWrongFalsely : Prop := fnIsDigitsOfConcatenationRow.holds Try.pinned (OpenSpec.ofChange fnIsDigitsOfConcatenationWrong)

/-- 'zzlaws_input_b1.FnIsDigitsAcceptsDecimalsRefusesDecorated': WHATEVER THE INPUT: true; the input reads as it did. -/
def fnIsDigitsAcceptsDecimalsRefusesDecoratedSpec : ChangeSpec := { name := "fnIsDigitsAcceptsDecimalsRefusesDecorated", fn := fun _ => fun
  | [d] => { results := [.lit (.bool true)], args := [d] }
  | _ => none }
def fnIsDigitsAcceptsDecimalsRefusesDecoratedRow : OpenClaim := { program := "qxb6600984a", sum := "ecb8440212333cd16cb24cb42ce74b5ebeae86f12fb480cd7946485f384950d7", func := "example.com/vestwright/vestwright/zzlaws_input_b1.FnIsDigitsAcceptsDecimalsRefusesDecorated", spec := "fnIsDigitsAcceptsDecimalsRefusesDecorated", apart := false }
def FnIsDigitsAcceptsDecimalsRefusesDecoratedSaid : Prop := fnIsDigitsAcceptsDecimalsRefusesDecoratedRow.holds Try.pinned (OpenSpec.ofChange fnIsDigitsAcceptsDecimalsRefusesDecoratedSpec)

/-- ITS FALSE NEIGHBOUR: 'it returns false'. Refute it at one input. -/
def fnIsDigitsAcceptsDecimalsRefusesDecoratedWrong : ChangeSpec := { name := "fnIsDigitsAcceptsDecimalsRefusesDecorated", fn := fun _ => fun
  | [d] => { results := [.lit (.bool false)], args := [d] }
  | _ => none }
def FnIsDigitsAcceptsDecimalsRefusesDecoratedWrongFalsely : Prop := fnIsDigitsAcceptsDecimalsRefusesDecoratedRow.holds Try.pinned (OpenSpec.ofChange fnIsDigitsAcceptsDecimalsRefusesDecoratedWrong)

/-- 'zzlaws_input_b1.FnPlaceKeyScriptMatchesFirstOccurrenceModel': WHATEVER THE INPUT: true; the input reads as it did. -/
def fnPlaceKeyScriptMatchesFirstOccurrenceModelSpec : ChangeSpec := { name := "fnPlaceKeyScriptMatchesFirstOccurrenceModel", fn := fun _ => fun
  | [d1, d2, d3] => { results := [.lit (.bool true)], args := [d1, d2, d3] }
  | _ => none }
def fnPlaceKeyScriptMatchesFirstOccurrenceModelRow : OpenClaim := { program := "qxb6600984a", sum := "ecb8440212333cd16cb24cb42ce74b5ebeae86f12fb480cd7946485f384950d7", func := "example.com/vestwright/vestwright/zzlaws_input_b1.FnPlaceKeyScriptMatchesFirstOccurrenceModel", spec := "fnPlaceKeyScriptMatchesFirstOccurrenceModel", apart := false }
def FnPlaceKeyScriptMatchesFirstOccurrenceModelSaid : Prop := fnPlaceKeyScriptMatchesFirstOccurrenceModelRow.holds Try.pinned (OpenSpec.ofChange fnPlaceKeyScriptMatchesFirstOccurrenceModelSpec)

/-- ITS FALSE NEIGHBOUR: 'it returns false'. Refute it at one input. -/
def fnPlaceKeyScriptMatchesFirstOccurrenceModelWrong : ChangeSpec := { name := "fnPlaceKeyScriptMatchesFirstOccurrenceModel", fn := fun _ => fun
  | [d1, d2, d3] => { results := [.lit (.bool false)], args := [d1, d2, d3] }
  | _ => none }
def FnPlaceKeyScriptMatchesFirstOccurrenceModelWrongFalsely : Prop := fnPlaceKeyScriptMatchesFirstOccurrenceModelRow.holds Try.pinned (OpenSpec.ofChange fnPlaceKeyScriptMatchesFirstOccurrenceModelWrong)

/-- 'zzlaws_input_b1.FnRowValueMatchesHeaderSearch': WHATEVER THE INPUT: true; the input reads as it did. -/
def fnRowValueMatchesHeaderSearchSpec : ChangeSpec := { name := "fnRowValueMatchesHeaderSearch", fn := fun _ => fun
  | [d1, d2, d3] => { results := [.lit (.bool true)], args := [d1, d2, d3] }
  | _ => none }
def fnRowValueMatchesHeaderSearchRow : OpenClaim := { program := "qxb6600984a", sum := "ecb8440212333cd16cb24cb42ce74b5ebeae86f12fb480cd7946485f384950d7", func := "example.com/vestwright/vestwright/zzlaws_input_b1.FnRowValueMatchesHeaderSearch", spec := "fnRowValueMatchesHeaderSearch", apart := false }
def FnRowValueMatchesHeaderSearchSaid : Prop := fnRowValueMatchesHeaderSearchRow.holds Try.pinned (OpenSpec.ofChange fnRowValueMatchesHeaderSearchSpec)

/-- ITS FALSE NEIGHBOUR: 'it returns false'. Refute it at one input. -/
def fnRowValueMatchesHeaderSearchWrong : ChangeSpec := { name := "fnRowValueMatchesHeaderSearch", fn := fun _ => fun
  | [d1, d2, d3] => { results := [.lit (.bool false)], args := [d1, d2, d3] }
  | _ => none }
def FnRowValueMatchesHeaderSearchWrongFalsely : Prop := fnRowValueMatchesHeaderSearchRow.holds Try.pinned (OpenSpec.ofChange fnRowValueMatchesHeaderSearchWrong)

end Rows
end Go.Proofs.Qxb6600984a
