/-
  No cell of these rows narrows 'for every input' (looked for: loops, veiled, ifaces, maps, wideKeys, modest, calm, conditions, laid).
  DERIVED. THE GIVEN ROWS OF THIS SEAT. 2 by the template 'for every input the law returns true; each argument reads behind the call as it read before'; 0 by the template 'total and deterministic' (their statements: Qxb6605436aTotals.lean).
  GIVEN WITH THE SEED: the statements are not yours to turn. If you find one false, say at which input.
  Laid BY PROGRAM, IN A SANDBOX (cutbox-rows.mjs): the forced cells as the released guide's own fill.sh prints them over the translation 8746ce93d3d69e27… (all of the seat's roots in one cut). By AI agents, Wed Nov 11 2026. No macro, syntax, notation, axiom, sorry.
-/
import Derived.Test.Qxb6605436aChecked
import GoSem.Claim
import GoSem.ClaimJoined
import GoSem.ClaimMapViews
import Derived.JoinedTies
import Derived.KernelRfl
namespace Go.Proofs.Qxb6605436a
/- THE CELL 'sum', in the pinned program and in every row, IS THE sha256 OF THE DUMP (.gsa) THAT Qxb6605436aProg.lean LOADS. Nothing in Lean hashes anything: it is a label: what it is worth is what the hold of that sum in a sandbox is worth. -/
noncomputable def Try.pinned : Pinned := { name := "qxb6605436a", sum := "8746ce93d3d69e2749e8a994b97ff273b61e20edbcfc940e57641c37d2eace12", checked := Try.checked }
namespace Rows
def none {H : Type} : Left H := { results := [], args := [] }

/-- 'zzlaws_contract_b1.FnDigitValueMatchesAlphabet': WHATEVER THE INPUT: true; the input reads as it did. -/
def fnDigitValueMatchesAlphabetSpec : ChangeSpec := { name := "fnDigitValueMatchesAlphabet", fn := fun _ => fun
  | [d] => { results := [.lit (.bool true)], args := [d] }
  | _ => none }
def fnDigitValueMatchesAlphabetRow : OpenClaim := { program := "qxb6605436a", sum := "8746ce93d3d69e2749e8a994b97ff273b61e20edbcfc940e57641c37d2eace12", func := "example.com/wellform/wellform/zzlaws_contract_b1.FnDigitValueMatchesAlphabet", spec := "fnDigitValueMatchesAlphabet", apart := false }
def FnDigitValueMatchesAlphabetSaid : Prop := fnDigitValueMatchesAlphabetRow.holds Try.pinned (OpenSpec.ofChange fnDigitValueMatchesAlphabetSpec)

/-- ITS FALSE NEIGHBOUR: 'it returns false'. Refute it at one input. -/
def fnDigitValueMatchesAlphabetWrong : ChangeSpec := { name := "fnDigitValueMatchesAlphabet", fn := fun _ => fun
  | [d] => { results := [.lit (.bool false)], args := [d] }
  | _ => none }
def FnDigitValueMatchesAlphabetWrongFalsely : Prop := fnDigitValueMatchesAlphabetRow.holds Try.pinned (OpenSpec.ofChange fnDigitValueMatchesAlphabetWrong)

/-- 'zzlaws_contract_b1.FnUnderscoresBetweenDigitsMatchesPieces': WHATEVER THE INPUT: true; the input reads as it did. -/
def fnUnderscoresBetweenDigitsMatchesPiecesSpec : ChangeSpec := { name := "fnUnderscoresBetweenDigitsMatchesPieces", fn := fun _ => fun
  | [d] => { results := [.lit (.bool true)], args := [d] }
  | _ => none }
def fnUnderscoresBetweenDigitsMatchesPiecesRow : OpenClaim := { program := "qxb6605436a", sum := "8746ce93d3d69e2749e8a994b97ff273b61e20edbcfc940e57641c37d2eace12", func := "example.com/wellform/wellform/zzlaws_contract_b1.FnUnderscoresBetweenDigitsMatchesPieces", spec := "fnUnderscoresBetweenDigitsMatchesPieces", apart := false }
def FnUnderscoresBetweenDigitsMatchesPiecesSaid : Prop := fnUnderscoresBetweenDigitsMatchesPiecesRow.holds Try.pinned (OpenSpec.ofChange fnUnderscoresBetweenDigitsMatchesPiecesSpec)

/-- ITS FALSE NEIGHBOUR: 'it returns false'. Refute it at one input. -/
def fnUnderscoresBetweenDigitsMatchesPiecesWrong : ChangeSpec := { name := "fnUnderscoresBetweenDigitsMatchesPieces", fn := fun _ => fun
  | [d] => { results := [.lit (.bool false)], args := [d] }
  | _ => none }
def FnUnderscoresBetweenDigitsMatchesPiecesWrongFalsely : Prop := fnUnderscoresBetweenDigitsMatchesPiecesRow.holds Try.pinned (OpenSpec.ofChange fnUnderscoresBetweenDigitsMatchesPiecesWrong)

end Rows
end Go.Proofs.Qxb6605436a
