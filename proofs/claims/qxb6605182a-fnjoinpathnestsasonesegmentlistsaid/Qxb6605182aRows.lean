/-
  No cell of these rows narrows 'for every input' (looked for: loops, veiled, ifaces, maps, wideKeys, modest, calm, conditions, laid).
  DERIVED. THE GIVEN ROWS OF THIS SEAT. 2 by the template 'for every input the law returns true; each argument reads behind the call as it read before'; 0 by the template 'total and deterministic' (their statements: Qxb6605182aTotals.lean).
  GIVEN WITH THE SEED: the statements are not yours to turn. If you find one false, say at which input.
  Laid BY PROGRAM, IN A SANDBOX (cutbox-rows.mjs): the forced cells as the released guide's own fill.sh prints them over the translation 9686bac045854960… (all of the seat's roots in one cut). By AI agents, Wed Nov 11 2026. No macro, syntax, notation, axiom, sorry.
-/
import Derived.Test.Qxb6605182aChecked
import GoSem.Claim
import GoSem.ClaimJoined
import GoSem.ClaimMapViews
import Derived.JoinedTies
import Derived.KernelRfl
namespace Go.Proofs.Qxb6605182a
/- THE CELL 'sum', in the pinned program and in every row, IS THE sha256 OF THE DUMP (.gsa) THAT Qxb6605182aProg.lean LOADS. Nothing in Lean hashes anything: it is a label: what it is worth is what the hold of that sum in a sandbox is worth. -/
noncomputable def Try.pinned : Pinned := { name := "qxb6605182a", sum := "9686bac0458549605a7e0bd35606b1d9d5619a4deffcf8fc7a7c47526d4c1edf", checked := Try.checked }
namespace Rows
def none {H : Type} : Left H := { results := [], args := [] }

/-- 'zzlaws_validate_b1.FnJoinPathLaysOutPrefixDotPath': WHATEVER THE INPUT: true; the input reads as it did. -/
def fnJoinPathLaysOutPrefixDotPathSpec : ChangeSpec := { name := "fnJoinPathLaysOutPrefixDotPath", fn := fun _ => fun
  | [d1, d2] => { results := [.lit (.bool true)], args := [d1, d2] }
  | _ => none }
def fnJoinPathLaysOutPrefixDotPathRow : OpenClaim := { program := "qxb6605182a", sum := "9686bac0458549605a7e0bd35606b1d9d5619a4deffcf8fc7a7c47526d4c1edf", func := "example.com/righthand/righthand/zzlaws_validate_b1.FnJoinPathLaysOutPrefixDotPath", spec := "fnJoinPathLaysOutPrefixDotPath", apart := false }
def FnJoinPathLaysOutPrefixDotPathSaid : Prop := fnJoinPathLaysOutPrefixDotPathRow.holds Try.pinned (OpenSpec.ofChange fnJoinPathLaysOutPrefixDotPathSpec)

/-- ITS FALSE NEIGHBOUR: 'it returns false'. Refute it at one input. -/
def fnJoinPathLaysOutPrefixDotPathWrong : ChangeSpec := { name := "fnJoinPathLaysOutPrefixDotPath", fn := fun _ => fun
  | [d1, d2] => { results := [.lit (.bool false)], args := [d1, d2] }
  | _ => none }
def FnJoinPathLaysOutPrefixDotPathWrongFalsely : Prop := fnJoinPathLaysOutPrefixDotPathRow.holds Try.pinned (OpenSpec.ofChange fnJoinPathLaysOutPrefixDotPathWrong)

/-- 'zzlaws_validate_b1.FnJoinPathNestsAsOneSegmentList': WHATEVER THE INPUT: true; the input reads as it did. -/
def fnJoinPathNestsAsOneSegmentListSpec : ChangeSpec := { name := "fnJoinPathNestsAsOneSegmentList", fn := fun _ => fun
  | [d1, d2, d3] => { results := [.lit (.bool true)], args := [d1, d2, d3] }
  | _ => none }
def fnJoinPathNestsAsOneSegmentListRow : OpenClaim := { program := "qxb6605182a", sum := "9686bac0458549605a7e0bd35606b1d9d5619a4deffcf8fc7a7c47526d4c1edf", func := "example.com/righthand/righthand/zzlaws_validate_b1.FnJoinPathNestsAsOneSegmentList", spec := "fnJoinPathNestsAsOneSegmentList", apart := false }
def FnJoinPathNestsAsOneSegmentListSaid : Prop := fnJoinPathNestsAsOneSegmentListRow.holds Try.pinned (OpenSpec.ofChange fnJoinPathNestsAsOneSegmentListSpec)

/-- ITS FALSE NEIGHBOUR: 'it returns false'. Refute it at one input. -/
def fnJoinPathNestsAsOneSegmentListWrong : ChangeSpec := { name := "fnJoinPathNestsAsOneSegmentList", fn := fun _ => fun
  | [d1, d2, d3] => { results := [.lit (.bool false)], args := [d1, d2, d3] }
  | _ => none }
def FnJoinPathNestsAsOneSegmentListWrongFalsely : Prop := fnJoinPathNestsAsOneSegmentListRow.holds Try.pinned (OpenSpec.ofChange fnJoinPathNestsAsOneSegmentListWrong)

end Rows
end Go.Proofs.Qxb6605182a
