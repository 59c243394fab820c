import Derived.Test.Qxb6605182aRows
import Derived.WalkKit
import Derived.WalkSpells
import Derived.WalkLawsBesides
namespace Go.Proofs.Qxb6605182a
open Go.RowKit

/-- The joined path. -/
def jp (a b : ByteArray) : ByteArray := if b.toList.isEmpty then a else if a.toList.isEmpty then b else a ++ ⟨#[46]⟩ ++ b

theorem join9 (a b : ByteArray) (w : World) (ha : a.size ≤ 4000000) (hb : b.size ≤ 4000000) :
    Calls Try.prog 9 #[.string a, .string b] w fun e w' => e = .returned (.string (jp a b)) ∧ w' = w := by
  cases h1 : b.toList.isEmpty with
  | true =>
    go_enter Try.func9, Try.ntmps9
    go_wp2
    go_ret
    exact ⟨by simp [jp, h1], rfl⟩
  | false =>
    cases h2 : a.toList.isEmpty with
    | true =>
      go_enter Try.func9, Try.ntmps9
      go_wp2
      go_ret
      exact ⟨by simp [jp, h1, h2], rfl⟩
    | false =>
      go_enter Try.func9, Try.ntmps9
      go_wp2
      go_ret
      exact ⟨by simp [jp, h1, h2], rfl⟩

theorem join6 (a b : ByteArray) (w : World) (ha : a.size ≤ 4000000) (hb : b.size ≤ 4000000) :
    Calls Try.prog 6 #[.string a, .string b] w fun e w' => e = .returned (.string (jp a b)) ∧ w' = w := by
  go_enter Try.func6, Try.ntmps6
  go_wp2_with fail
  refine (join9 a b w ha hb).mono ?_
  rintro e w' ⟨rfl, rfl⟩
  go_wp2
  go_ret
  exact ⟨rfl, rfl⟩

end Go.Proofs.Qxb6605182a
