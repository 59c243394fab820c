import Derived.Test.Qxb6605258aRows
import Derived.WalkKit
import Derived.WalkSpells
import Derived.WalkLawsBesides
namespace Go.Proofs.Qxb6605258a
open Go.RowKit

/-- All bytes of the list are decimal digits. -/
def digB (l : List UInt8) : Bool := l.all fun c => decide (48 ≤ (c.toNat : Int) ∧ (c.toNat : Int) ≤ 57)

theorem take_snoc (s : ByteArray) (k : Nat) (h : k < s.size) : s.data.toList.take (k + 1) = s.data.toList.take k ++ [s[k]] := by
  rw [List.take_succ_eq_append_getElem (by simpa using h)]; rfl
theorem digB_snoc (s : ByteArray) (k : Nat) (h : k < s.size) (hd : digB (s.data.toList.take k) = true) (h1 : 48 ≤ (s[k].toNat : Int)) (h2 : (s[k].toNat : Int) ≤ 57) :
    digB (s.data.toList.take (k + 1)) = true := by
  rw [take_snoc s k h]; unfold digB at *; rw [List.all_append, hd]; simp; omega
theorem digB_no (s : ByteArray) (k : Nat) (h : k < s.size) (h1 : (s[k].toNat : Int) < 48 ∨ 57 < (s[k].toNat : Int)) : digB s.data.toList = false := by
  unfold digB
  rw [List.all_eq_false]
  refine ⟨s[k], ?_, by simp; omega⟩
  have := List.getElem_mem (l := s.data.toList) (n := k) (by simpa using h)
  exact this
theorem ret_bool {a b : Bool} (h : a = b) : Ending.returned (.bool a) = .returned (.bool b) := by rw [h]

set_option maxHeartbeats 400000 in
theorem isDigits_any (s : ByteArray) (w : World) (hs : s.size ≤ maxLen) :
    Calls Try.prog 27 #[.string s] w fun e w' => e = .returned (.bool (digB s.data.toList)) ∧ w' = w := by
  unfold maxLen at hs
  go_enter Try.func27, Try.ntmps27
  go_wp2
  go_loop [6] (fun i => ∃ k : Nat, k ≤ s.size ∧ i = .int .i64 k ∧ digB (s.data.toList.take k) = true) (fun i => s.size - (intOf i).toNat)
  case atStart => exact ⟨0, Nat.zero_le _, rfl, rfl⟩
  case round =>
    obtain ⟨k, hk, rfl, hd⟩ := hrel
    have HD : Hid (digB (s.data.toList.take k) = true) := hd
    clear hd
    by_cases hlt : k < s.size
    · by_cases h1 : (s[k].toNat : Int) < 48
      · go_wp2
        go_ret
        exact ⟨ret_bool (by rw [digB_no s k hlt (Or.inl h1)]), rfl⟩
      · by_cases h2 : 57 < (s[k].toNat : Int)
        · go_wp2
          go_ret
          exact ⟨ret_bool (by rw [digB_no s k hlt (Or.inr h2)]), rfl⟩
        · go_wp2
          go_round
          case rel => exact ⟨k + 1, by omega, by go_num, digB_snoc s k hlt HD.out (by omega) (by omega)⟩
          case measure => simp [intOf]; omega
    · go_wp2
      go_ret
      refine ⟨ret_bool ?_, rfl⟩
      have e : s.data.toList.take k = s.data.toList := List.take_of_length_le (by simp; omega)
      have := HD.out
      rw [e] at this
      exact this.symm

theorem dig_yes (s : ByteArray) (w : World) (hs : s.size ≤ maxLen) (hd : digB s.data.toList = true) : Calls Try.prog 27 #[.string s] w fun e w' => e = .returned (.bool true) ∧ w' = w := by
  have := isDigits_any s w hs
  rw [hd] at this; exact this
theorem dig_no (s : ByteArray) (w : World) (hs : s.size ≤ maxLen) (hd : digB s.data.toList = false) : Calls Try.prog 27 #[.string s] w fun e w' => e = .returned (.bool false) ∧ w' = w := by
  have := isDigits_any s w hs
  rw [hd] at this; exact this
end Go.Proofs.Qxb6605258a
