import Derived.Test.Qxb6600984aRows
import Derived.WalkKit
import Derived.WalkSpells
import Derived.WalkLawsBesides
namespace Go.Proofs.Qxb6600984a
open Go.RowKit

/-- All bytes of the list are decimal digits. -/
def digB (l : List UInt8) : Bool := l.all fun c => decide (48 ≤ (c.toNat : Int) ∧ (c.toNat : Int) ≤ 57)
/-- The plain reading of isDigits. -/
def isDig (l : List UInt8) : Bool := !l.isEmpty && digB l

theorem take_snoc (s : ByteArray) (k : Nat) (h : k < s.size) : s.data.toList.take (k + 1) = s.data.toList.take k ++ [s[k]] := by
  rw [List.take_succ_eq_append_getElem (by simpa using h)]; rfl

theorem digB_snoc (s : ByteArray) (k : Nat) (h : k < s.size) (hd : digB (s.data.toList.take k) = true) (h1 : 48 ≤ (s[k].toNat : Int)) (h2 : (s[k].toNat : Int) ≤ 57) :
    digB (s.data.toList.take (k + 1)) = true := by
  rw [take_snoc s k h]; unfold digB at *; rw [List.all_append, hd]; simp; omega

theorem digB_no (s : ByteArray) (k : Nat) (h : k < s.size) (h1 : (s[k].toNat : Int) < 48 ∨ 57 < (s[k].toNat : Int)) : digB s.data.toList = false := by
  unfold digB
  rw [List.all_eq_false]
  refine ⟨s[k], ?_, by simp; omega⟩
  have := List.getElem_mem (l := s.data.toList) (n := k) (by simpa using h)
  exact this

theorem isDig_yes (s : ByteArray) (k : Nat) (hk : k = s.size) (h0 : s.size ≠ 0) (hd : digB (s.data.toList.take k) = true) : isDig s.data.toList = true := by
  have e : s.data.toList.take k = s.data.toList := List.take_of_length_le (by simp; omega)
  rw [e] at hd
  unfold isDig; rw [hd]; simp
  intro h; apply h0; simp [ByteArray.size, h]

theorem isDig_no (s : ByteArray) (k : Nat) (h : k < s.size) (h1 : (s[k].toNat : Int) < 48 ∨ 57 < (s[k].toNat : Int)) : isDig s.data.toList = false := by
  unfold isDig; rw [digB_no s k h h1]; simp

theorem ret_bool {a b : Bool} (h : a = b) : Ending.returned (.bool a) = .returned (.bool b) := by rw [h]

theorem size_of_empty {s : ByteArray} (h : s.toList.isEmpty = true) : s.data.toList = [] := by
  rw [ByteArray.toList_eq] at h; exact List.isEmpty_iff.1 h
theorem size_of_not {s : ByteArray} (h : s.toList.isEmpty = false) : s.size ≠ 0 := by
  rw [ByteArray.toList_eq] at h
  intro h0
  have : s.data.toList.length = 0 := by rw [Array.length_toList]; exact h0
  rw [List.length_eq_zero_iff] at this
  rw [this] at h; simp at h

set_option maxHeartbeats 400000 in
theorem isDigits_any (s : ByteArray) (w : World) (hs : s.size ≤ maxLen) :
    Calls Try.prog 21 #[.string s] w fun e w' => e = .returned (.bool (isDig s.data.toList)) ∧ w' = w := by
  unfold maxLen at hs
  by_cases he : s.toList.isEmpty = true
  · go_enter Try.func21, Try.ntmps21
    go_wp2
    go_ret
    exact ⟨ret_bool (by rw [size_of_empty he]; rfl), rfl⟩
  · have he' : s.toList.isEmpty = false := by simpa using he
    have h0 := size_of_not he'
    clear he
    go_enter Try.func21, Try.ntmps21
    go_wp2
    go_loop [3] (fun i => ∃ k : Nat, k ≤ s.size ∧ i = .int .i64 k ∧ digB (s.data.toList.take k) = true) (fun i => s.size - (intOf i).toNat)
    case atStart => exact ⟨0, Nat.zero_le _, rfl, rfl⟩
    case round =>
      obtain ⟨k, hk, rfl, hd⟩ := hrel
      have HD : Hid (digB (s.data.toList.take k) = true) := hd
      have H0 : Hid (s.size ≠ 0) := h0
      clear hd h0
      by_cases hlt : k < s.size
      · by_cases h1 : (s[k].toNat : Int) < 48
        · go_wp2
          go_ret
          exact ⟨ret_bool (by rw [isDig_no s k hlt (Or.inl h1)]), rfl⟩
        · by_cases h2 : 57 < (s[k].toNat : Int)
          · go_wp2
            go_ret
            exact ⟨ret_bool (by rw [isDig_no s k hlt (Or.inr h2)]), rfl⟩
          · go_wp2
            go_round
            case rel => exact ⟨k + 1, by omega, by go_num, digB_snoc s k hlt HD.out (by omega) (by omega)⟩
            case measure => simp [intOf]; omega
      · go_wp2
        go_ret
        exact ⟨ret_bool (by rw [isDig_yes s k (by omega) H0.out HD.out]), rfl⟩

theorem zzIsDigits_any (s : ByteArray) (w : World) (hs : s.size ≤ maxLen) :
    Calls Try.prog 8 #[.string s] w fun e w' => e = .returned (.bool (isDig s.data.toList)) ∧ w' = w := by
  go_enter Try.func8, Try.ntmps8
  go_wp2_with (go_at_call 21; refine (isDigits_any _ _ hs).mono ?_; rintro e w' ⟨rfl, rfl⟩)
  go_ret
  exact ⟨rfl, rfl⟩

end Go.Proofs.Qxb6600984a
