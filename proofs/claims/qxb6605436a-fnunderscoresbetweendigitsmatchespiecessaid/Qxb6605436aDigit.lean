import Derived.Test.Qxb6605436aRows
import Derived.WalkKit
import Derived.WalkSpells
import Derived.WalkLawsBesides
namespace Go.Proofs.Qxb6605436a
open Go.RowKit

/-- The value of the byte c as a digit of base 16, or 16. -/
def dv (c : Int) : Int := if 48 ≤ c ∧ c ≤ 57 then c - 48 else if 97 ≤ c ∧ c ≤ 102 then c - 97 + 10 else if 65 ≤ c ∧ c ≤ 70 then c - 65 + 10 else 16

theorem ret_int {k : IntKind} {a b : Int} (h : a = b) : Ending.returned (.int k a) = .returned (.int k b) := by rw [h]

/-- The byte is a decimal digit. -/
def isd (c : Int) : Bool := decide (48 ≤ c ∧ c ≤ 57)
theorem ret_bool {a b : Bool} (h : a = b) : Ending.returned (.bool a) = .returned (.bool b) := by rw [h]

theorem isDigit_any (c : Int) (w : World) : Calls Try.prog 13 #[.int .u8 c] w fun e w' => e = .returned (.bool (isd c)) ∧ w' = w := by
  by_cases h1 : 48 ≤ c
  · by_cases h2 : c ≤ 57
    · go_enter Try.func13, Try.ntmps13
      go_wp2
      go_ret
      exact ⟨ret_bool (by unfold isd; simp; omega), rfl⟩
    · go_enter Try.func13, Try.ntmps13
      go_wp2
      go_ret
      exact ⟨ret_bool (by unfold isd; simp; omega), rfl⟩
  · go_enter Try.func13, Try.ntmps13
    go_wp2
    go_ret
    exact ⟨ret_bool (by unfold isd; simp; omega), rfl⟩

theorem digitValue_any (c : Int) (h0 : 0 ≤ c) (h255 : c ≤ 255) (w : World) : Calls Try.prog 10 #[.int .u8 c] w fun e w' => e = .returned (.int .i64 (dv c)) ∧ w' = w := by
  by_cases h1 : 48 ≤ c ∧ c ≤ 57
  · obtain ⟨h1, h2⟩ := h1
    go_enter Try.func10, Try.ntmps10
    go_wp2
    go_ret
    exact ⟨ret_int (by unfold dv; rw [if_pos ⟨h1, h2⟩]), rfl⟩
  · have hd : isd c = false := by unfold isd; simp; omega
    have HD : Hid (Calls Try.prog 13 #[.int .u8 c] w fun e w' => e = .returned (.bool false) ∧ w' = w) := by rw [← hd]; exact isDigit_any c w
    clear hd
    have H1 : Hid _ := h1
    clear h1
    by_cases h2 : 97 ≤ c ∧ c ≤ 102
    · obtain ⟨h2, h3⟩ := h2
      go_enter Try.func10, Try.ntmps10
      go_wp2_with fail
      refine Calls.mono HD.out ?_
      rintro e w' ⟨rfl, rfl⟩
      go_wp2
      go_ret
      exact ⟨ret_int (by unfold dv; rw [if_neg H1.out, if_pos ⟨h2, h3⟩]), rfl⟩
    · have H2 : Hid _ := h2
      have h2' : c < 97 ∨ 102 < c := by omega
      clear h2
      by_cases h3 : 65 ≤ c ∧ c ≤ 70
      · obtain ⟨h3, h4⟩ := h3
        have h5 : c < 97 := by omega
        clear h2'
        go_enter Try.func10, Try.ntmps10
        go_wp2_with fail
        refine Calls.mono HD.out ?_
        rintro e w' ⟨rfl, rfl⟩
        go_wp2
        go_ret
        exact ⟨ret_int (by unfold dv; rw [if_neg H1.out, if_neg H2.out, if_pos ⟨h3, h4⟩]), rfl⟩
      · have H3 : Hid _ := h3
        clear h3 h2'
        go_enter Try.func10, Try.ntmps10
        go_wp2_with fail
        refine Calls.mono HD.out ?_
        rintro e w' ⟨rfl, rfl⟩
        go_wp2
        all_goals first
          | (exfalso; have a2 : ¬ (97 ≤ c ∧ c ≤ 102) := H2.out; have a3 : ¬ (65 ≤ c ∧ c ≤ 70) := H3.out; omega)
          | (go_ret; exact ⟨ret_int (by unfold dv; rw [if_neg H1.out, if_neg H2.out, if_neg H3.out]), rfl⟩)

def lowerAt (j : Nat) : Int := if j < 10 then 48 + j else 87 + j
def upperAt (j : Nat) : Int := if j < 10 then 48 + j else 55 + j
theorem lower_is (k : Nat) (h : k < 16) : ((((⟨#[48, 49, 50, 51, 52, 53, 54, 55, 56, 57, 97, 98, 99, 100, 101, 102]⟩ : ByteArray)[k]'h).toNat : Nat) : Int) = lowerAt k := by
  have : ∀ j : Fin 16, ((((⟨#[48, 49, 50, 51, 52, 53, 54, 55, 56, 57, 97, 98, 99, 100, 101, 102]⟩ : ByteArray)[j.val]'(j.isLt)).toNat : Nat) : Int) = lowerAt j.val := by decide
  exact this ⟨k, h⟩
theorem upper_is (k : Nat) (h : k < 16) : ((((⟨#[48, 49, 50, 51, 52, 53, 54, 55, 56, 57, 65, 66, 67, 68, 69, 70]⟩ : ByteArray)[k]'h).toNat : Nat) : Int) = upperAt k := by
  have : ∀ j : Fin 16, ((((⟨#[48, 49, 50, 51, 52, 53, 54, 55, 56, 57, 65, 66, 67, 68, 69, 70]⟩ : ByteArray)[j.val]'(j.isLt)).toNat : Nat) : Int) = upperAt j.val := by decide
  exact this ⟨k, h⟩
theorem dv_hit {c : Int} {k : Nat} (hk : k < 16) (h : lowerAt k = c ∨ upperAt k = c) : dv c = k := by
  unfold lowerAt upperAt at h
  unfold dv
  split at h <;> (repeat' split) <;> omega
def Miss (c : Int) (k : Nat) : Prop := ∀ j, j < k → lowerAt j ≠ c ∧ upperAt j ≠ c
theorem dv_miss {c : Int} (h : Miss c 16) : dv c = 16 := by
  unfold dv
  split
  · have := (h (c - 48).toNat (by omega)).1; unfold lowerAt at this; split at this <;> omega
  · split
    · have := (h (c - 87).toNat (by omega)).1; unfold lowerAt at this; split at this <;> omega
    · split
      · have := (h (c - 55).toNat (by omega)).2; unfold upperAt at this; split at this <;> omega
      · rfl

set_option maxHeartbeats 400000 in
theorem alpha_any (c : Int) (w : World) : Calls Try.prog 6 #[.int .u8 c] w fun e w' => e = .returned (.int .i64 (dv c)) ∧ w' = w := by
  go_enter Try.func6, Try.ntmps6
  go_wp2
  go_loop [3] (fun v => ∃ k : Nat, k ≤ 16 ∧ v = .int .i64 k ∧ Miss c k) (fun v => 16 - (intOf v).toNat)
  case atStart => exact ⟨0, Nat.zero_le _, rfl, fun j hj => absurd hj (by omega)⟩
  case round =>
    obtain ⟨k, hk, rfl, hm⟩ := hrel
    have HM : Hid _ := hm
    clear hm
    by_cases hlt : k < 16
    · have hl := lower_is k hlt
      have hu := upper_is k hlt
      by_cases e1 : lowerAt k = c
      · rw [e1] at hl
        clear hu
        go_wp2
        go_ret
        exact ⟨ret_int (dv_hit hlt (Or.inl e1)).symm, rfl⟩
      · have n1 : (lowerAt k == c) = false := by simpa using e1
        by_cases e2 : upperAt k = c
        · rw [e2] at hu
          go_wp2
          go_ret
          exact ⟨ret_int (dv_hit hlt (Or.inr e2)).symm, rfl⟩
        · have n2 : (upperAt k == c) = false := by simpa using e2
          have HN : Hid (Miss c (k + 1)) := fun j hj => by
            by_cases e : j = k
            · subst e; exact ⟨e1, e2⟩
            · exact HM.out j (by omega)
          clear e1 e2
          go_wp2
          go_round
          case rel => exact ⟨k + 1, by omega, by go_num, HN.out⟩
          case measure => simp [intOf]; omega
    · have hk16 : k = 16 := by omega
      subst hk16
      go_wp2
      go_ret
      exact ⟨ret_int (dv_miss HM.out).symm, rfl⟩

theorem value_walk (c : Int) (h0 : 0 ≤ c) (h255 : c ≤ 255) (w : World) : Calls Try.prog 3 #[.int .u8 c] w fun e w' => e = .returned (.bool true) ∧ w' = w := by
  have H5 : Hid _ := digitValue_any c h0 h255 w
  have H6 : Hid _ := alpha_any c w
  generalize dv c = v at H5 H6
  clear h0 h255
  go_enter Try.func3, Try.ntmps3
  go_wp2_with (first | (go_at_call 10; refine Calls.mono H5.out ?_; rintro e w' ⟨rfl, rfl⟩) | (go_at_call 6; refine Calls.mono H6.out ?_; rintro e w' ⟨rfl, rfl⟩) | go_in)
  go_ret
  exact ⟨rfl, rfl⟩
end Go.Proofs.Qxb6605436a
