import Derived.Test.Qxb6605436aDigit
import Derived.Lib.Strings
namespace Go.Proofs.Qxb6605436a
open Go.RowKit

/-- Byte k of a string, as a number; 0 behind its end. -/
def bt (s : ByteArray) (k : Nat) : Int := if h : k < s.size then ((s[k]'h).toNat : Int) else 0
theorem get_bt (s : ByteArray) : ∀ (n : Nat) (h : n < s.size), ((s[n]'h).toNat : Int) = bt s n := fun n h => by unfold bt; rw [dif_pos h]

/-- The underscore at place p, if there is one, has a digit before it. -/
def LeftOk (s : ByteArray) (p : Nat) : Prop := bt s p = 95 → 0 < p ∧ isd (bt s (p - 1)) = true
/-- .. and one behind it. -/
def RightOk (s : ByteArray) (p : Nat) : Prop := bt s p = 95 → p + 1 < s.size ∧ isd (bt s (p + 1)) = true
/-- Each underscore stands between two digits. -/
def Good (s : ByteArray) : Prop := ∀ p, p < s.size → LeftOk s p ∧ RightOk s p

/-- The ending is a bool that says whether P holds. -/
def Tells (e : Ending) (P : Prop) : Prop := ∃ b : Bool, e = .returned (.bool b) ∧ (b = true ↔ P)
theorem tells_yes {P : Prop} (h : P) : Tells (.returned (.bool true)) P := ⟨true, rfl, by simp [h]⟩
theorem tells_no {P : Prop} (h : ¬ P) : Tells (.returned (.bool false)) P := ⟨false, rfl, by simp [h]⟩

theorem isd_95 : isd 95 = false := rfl

theorem digit_yes (c : Int) (h : isd c = true) (w : World) : Calls Try.prog 13 #[.int .u8 c] w fun e w' => e = .returned (.bool true) ∧ w' = w := by
  have := isDigit_any c w; rw [h] at this; exact this
theorem digit_no (c : Int) (h : isd c = false) (w : World) : Calls Try.prog 13 #[.int .u8 c] w fun e w' => e = .returned (.bool false) ∧ w' = w := by
  have := isDigit_any c w; rw [h] at this; exact this

set_option maxHeartbeats 1000000 in
theorem under_any (s : ByteArray) (w : World) (hs : s.size ≤ 2000000) :
    Calls Try.prog 11 #[.string s] w fun e w' => Tells e (Good s) ∧ w' = w := by
  have hb := get_bt s
  go_enter Try.func11, Try.ntmps11
  go_wp2
  go_loop [3] (fun i => ∃ k : Nat, k ≤ s.size ∧ i = .int .i64 k ∧ ∀ p, p < k → LeftOk s p ∧ RightOk s p) (fun i => s.size - (intOf i).toNat)
  case atStart => exact ⟨0, Nat.zero_le _, rfl, fun p hp => absurd hp (by omega)⟩
  case round =>
    obtain ⟨k, hk, rfl, hg⟩ := hrel
    have HG : Hid _ := hg
    clear hg
    by_cases hlt : k < s.size
    · by_cases h95 : bt s k = 95
      · cases k with
        | zero =>
          go_wp2
          go_ret
          exact ⟨tells_no (fun h => absurd ((h 0 hlt).1 h95).1 (by omega)), rfl⟩
        | succ k =>
          by_cases hlast : s.size ≤ k + 2
          · have h1 : ((k : Int) + 1 == (s.size : Int) - 1) = true := by
              rw [show (k : Int) + 1 = (s.size : Int) - 1 by omega]; simp
            go_wp2
            go_ret
            exact ⟨tells_no (fun h => absurd ((h (k + 1) hlt).2 h95).1 (by omega)), rfl⟩
          · have h1 : ((k : Int) + 1 == (s.size : Int) - 1) = false := by
              cases e : ((k : Int) + 1 == (s.size : Int) - 1) with
              | false => rfl
              | true => have := eq_of_beq e; omega
            have h0 : ((k : Int) + 1 == 0) = false := by
              cases e : ((k : Int) + 1 == 0) with
              | false => rfl
              | true => have := eq_of_beq e; omega
            have hk2 : k + 1 + 1 < s.size := by omega
            have hkk : k < s.size := by omega
            have H95 : Hid _ := h95
            cases hl : isd (bt s k) with
            | false =>
              have HL : Hid _ := hl
              clear hl
              go_wp2_with fail
              refine (digit_no _ HL.out _).mono ?_
              rintro e w' ⟨rfl, rfl⟩
              go_wp2
              go_ret
              exact ⟨tells_no (fun h => by have := ((h (k + 1) hlt).1 H95.out).2; rw [Nat.add_sub_cancel, HL.out] at this; cases this), rfl⟩
            | true =>
              have HL : Hid _ := hl
              clear hl
              cases hr : isd (bt s (k + 1 + 1)) with
              | false =>
                have HR : Hid _ := hr
                clear hr
                go_wp2_with fail
                refine (digit_yes _ HL.out _).mono ?_
                rintro e w' ⟨rfl, rfl⟩
                go_wp2_with fail
                refine (digit_no _ HR.out _).mono ?_
                rintro e w' ⟨rfl, rfl⟩
                go_wp2
                go_ret
                exact ⟨tells_no (fun h => by have := ((h (k + 1) hlt).2 H95.out).2; rw [HR.out] at this; cases this), rfl⟩
              | true =>
                have HR : Hid _ := hr
                clear hr
                have HG2 : Hid (∀ p, p < k + 1 + 1 → LeftOk s p ∧ RightOk s p) := fun p hp => by
                  by_cases e : p = k + 1
                  · subst e; exact ⟨fun _ => ⟨by omega, by rw [Nat.add_sub_cancel]; exact HL.out⟩, fun _ => ⟨hk2, HR.out⟩⟩
                  · exact HG.out p (by omega)
                go_wp2_with fail
                refine (digit_yes _ HL.out _).mono ?_
                rintro e w' ⟨rfl, rfl⟩
                go_wp2_with fail
                refine (digit_yes _ HR.out _).mono ?_
                rintro e w' ⟨rfl, rfl⟩
                go_wp2
                go_round
                case rel => exact ⟨k + 1 + 1, by omega, by go_num, HG2.out⟩
                case measure => simp [intOf]; omega
      · have hno : (bt s k == 95) = false := by simpa using h95
        have HG2 : Hid (∀ p, p < k + 1 → LeftOk s p ∧ RightOk s p) := fun p hp => by
          by_cases e : p = k
          · subst e; exact ⟨fun h => absurd h h95, fun h => absurd h h95⟩
          · exact HG.out p (by omega)
        clear h95
        go_wp2
        go_round
        case rel => exact ⟨k + 1, by omega, by go_num, HG2.out⟩
        case measure => simp [intOf]; omega
    · go_wp2
      go_ret
      exact ⟨tells_yes (fun p hp => HG.out p (by omega)), rfl⟩
end Go.Proofs.Qxb6605436a
