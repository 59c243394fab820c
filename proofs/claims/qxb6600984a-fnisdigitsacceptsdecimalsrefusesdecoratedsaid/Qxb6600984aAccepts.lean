import Derived.Test.Qxb6600984aDec
import Derived.BigQuiet
import Derived.Deep.QuietTactic
import Derived.OpenShut
namespace Go.Proofs.Qxb6600984a
open Go.RowKit
theorem zz_yes (s : ByteArray) (w : World) (hs : s.size ≤ maxLen) (hd : isDig s.data.toList = true) :
    Calls Try.prog 8 #[.string s] w fun e w' => e = .returned (.bool true) ∧ w' = w := by
  have := zzIsDigits_any s w hs
  rw [hd] at this; exact this
theorem zz_no (s : ByteArray) (w : World) (hs : s.size ≤ maxLen) (hd : isDig s.data.toList = false) :
    Calls Try.prog 8 #[.string s] w fun e w' => e = .returned (.bool false) ∧ w' = w := by
  have := zzIsDigits_any s w hs
  rw [hd] at this; exact this

theorem digB_append (a b : List UInt8) : digB (a ++ b) = (digB a && digB b) := by unfold digB; rw [List.all_append]
theorem digB_of {l : List UInt8} (h : isDig l = true) : digB l = true := by
  unfold isDig at h; rw [Bool.and_eq_true] at h; exact h.2
theorem lead_yes {s : ByteArray} (h : isDig s.data.toList = true) : isDig (ByteArray.mk #[48] ++ s).data.toList = true := by
  have := digB_of h
  rw [ByteArray.data_append, Array.toList_append]
  unfold isDig; rw [digB_append, this]; rfl
theorem lead_no (c : UInt8) (hc : digB [c] = false) (s : ByteArray) : isDig (ByteArray.mk #[c] ++ s).data.toList = false := by
  rw [ByteArray.data_append, Array.toList_append]
  unfold isDig; rw [digB_append]
  have : (ByteArray.mk #[c]).data.toList = [c] := rfl
  rw [this, hc]; simp
theorem trail_no (c : UInt8) (hc : digB [c] = false) (s : ByteArray) : isDig (s ++ ByteArray.mk #[c]).data.toList = false := by
  rw [ByteArray.data_append, Array.toList_append]
  unfold isDig; rw [digB_append]
  have : (ByteArray.mk #[c]).data.toList = [c] := rfl
  rw [this, hc]; simp
theorem mid_no (c : UInt8) (hc : digB [c] = false) (s t : ByteArray) : isDig (s ++ ByteArray.mk #[c] ++ t).data.toList = false := by
  rw [ByteArray.data_append, Array.toList_append, ByteArray.data_append, Array.toList_append]
  unfold isDig; rw [digB_append, digB_append]
  have : (ByteArray.mk #[c]).data.toList = [c] := rfl
  rw [this, hc]; simp
theorem len_lead (c : UInt8) (s : ByteArray) (h : s.size ≤ 20) : (ByteArray.mk #[c] ++ s).size ≤ maxLen := by
  rw [ByteArray.size_append]; unfold maxLen; show 1 + s.size ≤ _; omega
theorem len_trail (c : UInt8) (s : ByteArray) (h : s.size ≤ 20) : (s ++ ByteArray.mk #[c]).size ≤ maxLen := by
  rw [ByteArray.size_append]; unfold maxLen; show s.size + 1 ≤ _; omega

theorem len_mid (c : UInt8) (s : ByteArray) (h : s.size ≤ 20) : (s.extract 0 1 ++ ByteArray.mk #[c] ++ s.extract 1 s.size).size ≤ maxLen := by
  rw [ByteArray.size_append, ByteArray.size_append, ByteArray.size_extract, ByteArray.size_extract]; unfold maxLen
  show min 1 s.size - 0 + 1 + (min s.size s.size - 1) ≤ _
  omega
theorem grown_drewN {w w' : World} (h : Grown w w') : ∀ n, Grown w (w'.drewN n)
  | 0 => h
  | n + 1 => (grown_drewN (w' := w'.drew) h.drew n)

set_option maxHeartbeats 400000 in
theorem accepts_walk (a0 : Int) (hb : 0 ≤ a0 ∧ a0 ≤ 18446744073709551615) (w : World) :
    Calls Try.prog 4 #[.int .u64 a0] w fun e w' => e = .returned (.bool true) ∧ Grown w w' := by
  go_enter Try.func4, Try.ntmps4
  go_wp2_with fail
  refine (dec_any _ _ hb.1 hb.2).mono ?_
  rintro e w1 ⟨s, rfl, hd, hs, hg⟩
  have HD : Hid (isDig s.data.toList = true) := hd
  clear hd
  go_wp2_with fail
  refine (zz_yes s _ (by unfold maxLen; omega) HD.out).mono ?_
  rintro e w' ⟨rfl, rfl⟩
  go_wp2_with fail
  refine (zz_yes _ _ (len_lead _ _ hs) (lead_yes HD.out)).mono ?_
  rintro e w' ⟨rfl, rfl⟩
  go_wp2_with fail
  refine (zz_no _ _ (len_lead _ _ hs) (lead_no 45 rfl _)).mono ?_
  rintro e w' ⟨rfl, rfl⟩
  go_wp2_with fail
  refine (zz_no _ _ (len_lead _ _ hs) (lead_no 43 rfl _)).mono ?_
  rintro e w' ⟨rfl, rfl⟩
  go_wp2_with fail
  refine (zz_no _ _ (len_lead _ _ hs) (lead_no 46 rfl _)).mono ?_
  rintro e w' ⟨rfl, rfl⟩
  go_wp2_with fail
  refine (zz_no _ _ (len_trail _ _ hs) (trail_no 32 rfl _)).mono ?_
  rintro e w' ⟨rfl, rfl⟩
  go_wp2_with fail
  refine (zz_no _ _ (len_trail _ _ hs) (trail_no 46 rfl _)).mono ?_
  rintro e w' ⟨rfl, rfl⟩
  by_cases h2 : 2 ≤ s.size
  · go_wp2_with fail
    go_quiet ((go_at_call 8; exact Calls.quiet_of_same (zz_no _ _ (len_mid _ _ hs) (mid_no 46 rfl _ _))))
    go_wp2_with fail
    refine (zz_no _ _ (len_trail _ _ hs) (trail_no 0 rfl _)).mono ?_
    rintro e w' ⟨rfl, rfl⟩
    go_wp2
    go_ret
    exact ⟨rfl, grown_drewN hg _⟩
  · go_wp2_with fail
    refine (zz_no _ _ (len_trail _ _ hs) (trail_no 0 rfl _)).mono ?_
    rintro e w' ⟨rfl, rfl⟩
    go_wp2
    go_ret
    exact ⟨rfl, hg⟩
end Go.Proofs.Qxb6600984a
