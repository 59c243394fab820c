import Derived.Test.Qxb6605258aDig
import Derived.Lib.Strings
import Derived.Deep.QuietTactic
import Derived.BigQuiet
namespace Go.Proofs.Qxb6605258a
open Go.RowKit

/-- The form's byte at place k. -/
def formAt (k : Nat) : Int := if k = 4 ∨ k = 7 then 45 else if k = 10 then 84 else if k = 13 ∨ k = 16 then 58 else 48

theorem form_is (k : Nat) (h : k < 19) : ((((⟨#[48, 48, 48, 48, 45, 48, 48, 45, 48, 48, 84, 48, 48, 58, 48, 48, 58, 48, 48]⟩ : ByteArray)[k]'h).toNat : Nat) : Int) = formAt k := by
  have : ∀ j : Fin 19, ((((⟨#[48, 48, 48, 48, 45, 48, 48, 45, 48, 48, 84, 48, 48, 58, 48, 48, 58, 48, 48]⟩ : ByteArray)[j.val]'(j.isLt)).toNat : Nat) : Int) = formAt j.val := by decide
  exact this ⟨k, h⟩

theorem extract_one (s : ByteArray) (k : Nat) (h : k < s.size) : (s.extract k (k + 1)).data.toList = [s[k]] := by
  rw [Lib.extract_data, show k + 1 - k = 1 by omega]
  have : s.data.toList.drop k = s[k] :: s.data.toList.drop (k + 1) := by
    rw [List.drop_eq_getElem_cons (by simpa using h)]; rfl
  rw [this]; rfl
theorem extract_size_one (s : ByteArray) (k : Nat) : (s.extract k (k + 1)).size ≤ maxLen := by
  rw [ByteArray.size_extract]; unfold maxLen; omega

/-- The zone, as the offset that it says. -/
structure Off (y hh mm : ByteArray) (okh okm : Bool) : Prop where
  size : y.size = 6
  sign : ∀ h : 0 < y.size, ((y[0]'h).toNat : Int) = 43 ∨ ((y[0]'h).toNat : Int) = 45
  colon : ∀ h : 3 < y.size, ((y[3]'h).toNat : Int) = 58
  hours : y.extract 1 3 = hh
  mins : y.extract 4 y.size = mm
  hz : hh.size = 2
  mz : mm.size = 2
  hd : digB hh.data.toList = true
  md : digB mm.data.toList = true
  lh : okh = (Op.bytesLess hh.toList [50, 51] || hh.toList == [50, 51])
  lm : okm = (Op.bytesLess mm.toList [53, 57] || mm.toList == [53, 57])

theorem len_data (s : ByteArray) : s.data.toList.length = s.size := Array.length_toList
theorem not_empty {s : ByteArray} (h : 0 < s.size) : s.toList.isEmpty = false := by
  rw [ByteArray.toList_eq]
  cases e : s.data.toList.isEmpty with
  | false => rfl
  | true =>
    rw [List.isEmpty_iff, ← List.length_eq_zero_iff, len_data] at e; omega
theorem not_single {s : ByteArray} {c : UInt8} (h : s.size ≠ 1) : (s.toList == [c]) = false := by
  rw [ByteArray.toList_eq]
  cases e : (s.data.toList == [c]) with
  | false => rfl
  | true =>
    have := congrArg List.length (eq_of_beq e)
    rw [len_data] at this; exact absurd this h

theorem ret_pair {a b : Int} {x y : Bool} (h1 : a = b) (h2 : x = y) : Ending.returned (.tuple #[.int .i64 a, .bool x]) = .returned (.tuple #[.int .i64 b, .bool y]) := by rw [h1, h2]

set_option maxRecDepth 4000 in
set_option maxHeartbeats 8000000 in
theorem time_walk (s z y hh mm : ByteArray) (f : Nat) (ok okh okm : Bool) (w : World) (hs : s.size ≤ 100) (h19 : 19 ≤ s.size) (hf : ∀ k (h : k < s.size), k < 19 → if formAt k = 48 then digB [s[k]] = true else (s[k].toNat : Int) = formAt k)
    (hz : s.extract 19 s.size = z) (hzs : z.size ≤ 100) (hz0 : 0 < z.size)
    (hfr : (f = 0 ∧ z = y ∧ ((z[0]'hz0).toNat : Int) ≠ 46) ∨ (1 ≤ f ∧ f ≤ 9 ∧ ((z[0]'hz0).toNat : Int) = 46 ∧ f + 1 < z.size ∧ (∀ j (h : j < z.size), 1 ≤ j → j ≤ f → digB [z[j]] = true) ∧ (∀ h : f + 1 < z.size, digB [z[f + 1]'h] = false) ∧ z.extract (f + 1) z.size = y))
    (hzn : (y = ⟨#[90]⟩ ∧ ok = true) ∨ (Off y hh mm okh okm ∧ ok = (okh && okm))) :
    Calls Try.prog 19 #[.string s] w fun e w' => e = .returned (.tuple #[.int .i64 f, .bool ok]) ∧ ∃ n, w' = w.drewN n := by
  have HF : Hid _ := hf
  clear hf
  have HFR : Hid _ := hfr
  have HZN : Hid _ := hzn
  clear hfr hzn
  go_enter Try.func19, Try.ntmps19
  go_wp2
  go_loop [13] (fun i => ∃ k : Nat, k ≤ 19 ∧ i = .int .i64 k) (fun i => 19 - (intOf i).toNat)
  case atStart => exact ⟨0, Nat.zero_le _, rfl⟩
  case round =>
    obtain ⟨k, hk, rfl⟩ := hrel
    by_cases hlt : k < 19
    · have hks : k < s.size := by omega
      have h := HF.out k hks hlt
      have hF := form_is k hlt
      clear HF
      by_cases e48 : formAt k = 48
      · rw [if_pos e48] at h
        rw [e48] at hF
        have HD : Hid (digB (s.extract k (k + 1)).data.toList = true) := by rw [extract_one s k hks]; exact h
        clear h e48
        go_wp2_with fail
        refine (dig_yes _ _ (extract_size_one s k) HD.out).mono ?_
        rintro e w' ⟨rfl, rfl⟩
        go_wp2
        go_round
        case rel => exact ⟨k + 1, by omega, by go_num⟩
        case measure => simp [intOf]; omega
      · rw [if_neg e48] at h
        have hc : formAt k = 45 ∨ formAt k = 84 ∨ formAt k = 58 := by
          unfold formAt at e48 ⊢
          split
          · simp
          · split
            · simp
            · split
              · simp
              · rename_i a b c; simp [a, b, c] at e48
        clear e48
        rcases hc with hc | hc | hc
        all_goals
          rw [hc] at h hF
          clear hc
          go_wp2
          go_round
          case rel => exact ⟨k + 1, by omega, by go_num⟩
          case measure => simp [intOf]; omega
    · clear HF
      have hze : z.toList.isEmpty = false := not_empty hz0
      rcases HFR.out with ⟨rfl, rfl, h46⟩ | ⟨hf1, hf9, h46, hfz, hdg, hnd, hy⟩
      · have hno : (((z[0]'hz0).toNat : Int) == 46) = false := by simpa using h46
        clear h46 HFR
        rcases HZN.out with ⟨rfl, rfl⟩ | ⟨hoff, rfl⟩
        · clear HZN
          go_wp2
          go_ret2
          exact ⟨ret_pair (by first | rfl | simp) rfl, 0, rfl⟩
        · clear HZN
          have h6 := hoff.size
          have hsg := hoff.sign (by omega)
          have hcl := hoff.colon (by omega)
          have hhr := hoff.hours
          have hmn := hoff.mins
          have hnz := not_single (c := 90) (by omega : z.size ≠ 1)
          have hnz2 := not_single (c := 122) (by omega : z.size ≠ 1)
          have hmn6 : z.extract 4 6 = mm := by rw [← h6]; exact hmn
          have hh2 := hoff.hz
          have hm2 := hoff.mz
          have HHD : Hid _ := hoff.hd
          have HMD : Hid _ := hoff.md
          have HLM : Hid _ := hoff.lm
          have HLH : Hid _ := hoff.lh
          clear hoff
          cases okh with
          | true =>
            have hle : Op.bytesLess hh.toList [50, 51] = true ∨ hh.toList = [50, 51] := by simpa using HLH.out.symm
            rcases hsg with hsg | hsg
            all_goals
              go_wp2_with fail
              go_quiet (fail)
              go_wp2_with fail
              refine (dig_yes hh _ (by unfold maxLen; omega) HHD.out).mono ?_
              rintro e w' ⟨rfl, rfl⟩
              go_wp2_with fail
              refine (dig_yes mm _ (by unfold maxLen; omega) HMD.out).mono ?_
              rintro e w' ⟨rfl, rfl⟩
              go_wp2
              go_ret2
              exact ⟨ret_pair (by first | rfl | simp) (by rw [HLM.out, ← HLH.out]), _, rfl⟩
          | false =>
            have hle : Op.bytesLess hh.toList [50, 51] = false ∧ (hh.toList == [50, 51]) = false := by simpa using HLH.out.symm
            obtain ⟨hl1, hl2⟩ := hle
            rcases hsg with hsg | hsg
            all_goals
              go_wp2_with fail
              go_quiet (fail)
              go_wp2_with fail
              refine (dig_yes hh _ (by unfold maxLen; omega) HHD.out).mono ?_
              rintro e w' ⟨rfl, rfl⟩
              go_wp2
              go_ret2
              exact ⟨ret_pair (by first | rfl | simp) (by simp), _, rfl⟩
      · have hbd : f + 1 ≤ 100 := by omega
        have HDG : Hid _ := hdg
        have HND : Hid _ := hnd
        clear hdg hnd HFR
        go_wp2
        go_loop [7] (fun d => ∃ k : Nat, k ≤ f ∧ d = .int .i64 k) (fun d => f - (intOf d).toNat)
        case atStart => exact ⟨0, Nat.zero_le _, rfl⟩
        case round =>
          obtain ⟨d, hd, rfl⟩ := hrel
          by_cases hlt2 : d < f
          · have hdz : d + 1 < z.size := by omega
            have HD : Hid (digB (z.extract (d + 1) (d + 1 + 1)).data.toList = true) := by rw [extract_one z (d + 1) hdz]; exact HDG.out (d + 1) hdz (by omega) (by omega)
            clear hy
            go_wp2_with fail
            refine (dig_yes _ _ (extract_size_one z (d + 1)) HD.out).mono ?_
            rintro e w' ⟨rfl, rfl⟩
            go_wp2
            go_round
            case rel => exact ⟨d + 1, by omega, by go_num⟩
            case measure => simp [intOf]; omega
          · have hdf : d = f := by omega
            subst hdf
            have HD : Hid (digB (z.extract (d + 1) (d + 1 + 1)).data.toList = false) := by rw [extract_one z (d + 1) hfz]; exact HND.out hfz
            go_wp2_with fail
            refine (dig_no _ _ (extract_size_one z (d + 1)) HD.out).mono ?_
            rintro e w' ⟨rfl, rfl⟩
            clear HDG HND HD
            have hd0 : ((d : Int) == 0) = false := by
              cases e : ((d : Int) == 0) with
              | false => rfl
              | true => have := eq_of_beq e; omega
            rcases HZN.out with ⟨rfl, rfl⟩ | ⟨hoff, rfl⟩
            · clear HZN
              go_wp2
              go_ret2
              exact ⟨ret_pair (by first | rfl | simp) rfl, 0, rfl⟩
            · clear HZN
              have h6 := hoff.size
              have hsg := hoff.sign (by omega)
              have hcl := hoff.colon (by omega)
              have hhr := hoff.hours
              have hmn := hoff.mins
              have hnz := not_single (c := 90) (by omega : y.size ≠ 1)
              have hnz2 := not_single (c := 122) (by omega : y.size ≠ 1)
              have hmn6 : y.extract 4 6 = mm := by rw [← h6]; exact hmn
              have hh2 := hoff.hz
              have hm2 := hoff.mz
              have HHD : Hid _ := hoff.hd
              have HMD : Hid _ := hoff.md
              have HLM : Hid _ := hoff.lm
              have HLH : Hid _ := hoff.lh
              clear hoff
              cases okh with
              | true =>
                have hle : Op.bytesLess hh.toList [50, 51] = true ∨ hh.toList = [50, 51] := by simpa using HLH.out.symm
                rcases hsg with hsg | hsg
                all_goals
                  go_wp2_with fail
                  go_quiet (fail)
                  go_wp2_with fail
                  refine (dig_yes hh _ (by unfold maxLen; omega) HHD.out).mono ?_
                  rintro e w' ⟨rfl, rfl⟩
                  go_wp2_with fail
                  refine (dig_yes mm _ (by unfold maxLen; omega) HMD.out).mono ?_
                  rintro e w' ⟨rfl, rfl⟩
                  go_wp2
                  go_ret2
                  exact ⟨ret_pair (by first | rfl | simp) (by rw [HLM.out, ← HLH.out]), _, rfl⟩
              | false =>
                have hle : Op.bytesLess hh.toList [50, 51] = false ∧ (hh.toList == [50, 51]) = false := by simpa using HLH.out.symm
                obtain ⟨hl1, hl2⟩ := hle
                rcases hsg with hsg | hsg
                all_goals
                  go_wp2_with fail
                  go_quiet (fail)
                  go_wp2_with fail
                  refine (dig_yes hh _ (by unfold maxLen; omega) HHD.out).mono ?_
                  rintro e w' ⟨rfl, rfl⟩
                  go_wp2
                  go_ret2
                  exact ⟨ret_pair (by first | rfl | simp) (by simp), _, rfl⟩
end Go.Proofs.Qxb6605258a
