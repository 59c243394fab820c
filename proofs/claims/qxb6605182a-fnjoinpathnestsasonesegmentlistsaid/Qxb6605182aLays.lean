import Derived.Test.Qxb6605182aJoin
import Derived.Lib.Strings
namespace Go.Proofs.Qxb6605182a
open Go.RowKit

theorem ext_list {s t : ByteArray} (h : s.data.toList = t.data.toList) : s = t := Go.WideShapes.bytes_inj h
theorem app_data (s t : ByteArray) : (s ++ t).data.toList = s.data.toList ++ t.data.toList := by rw [ByteArray.data_append, Array.toList_append]
theorem len_data (s : ByteArray) : s.data.toList.length = s.size := Array.length_toList

theorem head_of (a x : ByteArray) : (a ++ x).extract 0 a.size = a := by
  apply ext_list
  rw [Lib.extract_data, app_data, List.drop_zero, Nat.sub_zero, ← len_data a, List.take_left]
theorem tail_of (x b : ByteArray) : (x ++ b).extract ((x ++ b).size - b.size) (x ++ b).size = b := by
  apply ext_list
  rw [Lib.extract_data, app_data, ByteArray.size_append, Nat.add_sub_cancel, ← len_data x, List.drop_left, List.take_of_length_le (by rw [len_data, len_data]; omega)]
theorem dot_of (a b : ByteArray) (h : a.size < (a ++ ⟨#[46]⟩ ++ b).size) : (((a ++ ⟨#[46]⟩ ++ b)[a.size]'h).toNat : Int) = 46 := by
  have e : (a ++ ⟨#[46]⟩ ++ b).data.toList[a.size]? = some 46 := by
    rw [app_data, app_data, List.append_assoc, ← len_data a, List.getElem?_append_right (Nat.le_refl _), Nat.sub_self]; rfl
  have e2 : (a ++ ⟨#[46]⟩ ++ b).data.toList[a.size]? = some ((a ++ ⟨#[46]⟩ ++ b)[a.size]'h) := by
    rw [List.getElem?_eq_getElem (by rw [len_data]; exact h)]; rfl
  rw [e] at e2
  injection e2 with e2
  rw [← e2]; rfl

set_option maxHeartbeats 400000 in
theorem lays_both (a b r : ByteArray) (w : World) (h1 : a.size ≤ 524288) (h2 : b.size ≤ 524288) (ha : 0 < a.size) (hb : 0 < b.size)
    (hj : Calls Try.prog 6 #[.string a, .string b] w fun e w' => e = .returned (.string r) ∧ w' = w) (lo : a.size + b.size + 1 ≤ r.size) (hi : r.size ≤ a.size + b.size + 1) (hh : r.extract 0 a.size = a) (ht : r.extract (r.size - b.size) r.size = b) (hlt : a.size < r.size) (hd : ((r[a.size]'hlt).toNat : Int) = 46) :
    Calls Try.prog 3 #[.string a, .string b] w fun e w' => e = .returned (.bool true) ∧ w' = w := by
  have HJ : Hid _ := hj
  clear hj
  have hs : a.size + b.size ≤ 1048576 := by omega
  go_enter Try.func3, Try.ntmps3
  go_wp2_with (first | (go_at_call 6; refine Calls.mono HJ.out ?_; rintro e w' ⟨rfl, rfl⟩) | go_in)
  go_ret
  exact ⟨rfl, rfl⟩

set_option maxHeartbeats 400000 in
theorem lays_one (a b r : ByteArray) (w : World) (h1 : a.size ≤ 524288) (h2 : b.size ≤ 524288) (hab : a.size = 0 ∨ b.size = 0)
    (hj : Calls Try.prog 6 #[.string a, .string b] w fun e w' => e = .returned (.string r) ∧ w' = w) (lo : a.size + b.size ≤ r.size) (hi : r.size ≤ a.size + b.size) (hh : r.extract 0 a.size = a) (ht : r.extract (r.size - b.size) r.size = b) :
    Calls Try.prog 3 #[.string a, .string b] w fun e w' => e = .returned (.bool true) ∧ w' = w := by
  have HJ : Hid _ := hj
  clear hj
  have hs : a.size + b.size ≤ 1048576 := by omega
  by_cases ha : 0 < a.size
  · have hb : ¬ 0 < b.size := by omega
    clear hab
    go_enter Try.func3, Try.ntmps3
    go_wp2_with (first | (go_at_call 6; refine Calls.mono HJ.out ?_; rintro e w' ⟨rfl, rfl⟩) | go_in)
    go_ret
    exact ⟨rfl, rfl⟩
  · clear hab
    go_enter Try.func3, Try.ntmps3
    go_wp2_with (first | (go_at_call 6; refine Calls.mono HJ.out ?_; rintro e w' ⟨rfl, rfl⟩) | go_in)
    go_ret
    exact ⟨rfl, rfl⟩

theorem empty_iff (s : ByteArray) : s.toList.isEmpty = true ↔ s.size = 0 := by
  rw [ByteArray.toList_eq, List.isEmpty_iff, ← List.length_eq_zero_iff, len_data]

set_option maxHeartbeats 400000 in
theorem lays_walk (a b : ByteArray) (w : World) (wa : a.size ≤ maxLen) (wb : b.size ≤ maxLen) :
    Calls Try.prog 3 #[.string a, .string b] w fun e w' => e = .returned (.bool true) ∧ w' = w := by
  unfold maxLen at wa wb
  by_cases h1 : 524288 < a.size
  · go_enter Try.func3, Try.ntmps3
    go_wp2
    all_goals (go_ret; exact ⟨rfl, rfl⟩)
  by_cases h2 : 524288 < b.size
  · go_enter Try.func3, Try.ntmps3
    go_wp2
    all_goals (go_ret; exact ⟨rfl, rfl⟩)
  have hj := join6 a b w (by omega) (by omega)
  by_cases hb : b.size = 0
  · have e : jp a b = a := by unfold jp; rw [if_pos ((empty_iff b).2 hb)]
    rw [e] at hj
    refine lays_one a b a w (by omega) (by omega) (Or.inr hb) hj (by omega) (by omega) ?_ ?_
    · simp
    · apply ext_list
      rw [Lib.extract_data, hb, Nat.sub_zero, ← len_data a, List.drop_length, List.take_nil]
      have := len_data b
      rw [hb] at this
      exact (List.length_eq_zero_iff.1 this).symm
  · have hbe : ¬ b.toList.isEmpty = true := fun h => hb ((empty_iff b).1 h)
    by_cases ha : a.size = 0
    · have e : jp a b = b := by unfold jp; rw [if_neg hbe, if_pos ((empty_iff a).2 ha)]
      rw [e] at hj
      refine lays_one a b b w (by omega) (by omega) (Or.inl ha) hj (by omega) (by omega) ?_ ?_
      · apply ext_list
        rw [Lib.extract_data, ha, Nat.sub_zero, List.take_zero]
        have := len_data a
        rw [ha] at this
        exact (List.length_eq_zero_iff.1 this).symm
      · simp
    · have hae : ¬ a.toList.isEmpty = true := fun h => ha ((empty_iff a).1 h)
      have e : jp a b = a ++ ⟨#[46]⟩ ++ b := by unfold jp; rw [if_neg hbe, if_neg hae]
      rw [e] at hj
      have hsz : (a ++ ⟨#[46]⟩ ++ b).size = a.size + b.size + 1 := by
        rw [ByteArray.size_append, ByteArray.size_append]; show a.size + 1 + b.size = _; omega
      exact lays_both a b _ w (by omega) (by omega) (by omega) (by omega) hj (by omega) (by omega) (by rw [ByteArray.append_assoc]; exact head_of _ _) (tail_of _ _) (by omega) (dot_of _ _ _)
end Go.Proofs.Qxb6605182a
