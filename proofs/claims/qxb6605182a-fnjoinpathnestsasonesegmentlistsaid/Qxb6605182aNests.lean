import Derived.Test.Qxb6605182aLays
namespace Go.Proofs.Qxb6605182a
open Go.RowKit

/-- The parts by number. -/
def pt (a b c : ByteArray) : Nat → ByteArray
  | 0 => a
  | 1 => b
  | _ => c
/-- What has been laid out behind k parts. -/
def acc (a b c : ByteArray) : Nat → ByteArray
  | 0 => ⟨#[]⟩
  | k + 1 => jp (acc a b c k) (pt a b c k)

theorem jp_size (x y : ByteArray) : (jp x y).size ≤ x.size + y.size + 1 := by
  unfold jp
  split
  · omega
  · split
    · omega
    · rw [ByteArray.size_append, ByteArray.size_append]; show x.size + 1 + y.size ≤ _; omega
theorem is_empty {s : ByteArray} (h : s.toList.isEmpty = true) : s = ⟨#[]⟩ := by
  apply ext_list
  rw [ByteArray.toList_eq, List.isEmpty_iff] at h
  exact h
theorem jp_none {x y : ByteArray} (h : y.toList.isEmpty = true) : jp x y = x := by unfold jp; rw [if_pos h]
theorem jp_left {x y : ByteArray} (h : x.toList.isEmpty = true) (h2 : y.toList.isEmpty = false) : jp x y = y := by unfold jp; rw [h2, h]; rfl
theorem jp_left' {x y : ByteArray} (h : x.toList.isEmpty = true) : jp x y = y := by
  cases h2 : y.toList.isEmpty with
  | true => rw [jp_none h2, is_empty h, is_empty h2]
  | false => exact jp_left h h2
theorem jp_both {x y : ByteArray} (h : x.toList.isEmpty = false) (h2 : y.toList.isEmpty = false) : jp x y = x ++ ⟨#[46]⟩ ++ y := by unfold jp; rw [h2, h]; rfl
theorem not_empty {x y : ByteArray} (h : x.toList.isEmpty = false) : (x ++ y).toList.isEmpty = false := by
  cases e : (x ++ y).toList.isEmpty with
  | false => rfl
  | true =>
    rw [empty_iff, ByteArray.size_append] at e
    have := (empty_iff x).2 (by omega)
    rw [this] at h; cases h
theorem jp_assoc (a b c : ByteArray) : jp a (jp b c) = jp (jp a b) c := by
  cases hc : c.toList.isEmpty with
  | true => rw [jp_none hc, jp_none hc]
  | false =>
    cases hb : b.toList.isEmpty with
    | true => rw [jp_left' hb, jp_none hb]
    | false =>
      cases ha : a.toList.isEmpty with
      | true => rw [jp_left' ha, jp_left' ha]
      | false =>
        have h1 : (b ++ ⟨#[46]⟩ ++ c).toList.isEmpty = false := by rw [ByteArray.append_assoc]; exact not_empty hb
        have h2 : (a ++ ⟨#[46]⟩ ++ b).toList.isEmpty = false := by rw [ByteArray.append_assoc]; exact not_empty ha
        rw [jp_both hb hc, jp_both ha hb, jp_both ha h1, jp_both h2 hc]
        simp only [ByteArray.append_assoc]
theorem acc_three (a b c : ByteArray) : acc a b c 3 = jp (jp a b) c := by
  show jp (jp (jp ⟨#[]⟩ a) b) c = _
  rw [show jp ⟨#[]⟩ a = a from jp_left' ((empty_iff _).2 rfl)]
theorem acc_size (a b c : ByteArray) (ha : a.size ≤ 262144) (hb : b.size ≤ 262144) (hc : c.size ≤ 262144) : ∀ k, (acc a b c k).size ≤ k * 262145
  | 0 => Nat.zero_le _
  | k + 1 => by
    have h := acc_size a b c ha hb hc k
    have h2 : (pt a b c k).size ≤ 262144 := by unfold pt; split <;> assumption
    have h3 := jp_size (acc a b c k) (pt a b c k)
    show (jp (acc a b c k) (pt a b c k)).size ≤ _
    omega

theorem empty_app (x : ByteArray) : (⟨#[]⟩ : ByteArray) ++ x = x := by apply ext_list; rw [app_data]; rfl
theorem str_val {a b : ByteArray} (h : a = b) : Value.string a = .string b := by rw [h]
theorem ret_str {a b : ByteArray} (h : a = b) : Ending.returned (.string a) = .returned (.string b) := by rw [h]

set_option maxHeartbeats 400000 in
theorem segs_any (a b c : ByteArray) (w : World) (ha : a.size ≤ 262144) (hb : b.size ≤ 262144) (hc : c.size ≤ 262144) :
    Calls Try.prog 8 #[.string a, .string b, .string c] w fun e w' => e = .returned (.string (jp (jp a b) c)) ∧ Grown w w' := by
  go_enter Try.func8, Try.ntmps8
  go_wp2
  go_loopw [8, 9] (fun out i wr => ∃ (k : Nat) (C : Array Value), k ≤ 3 ∧ i = .int .i64 k ∧ out = .string (acc a b c k) ∧ (∀ j, j < 3 → C[j]? = some (.string (pt a b c j))) ∧ wr = w.alloc (.cells C 26)) (fun _ i _ => 3 - (intOf i).toNat)
  case atStart =>
    refine ⟨0, _, by omega, rfl, rfl, fun j hj => ?_, rfl⟩
    match j, hj with
    | 0, _ => rfl
    | 1, _ => rfl
    | 2, _ => rfl
  case round =>
    obtain ⟨k, C, hk, rfl, rfl, hC, rfl⟩ := hrel
    by_cases hlt : k < 3
    · have hcell := hC k hlt
      have hsz := acc_size a b c ha hb hc k
      have hsp : (pt a b c k).size ≤ 262144 := by unfold pt; split <;> assumption
      have HA : Hid (acc a b c (k + 1) = jp (acc a b c k) (pt a b c k)) := rfl
      have HC : Hid _ := hC
      clear hC
      generalize hx : pt a b c k = x at *
      generalize ho : acc a b c k = o at *
      clear hx ho
      cases h1 : x.toList.isEmpty with
      | true =>
        go_wp2
        go_roundw
        case rel => exact ⟨k + 1, C, by omega, by go_num, str_val (by rw [HA.out, jp_none h1]), HC.out, rfl⟩
        case measure => simp [intOf]; omega
      | false =>
        cases h2 : o.toList.isEmpty with
        | true =>
          go_wp2
          go_roundw
          case rel => exact ⟨k + 1, C, by omega, by go_num, str_val (by rw [HA.out, jp_left h2 h1, is_empty h2, empty_app]), HC.out, rfl⟩
          case measure => simp [intOf]; omega
        | false =>
          go_wp2
          go_roundw
          case rel => exact ⟨k + 1, C, by omega, by go_num, str_val (by rw [HA.out, jp_both h2 h1]), HC.out, rfl⟩
          case measure => simp [intOf]; omega
    · have hk3 : k = 3 := by omega
      subst hk3
      rw [acc_three]
      clear hC
      go_wp2
      go_ret
      exact ⟨rfl, (Grown.refl _).alloc _ _⟩

/-- The ending is a bool. -/
def GivesBool (e : Ending) : Prop := ∃ b : Bool, e = .returned (.bool b)
theorem givesBool (b : Bool) : GivesBool (.returned (.bool b)) := ⟨b, rfl⟩
theorem zz7_any (a b c : ByteArray) (w : World) : Calls Try.prog 7 #[.string a, .string b, .string c] w fun e w' => GivesBool e ∧ w' = w := by
  go_enter Try.func7, Try.ntmps7
  go_wp2
  all_goals (go_ret; exact ⟨givesBool _, rfl⟩)

set_option maxHeartbeats 400000 in
theorem nests_walk (a b c : ByteArray) (w : World) (wa : a.size ≤ maxLen) (wb : b.size ≤ maxLen) (wc : c.size ≤ maxLen) :
    Calls Try.prog 4 #[.string a, .string b, .string c] w fun e w' => e = .returned (.bool true) ∧ Grown w w' := by
  unfold maxLen at wa wb wc
  by_cases h1 : 262144 < a.size
  · go_enter Try.func4, Try.ntmps4
    go_wp2
    all_goals (go_ret; exact ⟨rfl, Grown.refl _⟩)
  by_cases h2 : 262144 < b.size
  · go_enter Try.func4, Try.ntmps4
    go_wp2
    all_goals (go_ret; exact ⟨rfl, Grown.refl _⟩)
  by_cases h3 : 262144 < c.size
  · go_enter Try.func4, Try.ntmps4
    go_wp2
    all_goals (go_ret; exact ⟨rfl, Grown.refl _⟩)
  have z1 := jp_size a b
  have z2 := jp_size b c
  have H1 : Hid _ := join6 a b w (by omega) (by omega)
  have H2 : Hid _ := join6 (jp a b) c w (by omega) (by omega)
  have H3 : Hid _ := join6 b c w (by omega) (by omega)
  have H4 : Hid _ := join6 a (jp b c) w (by omega) (by omega)
  have H5 : Hid _ := segs_any a b c w (by omega) (by omega) (by omega)
  rw [jp_assoc] at H4
  generalize jp (jp a b) c = l at *
  generalize jp a b = x at *
  generalize jp b c = y at *
  clear z1 z2
  go_enter Try.func4, Try.ntmps4
  go_wp2_with fail
  refine (zz7_any a b c w).mono ?_
  rintro e w' ⟨⟨bb, rfl⟩, rfl⟩
  cases bb with
  | false =>
    go_wp2
    go_ret
    exact ⟨rfl, Grown.refl _⟩
  | true =>
    go_wp2_with fail
    refine Calls.mono H1.out ?_
    rintro e w' ⟨rfl, rfl⟩
    go_wp2_with fail
    refine Calls.mono H2.out ?_
    rintro e w' ⟨rfl, rfl⟩
    go_wp2_with fail
    refine Calls.mono H3.out ?_
    rintro e w' ⟨rfl, rfl⟩
    go_wp2_with fail
    refine Calls.mono H4.out ?_
    rintro e w' ⟨rfl, rfl⟩
    go_wp2_with fail
    refine Calls.mono H5.out ?_
    rintro e w' ⟨rfl, hg⟩
    go_wp2
    go_ret
    exact ⟨rfl, hg⟩
end Go.Proofs.Qxb6605182a
