import Derived.Test.Qxb6605258aTime
import Derived.Test.Qxb6605258aPad
import Derived.Laws.BytesArg
namespace Go.Proofs.Qxb6605258a
open Go.RowKit

/-! ### The plain law: no Go in sight -/
def isB (l : List Int) : Prop := ∀ x ∈ l, 0 ≤ x ∧ x ≤ 255

theorem str_append (a b : List Int) : strOfNums (a ++ b) = strOfNums a ++ strOfNums b := by
  apply Go.WideShapes.bytes_inj
  rw [strOfNums_data, ByteArray.data_append, Array.toList_append, strOfNums_data, strOfNums_data, List.map_append]

theorem str_get (l : List Int) (hb : isB l) (k : Nat) (h : k < (strOfNums l).size) : (((strOfNums l)[k]'h).toNat : Int) = l.getD k 0 := by
  have hk : k < l.length := by rw [strOfNums_size] at h; exact h
  have e : (strOfNums l).data.toList[k]? = some ((strOfNums l)[k]'h) := by
    rw [List.getElem?_eq_getElem (by rw [len_data]; exact h)]; rfl
  rw [strOfNums_data, List.getElem?_map, List.getElem?_eq_getElem hk] at e
  simp only [Option.map_some, Option.some.injEq] at e
  rw [← e, List.getD, List.getElem?_eq_getElem hk]
  have := hb _ (List.getElem_mem hk)
  have h2 : (UInt8.ofNat (l[k]).toNat).toNat = (l[k]).toNat % 256 := by simp
  rw [h2]
  simp only [Option.getD_some]
  omega

theorem str_tail (a b : List Int) (n : Nat) (hn : a.length = n) : (strOfNums (a ++ b)).extract n (strOfNums (a ++ b)).size = strOfNums b := by
  apply Go.WideShapes.bytes_inj
  rw [Lib.extract_data, strOfNums_data, strOfNums_size, List.map_append, ← hn]
  have e : a.length = (a.map fun n => UInt8.ofNat n.toNat).length := by simp
  rw [e, List.drop_left, List.take_of_length_le (by simp), strOfNums_data]

theorem str_mid (a b c : List Int) (n m : Nat) (hn : a.length = n) (hm : n + b.length = m) : (strOfNums (a ++ b ++ c)).extract n m = strOfNums b := by
  apply Go.WideShapes.bytes_inj
  rw [Lib.extract_data, strOfNums_data, List.append_assoc, List.map_append, List.map_append, ← hm, ← hn]
  have e : a.length = (a.map fun n => UInt8.ofNat n.toNat).length := by simp
  have e2 : a.length + b.length - a.length = (b.map fun n => UInt8.ofNat n.toNat).length := by simp
  rw [e2, e, List.drop_left, List.take_left, strOfNums_data]

theorem dig_one {x : Int} (h0 : 48 ≤ x) (h1 : x ≤ 57) {c : UInt8} (hc : (c.toNat : Int) = x) : digB [c] = true := by
  unfold digB; simp; omega
theorem dig_not {x : Int} (h : x < 48 ∨ 57 < x) {c : UInt8} (hc : (c.toNat : Int) = x) : digB [c] = false := by
  unfold digB; simp; omega

theorem digB_str (l : List Int) (h : ∀ x ∈ l, 48 ≤ x ∧ x ≤ 57) : digB (strOfNums l).data.toList = true := by
  rw [strOfNums_data]
  unfold digB
  rw [List.all_map, List.all_eq_true]
  intro x hx
  have := h x hx
  have h2 : (UInt8.ofNat x.toNat).toNat = x.toNat % 256 := by simp
  simp only [Function.comp, h2, decide_eq_true_eq]
  omega

theorem pad2 (v : Int) : pad v 2 = [48 + v / 10 % 10, 48 + v % 10] := rfl
theorem pad4 (v : Int) : pad v 4 = [48 + v / 10 / 10 / 10 % 10, 48 + v / 10 / 10 % 10, 48 + v / 10 % 10, 48 + v % 10] := rfl

/-- The nineteen bytes of date and time. -/
def head (y mo d h mi s : Int) : List Int := pad y 4 ++ [45] ++ pad mo 2 ++ [45] ++ pad d 2 ++ [84] ++ pad h 2 ++ [58] ++ pad mi 2 ++ [58] ++ pad s 2
theorem head_length (y mo d h mi s : Int) : (head y mo d h mi s).length = 19 := by
  simp [head, pad_length]
theorem head_form (y mo d h mi s : Int) (k : Nat) (hk : k < 19) : (formAt k = 48 → 48 ≤ (head y mo d h mi s).getD k 0 ∧ (head y mo d h mi s).getD k 0 ≤ 57) ∧ (formAt k ≠ 48 → (head y mo d h mi s).getD k 0 = formAt k) := by
  unfold head
  rw [pad4, pad2, pad2, pad2, pad2, pad2]
  match k, hk with
  | 0, _ | 1, _ | 2, _ | 3, _ | 5, _ | 6, _ | 8, _ | 9, _ | 11, _ | 12, _ | 14, _ | 15, _ | 17, _ | 18, _ => exact ⟨fun _ => by simp; omega, fun h => absurd rfl h⟩
  | k + 19, h => exact absurd h (by omega)
  | 4, _ | 7, _ | 10, _ | 13, _ | 16, _ => exact ⟨fun h => absurd h (by decide), fun _ => rfl⟩
theorem head_isB (y mo d h mi s : Int) : isB (head y mo d h mi s) := by
  intro x hx
  unfold head at hx
  simp only [List.mem_append, List.mem_singleton] at hx
  rcases hx with ((((((((((hx | hx) | hx) | hx) | hx) | hx) | hx) | hx) | hx) | hx) | hx)
  all_goals first | (have := pad_dig _ _ x hx; omega) | omega

/-- The two digits of an offset's part against a bound: as the numbers are. -/
theorem le23 (v : Int) (h0 : 0 ≤ v) (h1 : v ≤ 99) : (Op.bytesLess (strOfNums (pad v 2)).toList [50, 51] || (strOfNums (pad v 2)).toList == [50, 51]) = decide (v ≤ 23) := by
  have : ∀ j : Fin 100, (Op.bytesLess (strOfNums (pad (j.val : Int) 2)).data.toList [50, 51] || (strOfNums (pad (j.val : Int) 2)).data.toList == [50, 51]) = decide ((j.val : Int) ≤ 23) := by decide
  have e := this ⟨v.toNat, by omega⟩
  have ev : ((v.toNat : Nat) : Int) = v := by omega
  simp only [ev] at e
  rw [ByteArray.toList_eq]; exact e
theorem le59 (v : Int) (h0 : 0 ≤ v) (h1 : v ≤ 99) : (Op.bytesLess (strOfNums (pad v 2)).toList [53, 57] || (strOfNums (pad v 2)).toList == [53, 57]) = decide (v ≤ 59) := by
  have : ∀ j : Fin 100, (Op.bytesLess (strOfNums (pad (j.val : Int) 2)).data.toList [53, 57] || (strOfNums (pad (j.val : Int) 2)).data.toList == [53, 57]) = decide ((j.val : Int) ≤ 59) := by decide
  have e := this ⟨v.toNat, by omega⟩
  have ev : ((v.toNat : Nat) : Int) = v := by omega
  simp only [ev] at e
  rw [ByteArray.toList_eq]; exact e

/-- The fraction, as it is rendered. -/
def fracL (nanos : Int) (f : Nat) : List Int := if f = 0 then [] else 46 :: (pad nanos 9).take f
/-- The zone, as it is rendered. -/
def zoneL (zulu west : Bool) (oh om : Int) : List Int := if zulu then [90] else [if west then 45 else 43] ++ pad oh 2 ++ [58] ++ pad om 2

theorem frac_isB (nanos : Int) (f : Nat) : isB (fracL nanos f) := by
  intro x hx
  unfold fracL at hx
  split at hx
  · simp at hx
  · rcases List.mem_cons.1 hx with rfl | hx
    · omega
    · have := pad_dig 9 nanos x (List.mem_of_mem_take hx); omega
theorem zone_isB (zulu west : Bool) (oh om : Int) : isB (zoneL zulu west oh om) := by
  intro x hx
  unfold zoneL at hx
  split at hx
  · simp at hx; omega
  · simp only [List.mem_append, List.mem_singleton] at hx
    rcases hx with ((hx | hx) | hx) | hx
    · split at hx <;> omega
    · have := pad_dig 2 oh x hx; omega
    · omega
    · have := pad_dig 2 om x hx; omega
theorem isB_append {a b : List Int} (ha : isB a) (hb : isB b) : isB (a ++ b) := fun x hx => by
  rcases List.mem_append.1 hx with h | h
  · exact ha x h
  · exact hb x h
theorem zone_length (zulu west : Bool) (oh om : Int) : (zoneL zulu west oh om).length = if zulu then 1 else 6 := by
  unfold zoneL; split <;> simp [pad_length]
theorem frac_length (nanos : Int) (f : Nat) (h : f ≤ 9) : (fracL nanos f).length = if f = 0 then 0 else f + 1 := by
  unfold fracL; split
  · rfl
  · simp [pad_length]; omega
/-- The zone's first byte. -/
theorem zone_first (zulu west : Bool) (oh om : Int) : (zoneL zulu west oh om).getD 0 0 = 90 ∨ (zoneL zulu west oh om).getD 0 0 = 45 ∨ (zoneL zulu west oh om).getD 0 0 = 43 := by
  unfold zoneL; cases zulu <;> cases west <;> simp

theorem zone_off (west : Bool) (oh om : Int) (h0 : 0 ≤ oh) (h1 : oh ≤ 99) (m0 : 0 ≤ om) (m1 : om ≤ 99) :
    Off (strOfNums (zoneL false west oh om)) (strOfNums (pad oh 2)) (strOfNums (pad om 2)) (decide (oh ≤ 23)) (decide (om ≤ 59)) := by
  have hb := zone_isB false west oh om
  have hl := zone_length false west oh om
  refine ⟨by rw [strOfNums_size]; exact hl, fun h => ?_, fun h => ?_, ?_, ?_, rfl, rfl, digB_str _ (pad_dig 2 oh), digB_str _ (pad_dig 2 om), (le23 oh h0 h1).symm, (le59 om m0 m1).symm⟩
  · rw [str_get _ hb]; unfold zoneL; cases west <;> simp
  · rw [str_get _ hb]; unfold zoneL; cases west <;> simp [pad2]
  · have : zoneL false west oh om = [if west then 45 else 43] ++ pad oh 2 ++ ([58] ++ pad om 2) := by simp [zoneL]
    rw [this]; exact str_mid _ _ _ 1 3 rfl rfl
  · have : zoneL false west oh om = ([if west then 45 else 43] ++ pad oh 2 ++ [58]) ++ pad om 2 := by simp [zoneL]
    rw [this]; exact str_tail _ _ 4 rfl

theorem time_law (y mo d h mi s nanos : Int) (f : Nat) (oh om : Int) (west zulu : Bool) (w : World) (hf9 : f ≤ 9) (h0 : 0 ≤ oh) (h1 : oh ≤ 99) (m0 : 0 ≤ om) (m1 : om ≤ 99) :
    Calls Try.prog 19 #[.string (strOfNums (head y mo d h mi s ++ fracL nanos f ++ zoneL zulu west oh om))] w fun e w' => e = .returned (.tuple #[.int .i64 f, .bool (zulu || (decide (oh ≤ 23) && decide (om ≤ 59)))]) ∧ ∃ n, w' = w.drewN n := by
  have hzl := zone_length zulu west oh om
  have hfl := frac_length nanos f hf9
  have hhl := head_length y mo d h mi s
  have hzb := zone_isB zulu west oh om
  have hfb := frac_isB nanos f
  have hhb := head_isB y mo d h mi s
  have hzlen : 1 ≤ (zoneL zulu west oh om).length ∧ (zoneL zulu west oh om).length ≤ 6 := by rw [hzl]; split <;> omega
  have hflen : (fracL nanos f).length ≤ 10 := by rw [hfl]; split <;> omega
  have hsz : (strOfNums (fracL nanos f ++ zoneL zulu west oh om)).size = (fracL nanos f).length + (zoneL zulu west oh om).length := by rw [strOfNums_size, List.length_append]
  refine time_walk _ (strOfNums (fracL nanos f ++ zoneL zulu west oh om)) (strOfNums (zoneL zulu west oh om)) (strOfNums (pad oh 2)) (strOfNums (pad om 2)) f _ (decide (oh ≤ 23)) (decide (om ≤ 59)) w ?_ ?_ ?_ ?_ (by omega) (by omega) ?_ ?_
  · rw [strOfNums_size, List.length_append, List.length_append]; omega
  · rw [strOfNums_size, List.length_append, List.length_append]; omega
  · intro k hk hk19
    have e := str_get _ (isB_append (isB_append hhb hfb) hzb) k hk
    have e2 : (head y mo d h mi s ++ fracL nanos f ++ zoneL zulu west oh om).getD k 0 = (head y mo d h mi s).getD k 0 := by
      rw [List.append_assoc, List.getD, List.getElem?_append_left (by omega), ← List.getD]
    rw [e2] at e
    have hf := head_form y mo d h mi s k hk19
    split
    · rename_i e48
      exact dig_one (hf.1 e48).1 (hf.1 e48).2 e
    · rename_i e48
      rw [e]; exact hf.2 e48
  · rw [List.append_assoc]; exact str_tail _ _ 19 hhl
  · by_cases hf0 : f = 0
    · subst hf0
      refine Or.inl ⟨rfl, rfl, ?_⟩
      rw [str_get _ (isB_append hfb hzb)]
      have := zone_first zulu west oh om
      show ([] ++ zoneL zulu west oh om).getD 0 0 ≠ 46
      rw [List.nil_append]; omega
    · have hfe : fracL nanos f = 46 :: (pad nanos 9).take f := by unfold fracL; rw [if_neg hf0]
      rw [if_neg hf0] at hfl
      refine Or.inr ⟨by omega, hf9, ?_, by omega, ?_, ?_, ?_⟩
      · rw [str_get _ (isB_append hfb hzb), hfe]; rfl
      · intro j hj h1j hjf
        obtain ⟨i, rfl⟩ : ∃ i, j = i + 1 := ⟨j - 1, by omega⟩
        have e := str_get _ (isB_append hfb hzb) (i + 1) hj
        rw [List.getD, List.getElem?_append_left (by omega)] at e
        have hjl : i < ((pad nanos 9).take f).length := by rw [List.length_take, pad_length]; omega
        have ef : (fracL nanos f)[i + 1]?.getD 0 = ((pad nanos 9).take f)[i] := by
          rw [hfe, List.getElem?_cons_succ, List.getElem?_eq_getElem hjl]; rfl
        rw [ef] at e
        have hm := pad_dig 9 nanos _ (List.mem_of_mem_take (List.getElem_mem hjl))
        exact dig_one hm.1 hm.2 e
      · intro hj
        have e := str_get _ (isB_append hfb hzb) (f + 1) hj
        rw [List.getD, List.getElem?_append_right (by omega), hfl, Nat.sub_self, ← List.getD] at e
        have := zone_first zulu west oh om
        exact dig_not (x := (zoneL zulu west oh om).getD 0 0) (by omega) e
      · exact str_tail _ _ (f + 1) hfl
  · cases zulu with
    | true => exact Or.inl ⟨rfl, rfl⟩
    | false => exact Or.inr ⟨zone_off west oh om h0 h1 m0 m1, rfl⟩

theorem zz_law (y mo d h mi s nanos : Int) (f : Nat) (oh om : Int) (west zulu : Bool) (w : World) (hf9 : f ≤ 9) (h0 : 0 ≤ oh) (h1 : oh ≤ 99) (m0 : 0 ≤ om) (m1 : om ≤ 99) :
    Calls Try.prog 13 #[.string (strOfNums (head y mo d h mi s ++ fracL nanos f ++ zoneL zulu west oh om))] w fun e w' => e = .returned (.tuple #[.int .i64 f, .bool (zulu || (decide (oh ≤ 23) && decide (om ≤ 59)))]) ∧ ∃ n, w' = w.drewN n := by
  have H : Hid _ := time_law y mo d h mi s nanos f oh om west zulu w hf9 h0 h1 m0 m1
  generalize strOfNums (head y mo d h mi s ++ fracL nanos f ++ zoneL zulu west oh om) = x at H
  generalize (zulu || (decide (oh ≤ 23) && decide (om ≤ 59))) = ok at H
  go_enter Try.func13, Try.ntmps13
  go_wp2_with fail
  refine Calls.mono H.out ?_
  rintro e w' ⟨rfl, n, rfl⟩
  go_wp2
  go_ret2
  exact ⟨rfl, n, rfl⟩
end Go.Proofs.Qxb6605258a
