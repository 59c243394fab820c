import Derived.Test.Qxb6605436aUnder
namespace Go.Proofs.Qxb6605436a
open Go.RowKit

/-- What the walk over the pieces knows at place k, the last piece having begun at st. -/
structure Inv (s : ByteArray) (st k : Nat) : Prop where
  le : st ≤ k
  kle : k ≤ s.size + 1
  fin : k = s.size + 1 → st = s.size + 1
  prev : st ≤ s.size → st = 0 ∨ (0 < st ∧ bt s (st - 1) = 95)
  clear : ∀ t, st ≤ t → t < k → t < s.size → bt s t ≠ 95
  left : ∀ p, p < st → p < s.size → LeftOk s p
  right : ∀ p, p + 1 < st → p < s.size → RightOk s p

theorem Inv.start (s : ByteArray) : Inv s 0 0 :=
  ⟨Nat.le_refl _, Nat.zero_le _, fun h => absurd h (by omega), fun _ => Or.inl rfl, fun t _ h => absurd h (by omega), fun p h => absurd h (by omega), fun p h => absurd h (by omega)⟩
theorem Inv.skip {s : ByteArray} {st k : Nat} (h : Inv s st k) (hk : k < s.size) (hne : bt s k ≠ 95) : Inv s st (k + 1) := by
  refine ⟨by have := h.le; omega, by omega, fun e => absurd e (by omega), h.prev, fun t h1 h2 h3 => ?_, h.left, h.right⟩
  by_cases e : t = k
  · rw [e]; exact hne
  · exact h.clear t h1 (by omega) h3
theorem Inv.cut {s : ByteArray} {st k : Nat} (h : Inv s st k) (hk : k ≤ s.size) (hu : k < s.size → bt s k = 95) (c1 : 0 < st → st < k ∧ isd (bt s st) = true) (c2 : k < s.size → st < k ∧ isd (bt s (k - 1)) = true) : Inv s (k + 1) (k + 1) := by
  refine ⟨Nat.le_refl _, by omega, fun e => e, fun e => Or.inr ⟨by omega, hu (by omega)⟩, fun t a b => absurd b (by omega), fun p hp hs => ?_, fun p hp hs => ?_⟩
  · by_cases e1 : p < st
    · exact h.left p e1 hs
    · by_cases e2 : p = k
      · subst e2; intro _; have := c2 hs; exact ⟨by omega, this.2⟩
      · exact fun e => absurd e (h.clear p (by omega) (by omega) hs)
  · by_cases e1 : p + 1 < st
    · exact h.right p e1 hs
    · by_cases e2 : p + 1 = st
      · have := c1 (by omega)
        intro _
        rw [e2]
        exact ⟨by omega, this.2⟩
      · exact fun e => absurd e (h.clear p (by omega) (by omega) hs)
theorem Inv.bad1 {s : ByteArray} {st k : Nat} (h : Inv s st k) (hk : k ≤ s.size) (hu : k < s.size → bt s k = 95) (h0 : 0 < st) (hb : st = k ∨ isd (bt s st) = false) : ¬ Good s := by
  intro g
  have hle := h.le
  have hp := (h.prev (by omega)).resolve_left (by omega)
  have hr := (g (st - 1) (by omega)).2 hp.2
  rw [show st - 1 + 1 = st by omega] at hr
  rcases hb with e | e
  · subst e
    rw [hu hr.1] at hr
    exact absurd hr.2 (by decide)
  · rw [e] at hr; exact absurd hr.2 (by decide)
theorem Inv.bad2 {s : ByteArray} {st k : Nat} (h : Inv s st k) (hk : k < s.size) (hu : bt s k = 95) (hb : st = k ∨ isd (bt s (k - 1)) = false) : ¬ Good s := by
  intro g
  have hl := (g k hk).1 hu
  rcases hb with e | e
  · subst e
    have hp := (h.prev (by omega)).resolve_left (by omega)
    rw [hp.2] at hl
    exact absurd hl.2 (by decide)
  · rw [e] at hl; exact absurd hl.2 (by decide)
theorem Inv.good {s : ByteArray} {st k : Nat} (h : Inv s st k) (hk : s.size < k) : Good s := by
  have e := h.fin (by have := h.kle; omega)
  exact fun p hp => ⟨h.left p (by omega) hp, h.right p (by omega) hp⟩

theorem isDig_any (c : Int) (w : World) : Calls Try.prog 12 #[.int .u8 c] w fun e w' => e = .returned (.bool (isd c)) ∧ w' = w := by
  by_cases h1 : 48 ≤ c
  · by_cases h2 : c ≤ 57
    · go_enter Try.func12, Try.ntmps12
      go_wp2
      go_ret
      exact ⟨ret_bool (by unfold isd; simp; omega), rfl⟩
    · go_enter Try.func12, Try.ntmps12
      go_wp2
      go_ret
      exact ⟨ret_bool (by unfold isd; simp; omega), rfl⟩
  · go_enter Try.func12, Try.ntmps12
    go_wp2
    go_ret
    exact ⟨ret_bool (by unfold isd; simp; omega), rfl⟩
theorem dig_yes (c : Int) (h : isd c = true) (w : World) : Calls Try.prog 12 #[.int .u8 c] w fun e w' => e = .returned (.bool true) ∧ w' = w := by
  have := isDig_any c w; rw [h] at this; exact this
theorem dig_no (c : Int) (h : isd c = false) (w : World) : Calls Try.prog 12 #[.int .u8 c] w fun e w' => e = .returned (.bool false) ∧ w' = w := by
  have := isDig_any c w; rw [h] at this; exact this

theorem len_data (s : ByteArray) : s.data.toList.length = s.size := Array.length_toList
theorem piece_size (s : ByteArray) (a b : Nat) (hb : b ≤ s.size) : (s.extract a b).size = b - a := by
  rw [ByteArray.size_extract]; omega
theorem piece_bt (s : ByteArray) (a b i : Nat) (hb : b ≤ s.size) (hi : a + i < b) : bt (s.extract a b) i = bt s (a + i) := by
  have h1 : i < (s.extract a b).size := by rw [piece_size s a b hb]; omega
  unfold bt
  rw [dif_pos h1, dif_pos (by omega)]
  have e1 : (s.extract a b).data.toList[i]? = some ((s.extract a b)[i]'h1) := by
    rw [List.getElem?_eq_getElem (by rw [len_data]; exact h1)]; rfl
  have e2 : s.data.toList[a + i]? = some (s[a + i]'(by omega)) := by
    rw [List.getElem?_eq_getElem (by rw [len_data]; omega)]; rfl
  rw [Lib.extract_data, List.getElem?_take_of_lt (by omega), List.getElem?_drop, e2] at e1
  injection e1 with e1
  rw [e1]
theorem empty_of {s : ByteArray} (h : s.size = 0) : s.toList.isEmpty = true := by
  rw [ByteArray.toList_eq, List.isEmpty_iff, ← List.length_eq_zero_iff, len_data]; exact h
theorem not_empty {s : ByteArray} (h : 0 < s.size) : s.toList.isEmpty = false := by
  rw [ByteArray.toList_eq]
  cases e : s.data.toList.isEmpty with
  | false => rfl
  | true => rw [List.isEmpty_iff, ← List.length_eq_zero_iff, len_data] at e; omega

set_option maxHeartbeats 8000000 in
theorem pieces_any (s : ByteArray) (w : World) (hs : s.size ≤ 2000000) :
    Calls Try.prog 9 #[.string s] w fun e w' => Tells e (Good s) ∧ w' = w := by
  have hb := get_bt s
  go_enter Try.func9, Try.ntmps9
  go_wp2
  go_loop [3, 4] (fun a j => ∃ st k : Nat, a = .int .i64 st ∧ j = .int .i64 k ∧ Inv s st k) (fun _ j => s.size + 1 - (intOf j).toNat)
  case atStart => exact ⟨0, 0, rfl, rfl, Inv.start s⟩
  case round =>
    obtain ⟨st, k, rfl, rfl, hi⟩ := hrel
    have HI : Hid _ := hi
    have hle := hi.le
    have hkle := hi.kle
    clear hi
    by_cases hend : s.size < k
    · go_wp2
      go_ret
      exact ⟨tells_yes (Inv.good HI.out hend), rfl⟩
    · by_cases hsk : k < s.size ∧ bt s k ≠ 95
      · obtain ⟨hlt, h95⟩ := hsk
        have hno : (bt s k == 95) = false := by simpa using h95
        have HI2 : Hid _ := Inv.skip HI.out hlt h95
        clear h95
        go_wp2
        go_round
        case rel => exact ⟨st, k + 1, rfl, by go_num, HI2.out⟩
        case measure => simp [intOf]; omega
      · have hu : k < s.size → bt s k = 95 := fun h => by
          by_cases e : bt s k = 95
          · exact e
          · exact absurd ⟨h, e⟩ hsk
        have HU : Hid _ := hu
        clear hu hsk
        have hks : k ≤ s.size := by omega
        have hxz := piece_size s st k hks
        have hx0 : st < k → bt (s.extract st k) 0 = bt s st := fun h => by rw [piece_bt s st k 0 hks (by omega), Nat.add_zero]
        have hxl : st < k → bt (s.extract st k) (k - st - 1) = bt s (k - 1) := fun h => by
          rw [piece_bt s st k _ hks (by omega)]; congr 1; omega
        generalize hx : s.extract st k = x at hxz hx0 hxl
        have hbx := get_bt x
        by_cases h0 : 0 < st
        · by_cases hsk1 : st < k
          · cases hd : isd (bt s st) with
            | false =>
              have HD : Hid _ := hd
              have hne := not_empty (s := x) (by omega)
              have hx0' := hx0 hsk1
              clear hd hx0 hxl
              by_cases hlt : k < s.size
              · have h95 := HU.out hlt
                go_wp2_with fail
                refine (dig_no _ HD.out _).mono ?_
                rintro e w' ⟨rfl, rfl⟩
                go_wp2
                go_ret
                exact ⟨tells_no (Inv.bad1 HI.out hks HU.out h0 (Or.inr HD.out)), rfl⟩
              · go_wp2_with fail
                refine (dig_no _ HD.out _).mono ?_
                rintro e w' ⟨rfl, rfl⟩
                go_wp2
                go_ret
                exact ⟨tells_no (Inv.bad1 HI.out hks HU.out h0 (Or.inr HD.out)), rfl⟩
            | true =>
              have HD : Hid _ := hd
              clear hd
              have C1 : Hid (0 < st → st < k ∧ isd (bt s st) = true) := fun _ => ⟨hsk1, HD.out⟩
              by_cases hlt : k < s.size
              · have h95 := HU.out hlt
                by_cases hsk : st < k
                · have hne := not_empty (s := x) (by omega)
                  have hx0' := hx0 hsk
                  have hxl' := hxl hsk
                  clear hx0 hxl
                  cases hl : isd (bt s (k - 1)) with
                  | false =>
                    have HLD : Hid _ := hl
                    clear hl
                    go_wp2_with fail
                    refine (dig_yes _ HD.out _).mono ?_
                    rintro e w' ⟨rfl, rfl⟩
                    go_wp2_with fail
                    refine (dig_no _ HLD.out _).mono ?_
                    rintro e w' ⟨rfl, rfl⟩
                    go_wp2
                    go_ret
                    exact ⟨tells_no (Inv.bad2 HI.out hlt (HU.out hlt) (Or.inr HLD.out)), rfl⟩
                  | true =>
                    have HLD : Hid _ := hl
                    clear hl
                    have HN : Hid _ := Inv.cut HI.out hks HU.out C1.out (fun _ => ⟨hsk, HLD.out⟩)
                    go_wp2_with fail
                    refine (dig_yes _ HD.out _).mono ?_
                    rintro e w' ⟨rfl, rfl⟩
                    go_wp2_with fail
                    refine (dig_yes _ HLD.out _).mono ?_
                    rintro e w' ⟨rfl, rfl⟩
                    go_wp2
                    go_round
                    case rel => exact ⟨k + 1, k + 1, by go_num, by go_num, HN.out⟩
                    case measure => simp [intOf]; omega
                · have hkk : st = k := by omega
                  have HKK : Hid _ := hkk
                  clear hx0 hxl hkk
                  have hem := empty_of (s := x) (by omega)
                  first
                    | (exfalso; omega)
                    | (go_wp2
                       go_ret
                       exact ⟨tells_no (Inv.bad2 HI.out hlt (HU.out hlt) (Or.inl HKK.out)), rfl⟩)
              · have HN : Hid _ := Inv.cut HI.out hks HU.out C1.out (fun h => absurd h hlt)
                by_cases hsk : st < k
                · have hne := not_empty (s := x) (by omega)
                  have hx0' := hx0 hsk
                  clear hx0 hxl
                  go_wp2_with fail
                  refine (dig_yes _ HD.out _).mono ?_
                  rintro e w' ⟨rfl, rfl⟩
                  go_wp2
                  go_round
                  case rel => exact ⟨k + 1, k + 1, by go_num, by go_num, HN.out⟩
                  case measure => simp [intOf]; omega
                · clear hx0 hxl
                  first
                    | (exfalso; omega)
                    | (go_wp2
                       go_round
                       case rel => exact ⟨k + 1, k + 1, by go_num, by go_num, HN.out⟩
                       case measure => simp [intOf]; omega)
          · have hkk : st = k := by omega
            have HKK : Hid _ := hkk
            clear hx0 hxl hkk
            have hem := empty_of (s := x) (by omega)
            by_cases hlt : k < s.size
            · have h95 := HU.out hlt
              go_wp2
              go_ret
              exact ⟨tells_no (Inv.bad1 HI.out hks HU.out h0 (Or.inl HKK.out)), rfl⟩
            · go_wp2
              go_ret
              exact ⟨tells_no (Inv.bad1 HI.out hks HU.out h0 (Or.inl HKK.out)), rfl⟩
        · have C1 : Hid (0 < st → st < k ∧ isd (bt s st) = true) := fun h => absurd h h0
          by_cases hlt : k < s.size
          · have h95 := HU.out hlt
            by_cases hsk : st < k
            · have hne := not_empty (s := x) (by omega)
              have hx0' := hx0 hsk
              have hxl' := hxl hsk
              clear hx0 hxl
              cases hl : isd (bt s (k - 1)) with
              | false =>
                have HLD : Hid _ := hl
                clear hl

                go_wp2_with fail
                refine (dig_no _ HLD.out _).mono ?_
                rintro e w' ⟨rfl, rfl⟩
                go_wp2
                go_ret
                exact ⟨tells_no (Inv.bad2 HI.out hlt (HU.out hlt) (Or.inr HLD.out)), rfl⟩
              | true =>
                have HLD : Hid _ := hl
                clear hl
                have HN : Hid _ := Inv.cut HI.out hks HU.out C1.out (fun _ => ⟨hsk, HLD.out⟩)

                go_wp2_with fail
                refine (dig_yes _ HLD.out _).mono ?_
                rintro e w' ⟨rfl, rfl⟩
                go_wp2
                go_round
                case rel => exact ⟨k + 1, k + 1, by go_num, by go_num, HN.out⟩
                case measure => simp [intOf]; omega
            · have hkk : st = k := by omega
              have HKK : Hid _ := hkk
              clear hx0 hxl hkk
              have hem := empty_of (s := x) (by omega)
              first
                | (go_wp2
                   go_ret
                   exact ⟨tells_no (Inv.bad2 HI.out hlt (HU.out hlt) (Or.inl HKK.out)), rfl⟩)
          · have HN : Hid _ := Inv.cut HI.out hks HU.out C1.out (fun h => absurd h hlt)
            by_cases hsk : st < k
            · have hne := not_empty (s := x) (by omega)
              have hx0' := hx0 hsk
              clear hx0 hxl

              go_wp2
              go_round
              case rel => exact ⟨k + 1, k + 1, by go_num, by go_num, HN.out⟩
              case measure => simp [intOf]; omega
            · clear hx0 hxl
              first
                | (go_wp2
                   go_round
                   case rel => exact ⟨k + 1, k + 1, by go_num, by go_num, HN.out⟩
                   case measure => simp [intOf]; omega)
end Go.Proofs.Qxb6605436a
