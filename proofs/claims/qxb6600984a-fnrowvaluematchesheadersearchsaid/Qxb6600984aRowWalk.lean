import Derived.Test.Qxb6600984aRow
import Derived.Deep.RegionHeld3
namespace Go.Proofs.Qxb6600984a
open Go.RowKit Go.Maps Go.WideMaps

theorem makeMap_eq (n : Nat) (w : World) : (Instr.makeMap 39 (some (.int .i64 (n : Int)))).run Try.prog w = .ok (.map (some w.heap.size)) (w.alloc (.map #[] 0)) := by
  simp [Instr.makeMap, run_underlying Try.underlying39, asInt]
  rfl

/-- What the linear search has found among the first j columns. -/
def Want (hs fs : List ByteArray) (s : ByteArray) (j : Nat) (t : ByteArray) : Prop :=
  (∃ i, i < j ∧ hs.getD i ByteArray.empty = s ∧ t = fs.getD i ByteArray.empty) ∨ ((∀ i, i < j → hs.getD i ByteArray.empty ≠ s) ∧ t = ⟨#[]⟩)
theorem Want.start (hs fs : List ByteArray) (s : ByteArray) : Want hs fs s 0 ⟨#[]⟩ := Or.inr ⟨fun i hi => absurd hi (by omega), rfl⟩
theorem Want.hit {hs fs : List ByteArray} {s : ByteArray} {j : Nat} (h : hs.getD j ByteArray.empty = s) : Want hs fs s (j + 1) (fs.getD j ByteArray.empty) := Or.inl ⟨j, by omega, h, rfl⟩
theorem Want.miss {hs fs : List ByteArray} {s : ByteArray} {j : Nat} {t : ByteArray} (hw : Want hs fs s j t) (h : hs.getD j ByteArray.empty ≠ s) : Want hs fs s (j + 1) t := by
  rcases hw with ⟨i, hi, a, b⟩ | ⟨a, b⟩
  · exact Or.inl ⟨i, by omega, a, b⟩
  · refine Or.inr ⟨fun i hi => ?_, b⟩
    by_cases e : i = j
    · subst e; exact h
    · exact a i (by omega)
theorem beq_no {x s : ByteArray} (h : x ≠ s) : (x.toList == s.toList) = false := by
  cases he : (x.toList == s.toList) with
  | false => rfl
  | true => exact absurd (toList_inj (eq_of_beq he)) h

/-- Row.Value answers what the linear search has found. -/
theorem value_want (cb m n : Nat) (ad : Option Addr) (len cap : Nat) (hs fs : List ByteArray) (s t : ByteArray) (w : World) (hcb : cb < w.heap.size) (hcsv : w.cell? ⟨cb, 2, none⟩ = some (.map (some m))) (hm : ColMap w m n hs) (hsz : s.size ≤ maxLen)
    (hlf : fs.length = len) (hlh : hs.length = len) (hc : Cells w ad fs) (hw : Want hs fs s len t) :
    Calls Try.prog 20 #[.agg #[.pointer (some ⟨cb, 0, none⟩), .int .i64 0, .slice ad len cap], .string s] w fun e w' => e = .returned (.string t) ∧ w' = w.alloc (.cells #[.pointer (some ⟨cb, 0, none⟩), .int .i64 0, .slice ad len cap] 43) := by
  rcases hw with ⟨i, hi, a, rfl⟩ | ⟨a, rfl⟩
  · exact value_yes cb m n ad len cap hs fs s w hcb hcsv hm hsz hlf hlh hc i hi a
  · refine value_no cb m n ad len cap hs s w hcb hcsv hm hsz (fun hmem => ?_)
    obtain ⟨i, hi⟩ := List.getElem?_of_mem hmem
    have hil := (List.getElem?_eq_some_iff.1 hi).1
    exact a i (by omega) (by rw [List.getD, hi]; rfl)

set_option maxHeartbeats 4000000 in
theorem row_walk (adh adf : Option Addr) (lh ch lf cf : Nat) (hs fs : List ByteArray) (s : ByteArray) (w : World) (hlh : hs.length = lh) (hlf : fs.length = lf) (hbh : lh ≤ 9000000000000) (hbf : lf ≤ 9000000000000)
    (hch : Cells w adh hs) (hcf : Cells w adf fs) (hsz : s.size ≤ maxLen) (hszh : ∀ x ∈ hs, x.size ≤ maxLen) :
    Calls Try.prog 6 #[.slice adh lh ch, .slice adf lf cf, .string s] w fun e w' => e = .returned (.bool true) ∧ Below w.heap.size w w' := by
  go_enter Try.func6, Try.ntmps6
  go_wp2_with fail
  refine (zz18_any adh adf lh ch lf cf hs fs s _ hlh hbh hch hlf hbf hcf).mono ?_
  rintro e w' ⟨⟨b, rfl⟩, rfl⟩
  have HH : Hid (hs.length = lh) := hlh
  have HF : Hid (fs.length = lf) := hlf
  clear hlh hlf
  cases b with
  | false =>
    go_wp2
    go_ret
    exact ⟨rfl, Below.refl _ _⟩
  | true =>
    by_cases h1 : 65536 < lh
    · go_wp2
      go_ret
      exact ⟨rfl, Below.refl _ _⟩
    by_cases h2 : 65536 < lf
    · go_wp2
      go_ret
      exact ⟨rfl, Below.refl _ _⟩
    by_cases h3 : 1048576 < s.size
    · go_wp2
      go_ret
      exact ⟨rfl, Below.refl _ _⟩
    go_wp2_with fail
    refine (stringsBytes_any adh lh ch hs _ HH.out hbh hch).mono ?_
    rintro e w' ⟨⟨t1, rfl⟩, rfl⟩
    go_wp2_with fail
    refine (stringsBytes_any adf lf cf fs _ HF.out hbf hcf).mono ?_
    rintro e w' ⟨⟨t2, rfl⟩, rfl⟩
    by_cases h4 : lf = lh
    case neg =>
      go_wp2
      · go_ret
        exact ⟨rfl, Below.refl _ _⟩
      · go_ret
        exact ⟨rfl, Below.refl _ _⟩
    subst h4
    go_wp2_with fail
    · go_ret
      exact ⟨rfl, Below.refl _ _⟩
    refine (cloneStrings_any adh lf ch hs _ HH.out hbh hch).mono ?_
    rintro e w1 ⟨adh', ch', rfl, hch1, hah1, hB1⟩
    have hcf1 := hcf.below hB1
    clear hch hcf hbh h2
    go_wp2_with fail
    refine (cloneStrings_any adf lf cf fs _ HF.out hbf hcf1).mono ?_
    rintro e w2 ⟨adf', cf', rfl, hcf2, haf2, hB2⟩
    have hch2 := hch1.below hB2
    have hah2 : ∀ a, adh' = some a → a.block < w2.heap.size := fun a h => Nat.lt_of_lt_of_le (hah1 a h) hB2.size
    have hB := hB1.trans (hB2.mono hB1.size)
    clear hcf1 hch1 hB1 hB2 hah1
    have hmm := makeMap_eq lf
    go_wp2
    go_loopw [8] (fun i wr => ∃ k : Nat, k ≤ lf ∧ i = .int .i64 k ∧ ColMap wr w2.heap.size k (hs.take k) ∧ Cells wr adh' hs ∧ Cells wr adf' fs ∧ Below w2.heap.size w2 wr) (fun i _ => lf - (intOf i).toNat)
    case atStart => exact ⟨0, Nat.zero_le _, rfl, ColMap.made _, hch2.below ((Below.refl _ _).alloc (Nat.le_refl _) _), hcf2.below ((Below.refl _ _).alloc (Nat.le_refl _) _), (Below.refl _ _).alloc (Nat.le_refl _) _⟩
    case round =>
      obtain ⟨k, hk, rfl, hcol, hch3, hcf3, hBr⟩ := hrel
      by_cases hlt : k < lf
      · have hlt' : k < hs.length := by rw [HH.out]; exact hlt
        obtain ⟨bh, offh, rfl, hbb, hcell⟩ := hch3 k hlt'
        have hkm : hs.getD k ByteArray.empty ∈ hs := by rw [List.getD, List.getElem?_eq_getElem hlt']; exact List.getElem_mem _
        have htk : hs.take (k + 1) = hs.take k ++ [hs.getD k ByteArray.empty] := by
          rw [List.take_succ_eq_append_getElem hlt', List.getD, List.getElem?_eq_getElem hlt']; rfl
        have HT : Hid (hs.take (k + 1) = hs.take k ++ [hs.getD k ByteArray.empty]) := htk
        have hkz := hszh _ hkm
        have HL : Hid ((hs.take k).length = k) := (by rw [List.length_take]; omega : (hs.take k).length = k)
        generalize hx : hs.getD k ByteArray.empty = x at hcell hkz HT
        clear hkm htk hlt'
        obtain ⟨c, hlook, _⟩ := hcol.look x hkz
        by_cases hin : x ∈ hs.take k
        · rw [inB_true hin] at hlook
          go_wp2
          go_ret
          exact ⟨rfl, hB.trans (hBr.mono hB.size)⟩
        · rw [inB_false hin] at hlook
          obtain ⟨w4, hst, hcol', hg⟩ := hcol.store x hkz (by unfold maxLen; omega) hin (by rw [HL.out]; omega)
          rw [HL.out] at hst
          have hch4 := hch3.grown hg (fun a h => Nat.ne_of_lt (hah2 a h))
          have hcf4 := hcf3.grown hg (fun a h => Nat.ne_of_lt (haf2 a h))
          have hB4 : Below w2.heap.size w2 w4 := hBr.grown hg hBr.size (fun k e => by cases e; exact Nat.le_refl _)
          have HI : Hid (ColMap w4 w2.heap.size (k + 1) (hs.take (k + 1))) := by rw [HT.out]; exact hcol'
          clear hcol hcol' hch3 hcf3 hBr hg hin
          go_wp2
          go_roundw
          case rel => exact ⟨k + 1, by omega, by go_num, HI.out, hch4, hcf4, hB4⟩
          case measure => simp [intOf]; omega
      · have hkl : k = lf := by omega
        subst hkl
        have hcol' : ColMap wr w2.heap.size k hs := by
          have : hs.take k = hs := List.take_of_length_le (by rw [HH.out]; exact Nat.le_refl _)
          rw [this] at hcol; exact hcol
        clear hcol hch2 hcf2
        go_wp2_with fail
        refine (makeRow_any w2.heap.size adf' k cf' _).mono ?_
        rintro e w5 ⟨rfl, hcsv, hsz5, hB5⟩
        have hch5 := hch3.below hB5
        have hcf5 := hcf3.below hB5
        have hcol5 := hcol'.below hB5
        have hBw := (hB.trans (hBr.mono hB.size)).trans (hB5.mono (Nat.le_trans hB.size hBr.size))
        have hrb : wr.heap.size + 1 < w5.heap.size := by omega
        have hsw := hBw.size
        clear hch3 hcf3 hcol' hB hBr hB5 hsz5
        generalize wr.heap.size + 1 = cb at *
        generalize w2.heap.size = m at *
        go_wp2_with fail
        go_loop [12, 13] (fun want i => ∃ (j : Nat) (t : ByteArray), j ≤ k ∧ i = .int .i64 j ∧ want = .string t ∧ Want hs fs s j t) (fun _ i => k - (intOf i).toNat)
        case atStart => exact ⟨0, _, Nat.zero_le _, rfl, rfl, Want.start _ _ _⟩
        case round =>
          obtain ⟨j, t, hj, rfl, rfl, hw⟩ := hrel
          by_cases hlt : j < k
          · obtain ⟨bh, offh, rfl, hbb, hcell⟩ := hch5 j (by rw [HH.out]; exact hlt)
            obtain ⟨bf, offf, rfl, hbf, hcelf⟩ := hcf5 j (by rw [HF.out]; exact hlt)
            by_cases hx : hs.getD j ByteArray.empty = s
            · have HW : Hid (Want hs fs s (j + 1) (fs.getD j ByteArray.empty)) := Want.hit hx
              rw [hx] at hcell
              generalize fs.getD j ByteArray.empty = y at hcelf HW
              clear hw hx hcol5 hch5 hcf5
              go_wp2
              go_round
              case rel => exact ⟨j + 1, _, by omega, by go_num, rfl, HW.out⟩
              case measure => simp [intOf]; omega
            · have HW : Hid (Want hs fs s (j + 1) t) := hw.miss hx
              have hno := beq_no hx
              generalize hs.getD j ByteArray.empty = x at hcell hno
              clear hw hx hcol5 hch5 hcf5 hcelf
              go_wp2
              go_round
              case rel => exact ⟨j + 1, _, by omega, by go_num, rfl, HW.out⟩
              case measure => simp [intOf]; omega
          · have hjk : j = k := by omega
            subst hjk
            have hB6 : Below w5.heap.size w5 (w5.alloc (.cells #[.pointer (some ⟨cb, 0, none⟩), .int .i64 0, .slice adf' j cf'] 43)) := (Below.refl _ _).alloc (Nat.le_refl _) _
            go_wp2_with fail
            refine (value_want cb m j adf' j cf' hs fs s t _ (by simp; omega) ((hB6.cell (p := ⟨cb, 2, none⟩) hrb).trans hcsv) (hcol5.below hB6) hsz HF.out HH.out (hcf5.below hB6) hw).mono ?_
            rintro e w7 ⟨rfl, rfl⟩
            clear hw
            go_wp2
            go_loopw [14] (fun i wr => ∃ k : Nat, k ≤ j ∧ i = .int .i64 k ∧ Below (w5.heap.size + 1) (w5.alloc (.cells #[.pointer (some ⟨cb, 0, none⟩), .int .i64 0, .slice adf' j cf'] 43)) wr) (fun i _ => j - (intOf i).toNat)
            case atStart => exact ⟨0, Nat.zero_le _, rfl, (Below.refl _ _).alloc (by simp) _⟩
            case round =>
              obtain ⟨k, hk, rfl, hBr⟩ := hrel
              have hBr5 := hB6.trans (hBr.mono (Nat.le_succ _))
              by_cases hlt : k < j
              · have hz5 : w5.heap.size < wr.heap.size := by have := hBr.size; simp at this; omega
                have hrow : ∀ i v, #[Value.pointer (some ⟨cb, 0, none⟩), .int .i64 0, .slice adf' j cf'][i]? = some v → wr.cell? ⟨w5.heap.size, i, none⟩ = some v := fun i v hv =>
                  (hBr.cell (p := ⟨w5.heap.size, i, none⟩) (Nat.lt_succ_self _)).trans ((World.cell?_alloc_at _ _ _ _ rfl).trans hv)
                have hr0 := hrow 0 _ rfl
                have hr1 := hrow 1 _ rfl
                have hr2 := hrow 2 _ rfl
                have hcolr := hcol5.below hBr5
                have hchr := hch5.below hBr5
                have hcfr := hcf5.below hBr5
                have hcsvr := (hBr5.cell (p := ⟨cb, 2, none⟩) hrb).trans hcsv
                have hkm : hs.getD k ByteArray.empty ∈ hs := by rw [List.getD, List.getElem?_eq_getElem (by rw [HH.out]; exact hlt)]; exact List.getElem_mem _
                have hkz := hszh _ hkm
                have HV : Hid (∀ W, Below wr.heap.size wr W → Calls Try.prog 20 #[.agg #[.pointer (some ⟨cb, 0, none⟩), .int .i64 0, .slice adf' j cf'], .string (hs.getD k ByteArray.empty)] W fun e w' => e = .returned (.string (fs.getD k ByteArray.empty)) ∧ w' = W.alloc (.cells #[.pointer (some ⟨cb, 0, none⟩), .int .i64 0, .slice adf' j cf'] 43)) :=
                  fun W hW => value_yes cb m j adf' j cf' hs fs _ W (Nat.lt_of_lt_of_le (Nat.lt_trans hrb hz5) hW.size) ((hW.cell (p := ⟨cb, 2, none⟩) (Nat.lt_trans hrb hz5)).trans hcsvr) (hcolr.below hW) hkz HF.out HH.out (hcfr.below hW) k hlt rfl
                obtain ⟨bh, offh, rfl, hbb, hcell⟩ := hchr k (by rw [HH.out]; exact hlt)
                obtain ⟨bf, offf, rfl, hbf, hcelf⟩ := hcfr k (by rw [HF.out]; exact hlt)
                generalize hs.getD k ByteArray.empty = x at hcell HV
                generalize fs.getD k ByteArray.empty = y at hcelf HV
                clear hcol5 hch5 hcf5 hB6 hcolr hchr hcfr hcsvr hkm hkz hrow hBr5 hcsv
                have hi0 : (0 : Int) ≤ (k : Int) := by omega
                have hi1 : (k : Int) < (j : Int) := by omega
                go_wp2_with fail
                go_region_held3 (fun w' => w'.cell? ⟨w5.heap.size, 0, none⟩ = some (.pointer (some ⟨cb, 0, none⟩)) ∧ w'.cell? ⟨w5.heap.size, 1, none⟩ = some (.int .i64 0) ∧ w'.cell? ⟨w5.heap.size, 2, none⟩ = some (.slice (some ⟨bf, offf, none⟩) j cf') ∧ w'.cell? ⟨bh, offh + k, none⟩ = some (.string x) ∧ w'.cell? ⟨bf, offf + k, none⟩ = some (.string y)) (go_keep)
                  (first | (go_at_call 20; refine (HV.out _ ?_).mono ?_; (exact (Below.refl _ _).drew); rintro e w' ⟨rfl, rfl⟩))
                go_wp2
                go_roundw
                case rel => exact ⟨k + 1, by omega, by go_num, (hBr.drew).alloc (Nat.succ_le_of_lt hz5) _⟩
                case measure => simp [intOf]; omega
              · have hfin := hBw.trans (hBr5.mono hsw)
                clear hcol5 hch5 hcf5 hBr hBr5 hB6
                go_wp2
                go_ret
                exact ⟨rfl, hfin⟩
end Go.Proofs.Qxb6600984a
