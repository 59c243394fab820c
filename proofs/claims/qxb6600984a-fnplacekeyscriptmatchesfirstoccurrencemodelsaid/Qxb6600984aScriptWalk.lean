import Derived.Test.Qxb6600984aScript
namespace Go.Proofs.Qxb6600984a
open Go.RowKit Go.Maps Go.WideMaps

theorem st_start {W0 w2 : World} {adk adl : Option Addr} {keys : List ByteArray} {lines : List Int} {B : Nat} {top : Int} {n : Nat} (hB : Below B W0 w2) (hBs : B ≤ w2.heap.size) (hk : Cells w2 adk keys) (hl : ICells w2 adl lines) :
    St W0 ((w2.alloc (.cells (placeC top (.map none)) 50)).alloc (.cells (madeCells #[.pointer none] n) 33)) adk adl keys lines w2.heap.size (w2.heap.size + 1) B top n 0 0 [] := by
  have hb2 : Below w2.heap.size w2 ((w2.alloc (.cells (placeC top (.map none)) 50)).alloc (.cells (madeCells #[.pointer none] n) 33)) := ((Below.refl _ _).alloc (Nat.le_refl _) _).alloc (by simp) _
  refine ⟨rfl, hB.trans (hb2.mono hBs), by simp, Or.inl ⟨rfl, ?_⟩, ⟨madeCells #[.pointer none] n, ?_, size_madeCells _ _, fun j hj => absurd hj (by omega)⟩, hk.below hb2, hl.below hb2, fun i hi => absurd hi (by omega), fun i hi => absurd hi (by omega)⟩
  · rw [Below.heap_alloc _ _ _ (by simp)]; exact heap_alloc_new _ _
  · have := heap_alloc_new (w2.alloc (.cells (placeC top (.map none)) 50)) (.cells (madeCells #[.pointer none] n) 33)
    simpa using this

theorem cell_set_far {w : World} {g k b o : Nat} {v : Value} (h : b ≠ g) : (w.setCell ⟨g, k, none⟩ v).cell? ⟨b, o, none⟩ = w.cell? ⟨b, o, none⟩ :=
  World.cell?_of_block (w := w) (Below.heap_setCell _ _ _ _ h)

theorem eql_ptr_other {w : World} {a b : Nat} (hne : a ≠ b) {x y : Int} {m1 m2 : Value} (ha : w.heap[a]? = some (.cells (placeC x m1) 50)) (hb : w.heap[b]? = some (.cells (placeC y m2) 50)) (q : Nat) :
    (binOp .eql 33 (.pointer (some ⟨a, 0, none⟩)) (.pointer (some ⟨b, 0, none⟩))).run Try.prog (w.drewN q) = .ok (.bool false) (w.drewN q) := by
  obtain ⟨i, hi, hs⟩ : ∃ i, Try.prog.info? 50 = some i ∧ i.size ≠ 0 := by
    have h : (Try.prog.info? 50).map (fun i => decide (i.size ≠ 0)) = some true := by kernel_rfl
    obtain ⟨i, hi, e⟩ := Option.map_eq_some_iff.1 h
    exact ⟨i, hi, of_decide_eq_true e⟩
  exact run_eql_ptr_other (P := Try.prog) (w.drewN q) Try.underlying33 hi hs (by intro e; injection e with e; exact hne e) ha hb

theorem toList_beq_no {x s : ByteArray} (h : x ≠ s) : (x.toList == s.toList) = false := by
  cases he : (x.toList == s.toList) with
  | false => rfl
  | true => exact absurd (toList_inj (eq_of_beq he)) h

/-- What the second half of the law reads. -/
structure Seen (w : World) (keys : List ByteArray) (lines : List Int) (bk offk bl offl gb n : Nat) (G : List Nat) : Prop where
  key : ∀ j, j < n → w.cell? ⟨bk, offk + j, none⟩ = some (.string (keys.getD j ByteArray.empty))
  line : ∀ j, j < n → w.cell? ⟨bl, offl + j, none⟩ = some (.int .i64 (lines.getD j 0))
  got : ∀ j, j < n → w.cell? ⟨gb, j, none⟩ = some (.pointer (some ⟨G.getD j 0, 0, none⟩))
  place : ∀ i f, i < n → First keys i f → w.heap[G.getD i 0]? = some (.cells (placeC (lines.getD f 0) (.map none)) 50)
  same : ∀ i, i < n → ∀ j, j < n → (keys.getD j ByteArray.empty = keys.getD i ByteArray.empty ↔ G.getD j 0 = G.getD i 0)

theorem St.seen {W0 w : World} {bk offk bl offl : Nat} {keys : List ByteArray} {lines : List Int} {pb gb B : Nat} {top : Int} {n : Nat} {G : List Nat} (h : St W0 w (some ⟨bk, offk, none⟩) (some ⟨bl, offl, none⟩) keys lines pb gb B top n n n G) (h1 : keys.length = n) (h2 : lines.length = n) : Seen w keys lines bk offk bl offl gb n G := by
  refine ⟨fun j hj => ?_, fun j hj => ?_, fun j hj => ?_, fun i f hi hf => ?_, h.same⟩
  · obtain ⟨b, off, e, _, hc⟩ := h.keysC j (by omega)
    cases e; exact hc
  · obtain ⟨b, off, e, _, hc⟩ := h.linesC j (by omega)
    cases e; exact hc
  · obtain ⟨C, hC, hCs, hCj⟩ := h.got
    exact cell_of_block hC (hCj j hj)
  · obtain ⟨_, f', b, c⟩ := h.place i hi
    rw [hf.uniq b]; exact c

/-- No key among the first j is the key of place i. -/
def NoneBefore (keys : List ByteArray) (i j : Nat) : Prop := ∀ t, t < j → keys.getD t ByteArray.empty ≠ keys.getD i ByteArray.empty

set_option maxRecDepth 4000 in
set_option maxHeartbeats 8000000 in
theorem script_walk (adk adl : Option Addr) (lk ck ll cl : Nat) (keys : List ByteArray) (lines : List Int) (top : Int) (w : World) (hlk : keys.length = lk) (hll : lines.length = ll) (hbk : lk ≤ 9000000000000) (hbl : ll ≤ 18000000000000)
    (hck : Cells w adk keys) (hcl : ICells w adl lines) (hszk : ∀ x ∈ keys, x.size ≤ maxLen) :
    Calls Try.prog 5 #[.slice adk lk ck, .slice adl ll cl, .int .i64 top] w fun e w' => e = .returned (.bool true) ∧ Below w.heap.size w w' := by
  go_enter Try.func5, Try.ntmps5
  go_wp2_with fail
  refine (zz10_any adk adl lk ck ll cl keys top _ hlk hbk hck).mono ?_
  rintro e w' ⟨⟨b, rfl⟩, rfl⟩
  have HK : Hid (keys.length = lk) := hlk
  have HL : Hid (lines.length = ll) := hll
  clear hlk hll
  cases b with
  | false =>
    go_wp2
    go_ret
    exact ⟨rfl, Below.refl _ _⟩
  | true =>
    by_cases h1 : 4096 < lk
    · go_wp2
      go_ret
      exact ⟨rfl, Below.refl _ _⟩
    by_cases h2 : 4096 < ll
    · go_wp2
      go_ret
      exact ⟨rfl, Below.refl _ _⟩
    go_wp2_with fail
    refine (stringsBytes_any adk lk ck keys _ HK.out hbk hck).mono ?_
    rintro e w' ⟨⟨t1, rfl⟩, rfl⟩
    by_cases h4 : ll = lk
    case neg =>
      go_wp2
      · go_ret
        exact ⟨rfl, Below.refl _ _⟩
      · go_ret
        exact ⟨rfl, Below.refl _ _⟩
    subst h4
    go_wp2_with fail
    · go_ret
      exact ⟨rfl, Below.refl _ _⟩
    refine (cloneStrings_any adk ll ck keys _ HK.out hbk hck).mono ?_
    rintro e w1 ⟨adk', ck', rfl, hck1, hak1, hB1⟩
    have hcl1 := hcl.below hB1
    clear hck hcl hbk h2
    go_wp2_with fail
    refine (cloneInts_any adl ll cl lines _ HL.out hbl hcl1).mono ?_
    rintro e w2 ⟨adl', cl', rfl, hcl2, hal2, hB2⟩
    have hck2 := hck1.below hB2
    have hak2 : ∀ a, adk' = some a → a.block < w2.heap.size := fun a h => Nat.lt_of_lt_of_le (hak1 a h) hB2.size
    have hB := hB1.trans (hB2.mono hB1.size)
    have hBs := hB.size
    clear hcl1 hck1 hB1 hB2 hak1
    go_wp2_with fail
    refine (newPlace_any top w2).mono ?_
    rintro e w3 ⟨rfl, rfl⟩
    have hmk := run_make_row' (P := Try.prog) 35 33 (.pointer none) 8 Try.underlying35 info33 rfl .i64 .i64 ll (by omega) (by omega)
    have hst0 := st_start (top := top) (n := ll) hB hBs hck2 hcl2
    clear hck2 hcl2 hB
    have HST : Hid _ := hst0
    clear hst0
    have hakp : ∀ a, adk' = some a → a.block ≠ w2.heap.size := fun a h => Nat.ne_of_lt (hak2 a h)
    have halp : ∀ a, adl' = some a → a.block ≠ w2.heap.size := fun a h => Nat.ne_of_lt (hal2 a h)
    have hakg : ∀ a, adk' = some a → a.block ≠ w2.heap.size + 1 := fun a h => by have := hak2 a h; omega
    have halg : ∀ a, adl' = some a → a.block ≠ w2.heap.size + 1 := fun a h => by have := hal2 a h; omega
    clear hak2 hal2
    go_wp2
    go_loopw [9] (fun i wr => ∃ (k : Nat) (G : List Nat), k ≤ ll ∧ i = .int .i64 k ∧ St w' wr adk' adl' keys lines w2.heap.size (w2.heap.size + 1) w'.heap.size top ll k k G) (fun i _ => ll - (intOf i).toNat)
    case atStart => exact ⟨0, [], Nat.zero_le _, rfl, HST.out⟩
    case round =>
      obtain ⟨k, G, hk, rfl, hst⟩ := hrel
      by_cases hlt : k < ll
      · have hltk : k < keys.length := by rw [HK.out]; exact hlt
        have hltl : k < lines.length := by rw [HL.out]; exact hlt
        have hkm : keys.getD k ByteArray.empty ∈ keys := by rw [List.getD, List.getElem?_eq_getElem hltk]; exact List.getElem_mem _
        have HV : Hid (∀ W, W.heap = wr.heap → W.os = wr.os → W.tape = wr.tape → W.output = wr.output → Calls Try.prog 15 #[.pointer (some ⟨w2.heap.size, 0, none⟩), .string (keys.getD k ByteArray.empty), .int .i64 (lines.getD k 0)] W fun e w'' => ∃ g : Nat, e = .returned (.pointer (some ⟨g, 0, none⟩)) ∧ St w' w'' adk' adl' keys lines w2.heap.size (w2.heap.size + 1) w'.heap.size top ll (k + 1) k (G ++ [g])) :=
          fun W e1 e2 e3 e4 => placeKey_st (hst.alike e1 e2 e3 e4) hltk hBs (Nat.lt_succ_self _) hakp halp (hszk _ hkm) (by unfold maxLen; omega)
        have HGL : Hid (G.length = k) := hst.len
        obtain ⟨bk, offk, rfl, hbb, hcellk⟩ := hst.keysC k hltk
        obtain ⟨bl, offl, rfl, hbb2, hcelll⟩ := hst.linesC k hltl
        have hnk : bk ≠ w2.heap.size + 1 := hakg _ rfl
        have hnl : bl ≠ w2.heap.size + 1 := halg _ rfl
        have HX : Hid (∀ W g, St w' W (some ⟨bk, offk, none⟩) (some ⟨bl, offl, none⟩) keys lines w2.heap.size (w2.heap.size + 1) w'.heap.size top ll (k + 1) k (G ++ [g]) → W.cell? ⟨bk, offk + k, none⟩ = some (.string (keys.getD k ByteArray.empty)) ∧ W.cell? ⟨bl, offl + k, none⟩ = some (.int .i64 (lines.getD k 0)) ∧ (∃ v, W.cell? ⟨w2.heap.size + 1, k, none⟩ = some v) ∧ W.frozen? ⟨w2.heap.size + 1, k, none⟩ = false) :=
          fun W g h => h.after hltk hltl hlt
        generalize hxk : keys.getD k ByteArray.empty = x at hcellk HV HX
        generalize hxl : lines.getD k 0 = z at hcelll HV HX
        have hi0 : (0 : Int) ≤ (k : Int) := by omega
        have hi1 : (k : Int) < (ll : Int) := by omega
        clear hst hkm hltk hltl hakp halp hmk HST hxk hxl hszk
        go_wp2_with fail
        go_region_held3 (fun w'' => w''.cell? ⟨bk, offk + k, none⟩ = some (.string x) ∧ w''.cell? ⟨bl, offl + k, none⟩ = some (.int .i64 z)) (first | go_keep | exact ⟨(cell_set_far hnk).trans hq1, (cell_set_far hnl).trans hq2⟩)
          (first | (go_at_call 15; refine Calls.mono (HV.out _ rfl rfl rfl rfl) ?_; rintro e w5 ⟨g, rfl, hst5⟩; obtain ⟨hq1, hq2, ⟨v0, hq3⟩, hq4⟩ := HX.out _ _ hst5; have HS5 : Hid _ := hst5; clear hst5))
        go_wp2
        go_roundw
        case rel => exact ⟨k + 1, _, by omega, by go_num, HS5.out.stored hlt HGL.out hBs (Nat.lt_succ_self _) hakg halg⟩
        case measure => simp [intOf]; omega
      · have hkl : k = ll := by omega
        subst hkl
        clear HST hmk hakp halp hakg halg
        go_wp2
        go_loopw [10, 11] (fun d i W => ∃ i' q : Nat, i' ≤ k ∧ i = .int .i64 i' ∧ d = .int .i64 (dc keys i' : Nat) ∧ W = wr.drewN q) (fun _ i _ => k - (intOf i).toNat)
        case atStart => exact ⟨0, 0, Nat.zero_le _, rfl, rfl, rfl⟩
        case round =>
          obtain ⟨i, q, hi, rfl, rfl, rfl⟩ := hrel
          have hdc := dc_le keys i
          by_cases hlt : i < k
          · obtain ⟨bk, offk, rfl, -, -⟩ := hst.keysC i (by rw [HK.out]; exact hlt)
            obtain ⟨bl, offl, rfl, -, -⟩ := hst.linesC i (by rw [HL.out]; exact hlt)
            have HE : Hid _ := hst.seen HK.out HL.out
            have hgi := HE.out.got i hlt
            have hki := HE.out.key i hlt
            clear hst
            go_wp2
            go_loopw [12, 13] (fun f j W => ∃ j' q : Nat, j' ≤ i ∧ j = .int .i64 j' ∧ f = .int .i64 i ∧ NoneBefore keys i j' ∧ W = wr.drewN q) (fun _ j _ => i - (intOf j).toNat)
            case atStart => exact ⟨0, q, Nat.zero_le _, rfl, rfl, fun t ht => absurd ht (by omega), rfl⟩
            case round =>
              obtain ⟨j, q2, hj, rfl, rfl, hne, rfl⟩ := hrel
              by_cases hlj : j < i
              · have hkj := HE.out.key j (by omega)
                by_cases hx : keys.getD j ByteArray.empty = keys.getD i ByteArray.empty
                · have hgj := HE.out.got j (by omega)
                  have hlc := HE.out.line j (by omega)
                  have hpl := HE.out.place i j hlt ⟨hj, hx, hne⟩
                  have HD : Hid (dc keys (i + 1) = dc keys i) := dc_in ((mem_take (by rw [HK.out]; omega)).2 ⟨j, hlj, hx⟩)
                  rw [(HE.out.same i hlt j (by omega)).1 hx] at hgj
                  rw [hx] at hkj
                  have hpe := neq_ptr_same
                  generalize keys.getD i ByteArray.empty = x at *
                  generalize G.getD i 0 = g at *
                  generalize lines.getD j 0 = z at *
                  have HPL : Hid _ := hpl
                  clear hpl hne HE hx
                  go_wp2_with fail
                  go_quiet (fail)
                  go_wp2_with fail
                  go_quiet (fail)
                  go_wp2_with fail
                  go_quiet ((go_at_call 16; refine Calls.mono (placeLine_any _ _ _ _ HPL.out) ?_; rintro e w'' ⟨rfl, rfl⟩; exact ⟨rfl, _, rfl⟩))
                  go_wp2_with fail
                  refine (placeCount_nil _ _ (wr.drewN _) HPL.out).mono ?_
                  rintro e w' ⟨rfl, rfl⟩
                  go_wp2
                  go_roundw
                  case rel => exact ⟨i + 1, _, by omega, by go_num, by rw [HD.out], rfl⟩
                  case measure => simp [intOf]; omega
                · have HNE : Hid (NoneBefore keys i (j + 1)) := fun t ht => by
                    by_cases e : t = j
                    · subst e; exact hx
                    · exact hne t (by omega)
                  have hno := toList_beq_no hx
                  generalize hxi : keys.getD i ByteArray.empty = x at hki hno
                  generalize keys.getD j ByteArray.empty = y at hkj hno
                  clear hne hx hxi
                  go_wp2_with fail
                  go_quiet (fail)
                  go_wp2
                  go_roundw
                  case rel => exact ⟨j + 1, _, by omega, by go_num, rfl, HNE.out, rfl⟩
                  case measure => simp [intOf]; omega
              · have hij : j = i := by omega
                subst hij
                have hpl := HE.out.place j j hlt ⟨hj, rfl, hne⟩
                have hlc := HE.out.line j hlt
                have HD : Hid (dc keys (j + 1) = dc keys j + 1) := dc_out (fun hm => by
                  obtain ⟨t, ht, e⟩ := (mem_take (by rw [HK.out]; omega)).1 hm
                  exact hne t ht e)
                have HG : Hid (∀ t, t < j → wr.cell? ⟨w2.heap.size + 1, t, none⟩ = some (.pointer (some ⟨G.getD t 0, 0, none⟩)) ∧ ∀ q, (binOp .eql 33 (.pointer (some ⟨G.getD t 0, 0, none⟩)) (.pointer (some ⟨G.getD j 0, 0, none⟩))).run Try.prog (wr.drewN q) = .ok (.bool false) (wr.drewN q)) := fun t ht => by
                  obtain ⟨f, hf⟩ := First.exists keys t
                  exact ⟨HE.out.got t (by omega), eql_ptr_other (fun e => hne t ht ((HE.out.same j hlt t (by omega)).2 e)) (HE.out.place t f (by omega) hf) hpl⟩
                generalize G.getD j 0 = g at hgi hpl HG
                generalize lines.getD j 0 = z at hlc hpl
                have HPL : Hid _ := hpl
                clear hpl hne HE
                go_wp2
                go_loopw [14] (fun t W => ∃ t' q : Nat, t' ≤ j ∧ t = .int .i64 t' ∧ W = wr.drewN q) (fun t _ => j - (intOf t).toNat)
                case atStart => exact ⟨0, q2, Nat.zero_le _, rfl, rfl⟩
                case round =>
                  obtain ⟨t, q3, ht, rfl, rfl⟩ := hrel
                  by_cases hlt4 : t < j
                  · obtain ⟨hgt, hpe⟩ := HG.out t hlt4
                    generalize G.getD t 0 = g2 at hgt hpe
                    clear hki
                    go_wp2_with fail
                    go_quiet (fail)
                    go_wp2
                    go_roundw
                    case rel => exact ⟨t + 1, _, by omega, by go_num, rfl⟩
                    case measure => simp [intOf]; omega
                  · clear HG hki
                    go_wp2_with fail
                    go_quiet ((go_at_call 16; refine Calls.mono (placeLine_any _ _ _ _ HPL.out) ?_; rintro e w'' ⟨rfl, rfl⟩; exact ⟨rfl, _, rfl⟩))
                    go_wp2_with fail
                    refine (placeCount_nil _ _ (wr.drewN _) HPL.out).mono ?_
                    rintro e w'' ⟨rfl, rfl⟩
                    go_wp2
                    go_roundw
                    case rel => exact ⟨j + 1, _, by omega, by go_num, by rw [HD.out]; go_num, rfl⟩
                    case measure => simp [intOf]; omega
          · have hik : i = k := by omega
            subst hik
            have hbel : Below w'.heap.size w' (wr.drewN q) := ⟨hst.below.os, hst.below.tape, hst.below.output, hst.below.size, hst.below.block⟩
            rcases hst.tab with ⟨e0, hp⟩ | ⟨m, _, hp, ht⟩
            · subst e0
              have HP : Hid _ := hp
              clear hp hst
              have hd0 : dc keys 0 = 0 := rfl
              go_wp2_with fail
              refine (placeLine_any _ _ _ (wr.drewN _) HP.out).mono ?_
              rintro e w'' ⟨rfl, rfl⟩
              go_wp2_with fail
              refine (placeCount_nil _ _ (wr.drewN _) HP.out).mono ?_
              rintro e w'' ⟨rfl, rfl⟩
              go_wp2
              go_ret
              exact ⟨rfl, hbel⟩
            · have HP : Hid _ := hp
              have HT : Hid _ := ht
              clear hp ht hst
              go_wp2_with fail
              refine (placeLine_any _ _ _ (wr.drewN _) HP.out).mono ?_
              rintro e w'' ⟨rfl, rfl⟩
              go_wp2_with fail
              refine (placeCount_tab _ _ _ _ _ _ _ (wr.drewN _) HP.out (Tab.kept HT.out rfl)).mono ?_
              rintro e w'' ⟨rfl, rfl⟩
              go_wp2
              go_ret
              exact ⟨rfl, hbel⟩
end Go.Proofs.Qxb6600984a
