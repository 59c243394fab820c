import Derived.Test.Qxb6600984aPlace
namespace Go.Proofs.Qxb6600984a
open Go.RowKit Go.Maps Go.WideMaps

/-- How a pointer to a place reads in the proof's own words: by its block. -/
def plR (v : Value) : Option (DataW Unit × List MemPlace) := match v with
  | .pointer (some ⟨b, 0, none⟩) => some (.lit (.int .u64 (b : Int)), [])
  | .pointer none => some (.nil, [])
  | _ => none
theorem plR_mk (b : Nat) : plR (.pointer (some ⟨b, 0, none⟩)) = some (.lit (.int .u64 (b : Int)), []) := rfl
theorem plR_inv {v : Value} {b : Nat} {ps : List MemPlace} (h : plR v = some (.lit (.int .u64 (b : Int)), ps)) : v = .pointer (some ⟨b, 0, none⟩) := by
  unfold plR at h
  split at h
  · simp at h; rw [Int.ofNat.inj h.1]
  · simp at h
  · cases h
theorem plR_nil {v : Value} {ps : List MemPlace} (h : plR v = some (.nil, ps)) : v = .pointer none := by
  unfold plR at h
  split at h
  · simp at h
  · rfl
  · cases h
theorem zero33 (w : World) : (zeroValue 33).run Try.prog w = .ok (.pointer none) w := by kernel_rfl

/-- Block m maps each of the keys ks to its place in G; it holds c keys. -/
def Tab (w : World) (m n : Nat) (ks : List ByteArray) (G : List Nat) (c : Nat) : Prop :=
  ∃ D : DataW Unit, w.ownsMap Try.prog 9 plR m n D ∧ (∀ s, Maps.has D (keyL s) = inB s ks) ∧ (∀ i, i < ks.length → D.atKey (keyL (ks.getD i ByteArray.empty)) .nil = .lit (.int .u64 ((G.getD i 0 : Nat) : Int))) ∧ Maps.size D = c

theorem Tab.made (w : World) (m : Nat) (hm : m = w.heap.size) : Tab (w.alloc (.map #[] 0)) m 0 [] [] 0 := by
  subst hm
  exact ⟨.map [], World.ownsMap_made _ _ _ _, fun s => rfl, fun j hj => absurd hj (by simp), rfl⟩

theorem Tab.lt {w : World} {m n c : Nat} {ks : List ByteArray} {G : List Nat} (h : Tab w m n ks G c) : m < w.heap.size := by
  obtain ⟨D, h, _⟩ := h; exact h.lt
theorem Tab.isMap {w : World} {m n c : Nat} {ks : List ByteArray} {G : List Nat} (h : Tab w m n ks G c) : ∃ es clock, w.heap[m]? = some (.map es clock) := by
  obtain ⟨D, ⟨es, clock, h1, h2⟩, h3⟩ := h
  exact ⟨es, clock, h1⟩

theorem Tab.kept {w w' : World} {m n c : Nat} {ks : List ByteArray} {G : List Nat} (h : Tab w m n ks G c) (hb : w'.heap[m]? = w.heap[m]?) : Tab w' m n ks G c := by
  obtain ⟨D, ⟨es, clock, h1, h2⟩, h3⟩ := h
  exact ⟨D, ⟨es, clock, hb.trans h1, h2⟩, h3⟩

theorem Tab.look_has {w : World} {m n c : Nat} {ks : List ByteArray} {G : List Nat} (h : Tab w m n ks G c) (s : ByteArray) (hsz : s.size ≤ maxLen) (i : Nat) (hi : i < ks.length) (his : ks.getD i ByteArray.empty = s) :
    (Instr.lookup 48 (.map (some m)) (.string s) true).run Try.prog w = .ok (.tuple #[.pointer (some ⟨G.getD i 0, 0, none⟩), .bool true]) w := by
  obtain ⟨D, hown, hh, ha, _⟩ := h
  obtain ⟨v, ps, hrun, hv⟩ := hown.look_ok law9 Try.underlying48 (zero33 _) (zd := .nil) (zp := []) rfl (keyOf_string_mk Try.underlying9 hsz)
  have e1 := ha i hi
  rw [his] at e1
  rw [show Lit.string s.data.toList = keyL s from rfl, e1] at hv
  have hmem : s ∈ ks := by rw [← his, List.getD, List.getElem?_eq_getElem hi]; exact List.getElem_mem _
  rw [hrun, plR_inv hv, show Lit.string s.data.toList = keyL s from rfl, hh s, inB_true hmem]

theorem Tab.look_no {w : World} {m n c : Nat} {ks : List ByteArray} {G : List Nat} (h : Tab w m n ks G c) (s : ByteArray) (hsz : s.size ≤ maxLen) (hne : s ∉ ks) :
    (Instr.lookup 48 (.map (some m)) (.string s) true).run Try.prog w = .ok (.tuple #[.pointer none, .bool false]) w := by
  obtain ⟨D, hown, hh, ha, _⟩ := h
  obtain ⟨v, ps, hrun, hv⟩ := hown.look_ok law9 Try.underlying48 (zero33 _) (zd := .nil) (zp := []) rfl (keyOf_string_mk Try.underlying9 hsz)
  have hf := hh s
  rw [inB_false hne] at hf
  rw [show Lit.string s.data.toList = keyL s from rfl, Maps.atKey_of_not_has hf] at hv
  rw [hrun, plR_nil hv, show Lit.string s.data.toList = keyL s from rfl, hf]

theorem getD_left {α : Type} {l r : List α} {i : Nat} {d : α} (h : i < l.length) : (l ++ r).getD i d = l.getD i d := by
  rw [List.getD, List.getElem?_append_left h, ← List.getD]
theorem getD_last {α : Type} {l : List α} {x d : α} {i : Nat} (h : i = l.length) : (l ++ [x]).getD i d = x := by
  subst h; simp [List.getD]

theorem inB_append (t s : ByteArray) (ks : List ByteArray) (e : t ≠ s) : inB t (ks ++ [s]) = inB t ks := by
  unfold inB; rw [List.any_append]
  have : (s.toList == t.toList) = false := by
    cases he : (s.toList == t.toList) with
    | false => rfl
    | true => exact absurd (toList_inj (eq_of_beq he)).symm e
  simp [this]

theorem Tab.store {w : World} {m n c : Nat} {ks : List ByteArray} {G : List Nat} (h : Tab w m n ks G c) (s : ByteArray) (hsz : s.size ≤ maxLen) (hn : n < maxLen) (hne : s ∉ ks) (hG : G.length = ks.length) (g : Nat) :
    ∃ w', (Instr.mapUpdate 48 (.map (some m)) (.string s) (.pointer (some ⟨g, 0, none⟩))).run Try.prog w = .ok () w' ∧ Tab w' m (n + 1) (ks ++ [s]) (G ++ [g]) (c + 1) ∧ w.grownBy w' (some m) := by
  obtain ⟨D, hown, hh, ha, hc⟩ := h
  have hD : IsMap D := hown.isMap
  obtain ⟨w', hrun, hown', hg⟩ := hown.update law9 Try.underlying48 hn (keyOf_string_mk Try.underlying9 hsz) (plR_mk g)
  rw [show Lit.string s.data.toList = keyL s from rfl] at hown'
  refine ⟨w', hrun, ⟨_, hown', ?_, ?_, ?_⟩, hg⟩
  · intro t
    by_cases e : t = s
    · subst e
      rw [Maps.has_put_same hD (keyL_is t), inB_true (by simp)]
    · rw [Maps.has_put_other (fun he => e (keyL_inj he)), hh t, inB_append t s ks e]
  · intro j hj
    simp only [List.length_append, List.length_cons, List.length_nil] at hj
    by_cases e : j < ks.length
    · rw [getD_left e, getD_left (by omega)]
      have hmem : ks.getD j ByteArray.empty ∈ ks := by
        rw [List.getD, List.getElem?_eq_getElem e]; exact List.getElem_mem e
      rw [Maps.atKey_put_other (fun he => hne (by have := keyL_inj he; rw [← this]; exact hmem))]
      exact ha j e
    · rw [getD_last (by omega), getD_last (by omega), Maps.atKey_put_same hD (keyL_is s)]
  · have hf := hh s
    rw [inB_false hne] at hf
    rw [Maps.size_put (hown.tidy law9), hf, hc]; simp

theorem Tab.again {w : World} {m n c : Nat} {ks : List ByteArray} {G : List Nat} (h : Tab w m n ks G c) (s : ByteArray) (hG : G.length = ks.length) (i : Nat) (hi : i < ks.length) (his : ks.getD i ByteArray.empty = s) :
    Tab w m (n + 1) (ks ++ [s]) (G ++ [G.getD i 0]) c := by
  obtain ⟨D, hown, hh, ha, hc⟩ := h
  have hmem : s ∈ ks := by rw [← his, List.getD, List.getElem?_eq_getElem hi]; exact List.getElem_mem _
  refine ⟨D, hown.mono (Nat.le_succ _), ?_, ?_, hc⟩
  · intro t
    rw [hh t]
    by_cases e : t = s
    · subst e; rw [inB_true hmem, inB_true (by simp)]
    · rw [inB_append t s ks e]
  · intro j hj
    simp only [List.length_append, List.length_cons, List.length_nil] at hj
    by_cases e : j < ks.length
    · rw [getD_left e, getD_left (by omega)]; exact ha j e
    · rw [getD_last (by omega), getD_last (by omega), ← his]; exact ha i hi

theorem placeCount_tab (g : Nat) (ln : Int) (m n c : Nat) (ks : List ByteArray) (G : List Nat) (w : World) (h : w.heap[g]? = some (.cells (placeC ln (.map (some m))) 50)) (ht : Tab w m n ks G c) :
    Calls Try.prog 17 #[.pointer (some ⟨g, 0, none⟩)] w fun e w' => e = .returned (.int .i64 c) ∧ w' = w := by
  have h0 : w.cell? ⟨g, 1, none⟩ = some (.map (some m)) := cell_of_block h rfl
  obtain ⟨D, hown, _, _, hc⟩ := ht
  have hl := hown.len (t := 48) (e := 33) Try.underlying48
  rw [hc] at hl
  clear h hown hc
  go_enter Try.func17, Try.ntmps17
  go_wp2
  go_ret
  exact ⟨rfl, rfl⟩
end Go.Proofs.Qxb6600984a
