import Derived.Test.Qxb6600984aKeyWalk
namespace Go.Proofs.Qxb6600984a
open Go.RowKit Go.Maps Go.WideMaps

/-- f is the first place at which the key of place i stands. -/
def First (keys : List ByteArray) (i f : Nat) : Prop :=
  f ≤ i ∧ keys.getD f ByteArray.empty = keys.getD i ByteArray.empty ∧ ∀ j, j < f → keys.getD j ByteArray.empty ≠ keys.getD i ByteArray.empty

theorem First.uniq {keys : List ByteArray} {i f g : Nat} (h : First keys i f) (k : First keys i g) : f = g := by
  rcases Nat.lt_trichotomy f g with e | e | e
  · exact absurd h.2.1 (k.2.2 f e)
  · exact e
  · exact absurd k.2.1 (h.2.2 g e)

theorem First.ex (keys : List ByteArray) (i : Nat) : ∀ d, d ≤ i + 1 → (∀ j, j < i + 1 - d → keys.getD j ByteArray.empty ≠ keys.getD i ByteArray.empty) → ∃ f, First keys i f
  | 0, _, h => absurd rfl (h i (by omega))
  | d + 1, hd, h => by
    by_cases e : keys.getD (i + 1 - (d + 1)) ByteArray.empty = keys.getD i ByteArray.empty
    · exact ⟨i + 1 - (d + 1), by omega, e, h⟩
    · refine First.ex keys i d (by omega) (fun j hj => ?_)
      by_cases e2 : j = i + 1 - (d + 1)
      · rw [e2]; exact e
      · exact h j (by omega)
theorem First.exists (keys : List ByteArray) (i : Nat) : ∃ f, First keys i f := First.ex keys i (i + 1) (Nat.le_refl _) (fun j hj => absurd hj (by omega))

/-- How many different keys stand among the first k. -/
def dc (keys : List ByteArray) : Nat → Nat
  | 0 => 0
  | k + 1 => dc keys k + if inB (keys.getD k ByteArray.empty) (keys.take k) then 0 else 1
theorem dc_le (keys : List ByteArray) : ∀ k, dc keys k ≤ k
  | 0 => Nat.le_refl _
  | k + 1 => by have := dc_le keys k; unfold dc; split <;> omega
theorem dc_in {keys : List ByteArray} {k : Nat} (h : keys.getD k ByteArray.empty ∈ keys.take k) : dc keys (k + 1) = dc keys k := by
  show dc keys k + _ = _; rw [inB_true h]; rfl
theorem dc_out {keys : List ByteArray} {k : Nat} (h : keys.getD k ByteArray.empty ∉ keys.take k) : dc keys (k + 1) = dc keys k + 1 := by
  show dc keys k + _ = _; rw [inB_false h]; rfl

theorem mem_take {keys : List ByteArray} {k : Nat} {s : ByteArray} (hk : k ≤ keys.length) : s ∈ keys.take k ↔ ∃ i, i < k ∧ keys.getD i ByteArray.empty = s := by
  constructor
  · intro h
    obtain ⟨i, hi⟩ := List.getElem?_of_mem h
    have hil := (List.getElem?_eq_some_iff.1 hi).1
    rw [List.length_take] at hil
    refine ⟨i, by omega, ?_⟩
    rw [List.getElem?_take_of_lt (by omega)] at hi
    rw [List.getD, hi]; rfl
  · rintro ⟨i, hi, rfl⟩
    have : keys.getD i ByteArray.empty = (keys.take k)[i]'(by rw [List.length_take]; omega) := by
      rw [List.getD, List.getElem?_eq_getElem (by omega)]; simp
    rw [this]; exact List.getElem_mem _

theorem getD_take {keys : List ByteArray} {k i : Nat} (h : i < k) : (keys.take k).getD i ByteArray.empty = keys.getD i ByteArray.empty := by
  rw [List.getD, List.getD, List.getElem?_take_of_lt h]
theorem take_step {keys : List ByteArray} {k : Nat} (h : k < keys.length) : keys.take (k + 1) = keys.take k ++ [keys.getD k ByteArray.empty] := by
  rw [List.take_succ_eq_append_getElem h, List.getD, List.getElem?_eq_getElem h]; rfl

/-- The state behind k calls of ZZPlaceKey and kg stores into the slice of places. -/
structure St (W0 w : World) (adk adl : Option Addr) (keys : List ByteArray) (lines : List Int) (pb gb B : Nat) (top : Int) (n k kg : Nat) (G : List Nat) : Prop where
  len : G.length = k
  below : Below B W0 w
  lt : gb < w.heap.size
  tab : (k = 0 ∧ w.heap[pb]? = some (.cells (placeC top (.map none)) 50)) ∨ (∃ m, B ≤ m ∧ w.heap[pb]? = some (.cells (placeC top (.map (some m))) 50) ∧ Tab w m k (keys.take k) G (dc keys k))
  got : ∃ C : Array Value, w.heap[gb]? = some (.cells C 33) ∧ C.size = n ∧ ∀ j, j < kg → C[j]? = some (.pointer (some ⟨G.getD j 0, 0, none⟩))
  keysC : Cells w adk keys
  linesC : ICells w adl lines
  place : ∀ i, i < k → gb < G.getD i 0 ∧ ∃ f, First keys i f ∧ w.heap[G.getD i 0]? = some (.cells (placeC (lines.getD f 0) (.map none)) 50)
  same : ∀ i, i < k → ∀ j, j < k → (keys.getD j ByteArray.empty = keys.getD i ByteArray.empty ↔ G.getD j 0 = G.getD i 0)

/-- Cells of blocks of cells stay. -/
theorem keyOut_cells {w w' : World} {pb m : Nat} (h : KeyOut w w' pb m) (hm : m = pb ∨ ∃ es c, w.heap[m]? = some (.map es c)) {b : Nat} {C : Array Value} {t : TypeId} {f : Nat × Nat} (hb : b ≠ pb) (hc : w.heap[b]? = some (.cells C t f)) : w'.heap[b]? = some (.cells C t f) := by
  rw [h.block b (Array.getElem?_eq_some_iff.1 hc).1 hb ?_]
  · exact hc
  · rcases hm with e | ⟨es, c, hm⟩
    · rw [e]; exact hb
    · intro e; rw [e, hm] at hc; cases hc
theorem keyOut_cell {w w' : World} {pb m : Nat} (h : KeyOut w w' pb m) (hm : m = pb ∨ ∃ es c, w.heap[m]? = some (.map es c)) {a : Addr} {v : Value} (hb : a.block ≠ pb) (hc : w.cell? a = some v) : w'.cell? a = some v := by
  unfold World.cell? at hc ⊢
  cases e : w.heap[a.block]? with
  | none => rw [e] at hc; cases hc
  | some o =>
    cases o with
    | cells C t f => rw [keyOut_cells h hm hb e]; rw [e] at hc; exact hc
    | _ => rw [e] at hc; cases hc

theorem lt_of_heap {w : World} {b : Nat} {o : Obj} (h : w.heap[b]? = some o) : b < w.heap.size := (Array.getElem?_eq_some_iff.1 h).1

section
variable {W0 w w' : World} {adk adl : Option Addr} {keys : List ByteArray} {lines : List Int} {pb gb B : Nat} {top : Int} {n k : Nat} {G : List Nat}

/-- What the call of a key that has been asked for leaves. -/
theorem St.again (h : St W0 w adk adl keys lines pb gb B top n k k G) (hk : k < keys.length) {i : Nat} (hi : i < k) (his : keys.getD i ByteArray.empty = keys.getD k ByteArray.empty) :
    St W0 w adk adl keys lines pb gb B top n (k + 1) k (G ++ [G.getD i 0]) := by
  have hin : keys.getD k ByteArray.empty ∈ keys.take k := (mem_take (by omega)).2 ⟨i, hi, his⟩
  have hGl := h.len
  have old : ∀ j, j < k → (G ++ [G.getD i 0]).getD j 0 = G.getD j 0 := fun j hj => getD_left (by omega)
  have new : (G ++ [G.getD i 0]).getD k 0 = G.getD i 0 := getD_last (by omega)
  refine ⟨by simp [h.len], h.below, h.lt, ?_, ?_, h.keysC, h.linesC, ?_, ?_⟩
  · rcases h.tab with ⟨e, _⟩ | ⟨m, hm, hp, ht⟩
    · omega
    · refine Or.inr ⟨m, hm, hp, ?_⟩
      rw [take_step hk, dc_in hin]
      exact ht.again _ (by rw [List.length_take]; omega) i (by rw [List.length_take]; omega) (by rw [getD_take hi]; exact his)
  · obtain ⟨C, a, b, c⟩ := h.got
    exact ⟨C, a, b, fun j hj => by rw [old j hj]; exact c j hj⟩
  · intro j hj
    by_cases e : j = k
    · subst e
      rw [new]
      obtain ⟨a, f, b, c⟩ := h.place i hi
      exact ⟨a, f, ⟨by have := b.1; omega, by rw [← his]; exact b.2.1, fun t ht => by rw [← his]; exact b.2.2 t ht⟩, c⟩
    · rw [old j (by omega)]
      exact h.place j (by omega)
  · intro a ha b hb
    by_cases ea : a = k
    · by_cases eb : b = k
      · subst ea; subst eb; simp
      · subst ea; rw [new, old b (by omega), ← his]; exact h.same i hi b (by omega)
    · by_cases eb : b = k
      · subst eb; rw [new, old a (by omega), ← his]; exact h.same a (by omega) i hi
      · rw [old a (by omega), old b (by omega)]; exact h.same a (by omega) b (by omega)

/-- What the call of a new key leaves. -/
theorem St.fresh (h : St W0 w adk adl keys lines pb gb B top n k k G) (hk : k < keys.length) (hBp : B ≤ pb) (hpg : pb < gb) (hak : ∀ a, adk = some a → a.block ≠ pb) (hal : ∀ a, adl = some a → a.block ≠ pb)
    (hne : ∀ i, i < k → keys.getD i ByteArray.empty ≠ keys.getD k ByteArray.empty) {g m m' : Nat} (hko : KeyOut w w' pb m) (hmm : m = pb ∨ ∃ es c, w.heap[m]? = some (.map es c)) (hBm : B ≤ m) (hBm' : B ≤ m')
    (hp : w'.heap[pb]? = some (.cells (placeC top (.map (some m'))) 50)) (ht : Tab w' m' (k + 1) (keys.take k ++ [keys.getD k ByteArray.empty]) (G ++ [g]) (dc keys k + 1))
    (hg : w.heap.size ≤ g) (hgc : w'.heap[g]? = some (.cells (placeC (lines.getD k 0) (.map none)) 50)) :
    St W0 w' adk adl keys lines pb gb B top n (k + 1) k (G ++ [g]) := by
  have hin : keys.getD k ByteArray.empty ∉ keys.take k := fun hm => by
    obtain ⟨i, hi, e⟩ := (mem_take (by omega)).1 hm
    exact hne i hi e
  have hGl := h.len
  have hgl := h.lt
  have old : ∀ j, j < k → (G ++ [g]).getD j 0 = G.getD j 0 := fun j hj => getD_left (by omega)
  have new : (G ++ [g]).getD k 0 = g := getD_last (by omega)
  have hlt : ∀ j, j < k → G.getD j 0 < w.heap.size := fun j hj => by obtain ⟨_, f, _, c⟩ := h.place j hj; exact lt_of_heap c
  refine ⟨by simp [h.len], ?_, Nat.lt_of_lt_of_le h.lt hko.size, ?_, ?_, ?_, ?_, ?_, ?_⟩
  · exact h.below.trans ⟨hko.os, hko.tape, hko.output, hko.size, fun b hb => hko.block b (by omega) (by omega) (by omega)⟩
  · refine Or.inr ⟨m', hBm', hp, ?_⟩
    rw [take_step hk, dc_out hin]; exact ht
  · obtain ⟨C, a, b, c⟩ := h.got
    exact ⟨C, keyOut_cells hko hmm (by omega) a, b, fun j hj => by rw [old j hj]; exact c j hj⟩
  · intro j hj
    obtain ⟨b, off, e, hbl, hc⟩ := h.keysC j hj
    exact ⟨b, off, e, Nat.lt_of_lt_of_le hbl hko.size, keyOut_cell hko hmm (a := ⟨b, off + j, none⟩) (hak ⟨b, off, none⟩ e) hc⟩
  · intro j hj
    obtain ⟨b, off, e, hbl, hc⟩ := h.linesC j hj
    exact ⟨b, off, e, Nat.lt_of_lt_of_le hbl hko.size, keyOut_cell hko hmm (a := ⟨b, off + j, none⟩) (hal ⟨b, off, none⟩ e) hc⟩
  · intro j hj
    by_cases e : j = k
    · subst e
      rw [new]
      exact ⟨by omega, j, ⟨Nat.le_refl _, rfl, hne⟩, hgc⟩
    · rw [old j (by omega)]
      obtain ⟨a, f, b, c⟩ := h.place j (by omega)
      exact ⟨a, f, b, keyOut_cells hko hmm (by omega) c⟩
  · intro a ha b hb
    by_cases ea : a = k
    · by_cases eb : b = k
      · subst ea; subst eb; simp
      · subst ea
        rw [new, old b (by omega)]
        exact ⟨fun e => absurd e (hne b (by omega)), fun e => by have := hlt b (by omega); omega⟩
    · by_cases eb : b = k
      · subst eb
        rw [new, old a (by omega)]
        exact ⟨fun e => absurd e.symm (hne a (by omega)), fun e => by have := hlt a (by omega); omega⟩
      · rw [old a (by omega), old b (by omega)]; exact h.same a (by omega) b (by omega)

/-- Behind the store into the slice of places. -/
theorem St.stored {g : Nat} (h : St W0 w adk adl keys lines pb gb B top n (k + 1) k (G ++ [g])) (hk : k < n) (hGl : G.length = k) (hBp : B ≤ pb) (hpg : pb < gb) (hak : ∀ a, adk = some a → a.block ≠ gb) (hal : ∀ a, adl = some a → a.block ≠ gb) :
    St W0 (w.setCell ⟨gb, k, none⟩ (.pointer (some ⟨g, 0, none⟩))) adk adl keys lines pb gb B top n (k + 1) (k + 1) (G ++ [g]) := by
  have oth : ∀ b, b ≠ gb → (w.setCell ⟨gb, k, none⟩ (.pointer (some ⟨g, 0, none⟩))).heap[b]? = w.heap[b]? := fun b hb => Below.heap_setCell _ _ _ _ hb
  obtain ⟨C, hC, hCs, hCj⟩ := h.got
  refine ⟨h.len, h.below.setCell (by show B ≤ gb; omega) _, by rw [World.size_setCell]; exact h.lt, ?_, ?_, ?_, ?_, ?_, h.same⟩
  · rcases h.tab with ⟨e, _⟩ | ⟨m, hm, hp, ht⟩
    · omega
    · refine Or.inr ⟨m, hm, by rw [oth pb (by omega)]; exact hp, ht.kept (oth m (fun e => ?_))⟩
      obtain ⟨es, c, hes⟩ := ht.isMap
      rw [e, hC] at hes; cases hes
  · refine ⟨_, heap_setCell_same w gb k C 33 _ hC, by rw [Array.size_setIfInBounds]; exact hCs, fun j hj => ?_⟩
    rw [Array.getElem?_setIfInBounds]
    by_cases e : k = j
    · subst e
      rw [if_pos rfl, if_pos (by omega), getD_last hGl.symm]
    · rw [if_neg e]; exact hCj j (by omega)
  · intro j hj
    obtain ⟨b, off, e, hbl, hc⟩ := h.keysC j hj
    have hne : b ≠ gb := hak _ e
    exact ⟨b, off, e, by rw [World.size_setCell]; exact hbl, (World.cell?_of_block (w := w) (oth b hne)).trans hc⟩
  · intro j hj
    obtain ⟨b, off, e, hbl, hc⟩ := h.linesC j hj
    have hne : b ≠ gb := hal _ e
    exact ⟨b, off, e, by rw [World.size_setCell]; exact hbl, (World.cell?_of_block (w := w) (oth b hne)).trans hc⟩
  · intro j hj
    obtain ⟨a, f, b, c⟩ := h.place j hj
    exact ⟨a, f, b, by rw [oth _ (by omega)]; exact c⟩

theorem St.drewN (h : St W0 w adk adl keys lines pb gb B top n k k G) (q : Nat) : St W0 (w.drewN q) adk adl keys lines pb gb B top n k k G :=
  ⟨h.len, ⟨h.below.os, h.below.tape, h.below.output, h.below.size, h.below.block⟩, h.lt, h.tab, h.got, h.keysC, h.linesC, h.place, h.same⟩
theorem St.alike (h : St W0 w adk adl keys lines pb gb B top n k k G) (e1 : w'.heap = w.heap) (e2 : w'.os = w.os) (e3 : w'.tape = w.tape) (e4 : w'.output = w.output) : St W0 w' adk adl keys lines pb gb B top n k k G := by
  have hc : ∀ a, w'.cell? a = w.cell? a := fun a => World.cell?_of_block (w := w) (by rw [e1])
  refine ⟨h.len, ⟨e2.trans h.below.os, e3.trans h.below.tape, e4.trans h.below.output, by rw [e1]; exact h.below.size, fun b hb => by rw [e1]; exact h.below.block b hb⟩, by rw [e1]; exact h.lt, ?_, by rw [e1]; exact h.got, ?_, ?_, by rw [e1]; exact h.place, h.same⟩
  · rcases h.tab with h | ⟨m, a, b, c⟩
    · rw [e1]; exact Or.inl h
    · exact Or.inr ⟨m, a, by rw [e1]; exact b, c.kept (by rw [e1])⟩
  · intro j hj
    obtain ⟨b, off, x, y, z⟩ := h.keysC j hj
    exact ⟨b, off, x, by rw [e1]; exact y, by rw [hc]; exact z⟩
  · intro j hj
    obtain ⟨b, off, x, y, z⟩ := h.linesC j hj
    exact ⟨b, off, x, by rw [e1]; exact y, by rw [hc]; exact z⟩

theorem St.after {bk offk bl offl : Nat} {g : Nat} (h : St W0 w (some ⟨bk, offk, none⟩) (some ⟨bl, offl, none⟩) keys lines pb gb B top n (k + 1) k (G ++ [g])) (h1 : k < keys.length) (h2 : k < lines.length) (h3 : k < n) :
    w.cell? ⟨bk, offk + k, none⟩ = some (.string (keys.getD k ByteArray.empty)) ∧ w.cell? ⟨bl, offl + k, none⟩ = some (.int .i64 (lines.getD k 0)) ∧ (∃ v, w.cell? ⟨gb, k, none⟩ = some v) ∧ w.frozen? ⟨gb, k, none⟩ = false := by
  obtain ⟨b, off, e, _, hc⟩ := h.keysC k h1
  cases e
  obtain ⟨b, off, e, _, hc2⟩ := h.linesC k h2
  cases e
  obtain ⟨C, hC, hCs, _⟩ := h.got
  exact ⟨hc, hc2, ⟨_, cell_of_block hC (Array.getElem?_eq_getElem (by omega))⟩, frozen_of_block hC⟩
end
end Go.Proofs.Qxb6600984a
