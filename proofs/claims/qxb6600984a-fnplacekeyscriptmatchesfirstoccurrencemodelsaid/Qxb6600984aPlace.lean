import Derived.Test.Qxb6600984aRow
import Derived.LaidEqlPtr
import Derived.Deep.Draws
namespace Go.Proofs.Qxb6600984a
open Go.RowKit Go.Maps Go.WideMaps

/-! ### Slices of ints -/
/-- The slice at 'ad' holds the numbers zs. -/
def ICells (w : World) (ad : Option Addr) (zs : List Int) : Prop :=
  ∀ j, j < zs.length → ∃ b off, ad = some ⟨b, off, none⟩ ∧ b < w.heap.size ∧ w.cell? ⟨b, off + j, none⟩ = some (.int .i64 (zs.getD j 0))

theorem ICells.below {w w' : World} {ad : Option Addr} {zs : List Int} (h : ICells w ad zs) (hb : Below w.heap.size w w') : ICells w' ad zs := by
  intro j hj
  obtain ⟨b, off, e, hbl, hc⟩ := h j hj
  exact ⟨b, off, e, Nat.lt_of_lt_of_le hbl hb.size, (hb.cell (p := ⟨b, off + j, none⟩) hbl).trans hc⟩

theorem icells_nil (w : World) (ad : Option Addr) : ICells w ad [] := fun j hj => absurd hj (by simp)

/-- The first k cells of the new row are the numbers. -/
def irowTo (C : Array Value) (zs : List Int) (k : Nat) : Prop := ∀ j, j < k → C[j]? = some (.int .i64 (zs.getD j 0))

theorem irowTo_set {C : Array Value} {zs : List Int} {k : Nat} (h : irowTo C zs k) (hk : k < C.size) : irowTo (C.setIfInBounds k (.int .i64 (zs.getD k 0))) zs (k + 1) := by
  intro j hj
  rw [Array.getElem?_setIfInBounds]
  by_cases e : k = j
  · subst e; simp [hk]
  · rw [if_neg e]; exact h j (by omega)

theorem icells_row {w : World} {C : Array Value} {zs : List Int} (h : irowTo C zs zs.length) : ICells (w.alloc (.cells C 3)) (some ⟨w.heap.size, 0, none⟩) zs := by
  intro j hj
  refine ⟨w.heap.size, 0, rfl, by simp, ?_⟩
  rw [World.cell?_alloc_at _ _ _ _ rfl, Nat.zero_add]
  exact h j hj

theorem info3 : (Try.prog.info? 3).map (fun i => (i.zero, i.size, i.bytes)) = some (some (.int .i64 0), 1, 8) := by kernel_rfl
theorem info33 : (Try.prog.info? 33).map (fun i => (i.zero, i.size, i.bytes)) = some (some (.pointer none), 1, 8) := by kernel_rfl

set_option maxHeartbeats 400000 in
theorem cloneInts_any (ad : Option Addr) (len cap : Nat) (zs : List Int) (w : World) (hlen : zs.length = len) (hl : len ≤ 18000000000000) (hc : ICells w ad zs) :
    Calls Try.prog 13 #[.slice ad len cap] w fun e w' => ∃ ad' cap', e = .returned (.slice ad' len cap') ∧ ICells w' ad' zs ∧ (∀ a, ad' = some a → a.block < w'.heap.size) ∧ Below w.heap.size w w' := by
  have hnl := fun W : World => Lib.run_eql_slice_nil (P := Try.prog) W 28 3 ad len cap 0 0 Try.underlying28
  cases ad with
  | none =>
    have h0 : zs = [] := by
      cases zs with
      | nil => rfl
      | cons a l => obtain ⟨b, off, e, _⟩ := hc 0 (by simp); cases e
    subst h0
    simp at hlen
    subst hlen
    clear hc
    go_enter Try.func13, Try.ntmps13
    go_wp2
    go_ret
    exact ⟨none, 0, rfl, icells_nil _ _, fun _ h => (by cases h), Below.refl _ _⟩
  | some a =>
    have hmk := run_make_row' (P := Try.prog) 28 3 (.int .i64 0) 8 Try.underlying28 info3 rfl .i64 .i64 len (by omega) (by omega)
    go_enter Try.func13, Try.ntmps13
    go_wp2
    go_loopw [4] (fun i wr => ∃ (k : Nat) (C : Array Value), k ≤ len ∧ i = .int .i64 k ∧ C.size = len ∧ irowTo C zs k ∧ wr = w.alloc (.cells C 3)) (fun i _ => len - (intOf i).toNat)
    case atStart => exact ⟨0, _, Nat.zero_le _, rfl, size_madeCells _ _, fun j hj => absurd hj (by omega), rfl⟩
    case round =>
      obtain ⟨k, C, hk, rfl, hC, hT, rfl⟩ := hrel
      by_cases hlt : k < len
      · obtain ⟨b, off, had, hb, hcell⟩ := hc k (by omega)
        obtain ⟨v0, hv0⟩ : ∃ v0, C[k]? = some v0 := ⟨_, Array.getElem?_eq_getElem (by omega)⟩
        have hT' := irowTo_set hT (show k < C.size by omega)
        generalize zs.getD k 0 = s at hcell hT'
        have HC : Hid (C.size = len) := hC
        have HT : Hid (irowTo (C.setIfInBounds k (.int .i64 s)) zs (k + 1)) := hT'
        cases had
        clear hc hlen hT hT' hC hmk hnl
        go_wp2
        go_roundw
        case rel => exact ⟨k + 1, _, by omega, by go_num, by rw [Array.size_setIfInBounds]; exact HC.out, HT.out, rfl⟩
        case measure => simp [intOf]; omega
      · have hkl : k = zs.length := by omega
        have HT : Hid (irowTo C zs zs.length) := hkl ▸ hT
        clear hc hlen hT hC hmk hnl hkl
        go_wp2
        go_ret
        exact ⟨_, _, rfl, icells_row HT.out, fun _ h => (by cases h; simp), (Below.refl _ _).alloc (Nat.le_refl _) _⟩

set_option maxHeartbeats 1000000 in
theorem zz10_any (ad ad2 : Option Addr) (len cap len2 cap2 : Nat) (ss : List ByteArray) (t0 : Int) (w : World) (hlen : ss.length = len) (hl : len ≤ 9000000000000) (hc : Cells w ad ss) :
    Calls Try.prog 10 #[.slice ad len cap, .slice ad2 len2 cap2, .int .i64 t0] w fun e w' => GivesBool e ∧ w' = w := by
  go_enter Try.func10, Try.ntmps10
  go_wp2
  · go_ret; exact ⟨givesBool _, rfl⟩
  go_loop [7, 8] (fun t i => ∃ (k : Nat) (z : Int), k ≤ len ∧ i = .int .i64 k ∧ t = .int .i64 z) (fun _ i => len - (intOf i).toNat)
  case atStart => exact ⟨0, _, Nat.zero_le _, rfl, rfl⟩
  case round =>
    obtain ⟨k, z, hk, rfl, rfl⟩ := hrel
    by_cases hlt : k < len
    · obtain ⟨b, off, had, hb, hcell⟩ := hc k (by omega)
      generalize ss.getD k ByteArray.empty = s at hcell
      clear hc hlen
      subst had
      go_wp2
      · go_ret; exact ⟨givesBool _, rfl⟩
      · go_ret; exact ⟨givesBool _, rfl⟩
      · go_round
        case rel => exact ⟨k + 1, _, by omega, by go_num, rfl⟩
        case measure => simp [intOf]; omega
    · go_wp2
      all_goals (go_ret; exact ⟨givesBool _, rfl⟩)

/-! ### Places -/
/-- The cells of a place that holds no keys. -/
def placeC (ln : Int) (m : Value) : Array Value := #[.int .i64 ln, m, .slice none 0 0]

theorem newPlace_any (ln : Int) (w : World) :
    Calls Try.prog 14 #[.int .i64 ln] w fun e w' => e = .returned (.pointer (some ⟨w.heap.size, 0, none⟩)) ∧ w' = w.alloc (.cells (placeC ln (.map none)) 50) := by
  go_enter Try.func14, Try.ntmps14
  go_wp2
  go_ret
  exact ⟨rfl, rfl⟩

theorem cell_of_block {w : World} {b o : Nat} {C : Array Value} {t : TypeId} {f : Nat × Nat} {v : Value} (h : w.heap[b]? = some (.cells C t f)) (hv : C[o]? = some v) : w.cell? ⟨b, o, none⟩ = some v := by
  unfold World.cell?; simp [h, hv]
theorem frozen_of_block {w : World} {b o : Nat} {C : Array Value} {t : TypeId} (h : w.heap[b]? = some (.cells C t)) : w.frozen? ⟨b, o, none⟩ = false := by
  unfold World.frozen?; simp [h]

theorem placeLine_any (g : Nat) (ln : Int) (m : Value) (w : World) (h : w.heap[g]? = some (.cells (placeC ln m) 50)) :
    Calls Try.prog 16 #[.pointer (some ⟨g, 0, none⟩)] w fun e w' => e = .returned (.int .i64 ln) ∧ w' = w := by
  have h0 : w.cell? ⟨g, 0, none⟩ = some (.int .i64 ln) := cell_of_block h rfl
  clear h
  go_enter Try.func16, Try.ntmps16
  go_wp2
  go_ret
  exact ⟨rfl, rfl⟩

theorem placeCount_nil (g : Nat) (ln : Int) (w : World) (h : w.heap[g]? = some (.cells (placeC ln (.map none)) 50)) :
    Calls Try.prog 17 #[.pointer (some ⟨g, 0, none⟩)] w fun e w' => e = .returned (.int .i64 0) ∧ w' = w := by
  have h0 : w.cell? ⟨g, 1, none⟩ = some (.map none) := cell_of_block h rfl
  have hl := Maps.len_nil (P := Try.prog) (w := w) (k := 9) Try.underlying48
  clear h
  go_enter Try.func17, Try.ntmps17
  go_wp2
  go_ret
  exact ⟨rfl, rfl⟩

end Go.Proofs.Qxb6600984a
