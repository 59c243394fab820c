import Derived.Test.Qxb6600984aRows
import Derived.WalkKit
import Derived.WalkSpells
import Derived.WalkLawsBesides
import Derived.Deep.OwnRows
namespace Go.Proofs.Qxb6600984a
open Go.RowKit

/-- The slice at 'ad' holds the strings ss. -/
def Cells (w : World) (ad : Option Addr) (ss : List ByteArray) : Prop :=
  ∀ j, j < ss.length → ∃ b off, ad = some ⟨b, off, none⟩ ∧ b < w.heap.size ∧ w.cell? ⟨b, off + j, none⟩ = some (.string (ss.getD j ByteArray.empty))

set_option maxHeartbeats 400000 in
theorem stringsBytes_any (ad : Option Addr) (len cap : Nat) (ss : List ByteArray) (w : World) (hlen : ss.length = len) (hl : len ≤ 9000000000000) (hc : Cells w ad ss) :
    Calls Try.prog 11 #[.slice ad len cap] w fun e w' => (∃ t : Int, e = .returned (.int .i64 t)) ∧ w' = w := by
  go_enter Try.func11, Try.ntmps11
  go_wp2
  go_loop [3, 4] (fun t i => ∃ (k : Nat) (z : Int), k ≤ len ∧ i = .int .i64 k ∧ t = .int .i64 z) (fun _ i => len - (intOf i).toNat)
  case atStart => exact ⟨0, 0, Nat.zero_le _, rfl, rfl⟩
  case round =>
    obtain ⟨k, z, hk, rfl, rfl⟩ := hrel
    by_cases hlt : k < len
    · obtain ⟨b, off, had, hb, hcell⟩ := hc k (by omega)
      generalize ss.getD k ByteArray.empty = s at hcell
      have HC : Hid (ss.length = len) := hlen
      clear hc hlen
      subst had
      go_wp2
      · go_ret
        exact ⟨⟨_, rfl⟩, rfl⟩
      · go_round
        case rel => exact ⟨k + 1, _, by omega, by go_num, rfl⟩
        case measure => simp [intOf]; omega
    · go_wp2
      go_ret
      exact ⟨⟨_, rfl⟩, rfl⟩

theorem Cells.below {w w' : World} {ad : Option Addr} {ss : List ByteArray} (h : Cells w ad ss) (hb : Below w.heap.size w w') : Cells w' ad ss := by
  intro j hj
  obtain ⟨b, off, e, hbl, hc⟩ := h j hj
  exact ⟨b, off, e, Nat.lt_of_lt_of_le hbl hb.size, (hb.cell (p := ⟨b, off + j, none⟩) hbl).trans hc⟩

theorem Cells.grown {w w' : World} {ad : Option Addr} {ss : List ByteArray} (h : Cells w ad ss) {row : Nat} (hg : w.grownBy w' (some row)) (hr : ∀ a, ad = some a → a.block ≠ row) : Cells w' ad ss := by
  intro j hj
  obtain ⟨b, off, e, hbl, hc⟩ := h j hj
  exact ⟨b, off, e, Nat.lt_of_lt_of_le hbl hg.size, hg.cell hc (by have := hr _ e; simpa using this)⟩

theorem cells_nil (w : World) (ad : Option Addr) : Cells w ad [] := fun j hj => absurd hj (by simp)

/-- The first k cells of the new row are the strings. -/
def rowTo (C : Array Value) (ss : List ByteArray) (k : Nat) : Prop := ∀ j, j < k → C[j]? = some (.string (ss.getD j ByteArray.empty))

theorem rowTo_set {C : Array Value} {ss : List ByteArray} {k : Nat} (h : rowTo C ss k) (hk : k < C.size) : rowTo (C.setIfInBounds k (.string (ss.getD k ByteArray.empty))) ss (k + 1) := by
  intro j hj
  rw [Array.getElem?_setIfInBounds]
  by_cases e : k = j
  · subst e; simp [hk]
  · rw [if_neg e]; exact h j (by omega)

theorem cells_row {w : World} {C : Array Value} {ss : List ByteArray} (h : rowTo C ss ss.length) : Cells (w.alloc (.cells C 9)) (some ⟨w.heap.size, 0, none⟩) ss := by
  intro j hj
  refine ⟨w.heap.size, 0, rfl, by simp, ?_⟩
  rw [World.cell?_alloc_at _ _ _ _ rfl, Nat.zero_add]
  exact h j hj

theorem info9 : (Try.prog.info? 9).map (fun i => (i.zero, i.size, i.bytes)) = some (some (.string ByteArray.empty), 1, 16) := by kernel_rfl

set_option maxHeartbeats 400000 in
theorem cloneStrings_any (ad : Option Addr) (len cap : Nat) (ss : List ByteArray) (w : World) (hlen : ss.length = len) (hl : len ≤ 9000000000000) (hc : Cells w ad ss) :
    Calls Try.prog 12 #[.slice ad len cap] w fun e w' => ∃ ad' cap', e = .returned (.slice ad' len cap') ∧ Cells w' ad' ss ∧ (∀ a, ad' = some a → a.block < w'.heap.size) ∧ Below w.heap.size w w' := by
  have hnl := fun W : World => Lib.run_eql_slice_nil (P := Try.prog) W 27 9 ad len cap 0 0 Try.underlying27
  cases ad with
  | none =>
    have h0 : ss = [] := by
      cases ss with
      | nil => rfl
      | cons a l => obtain ⟨b, off, e, _⟩ := hc 0 (by simp); cases e
    subst h0
    simp at hlen
    subst hlen
    clear hc
    go_enter Try.func12, Try.ntmps12
    go_wp2
    go_ret
    exact ⟨none, 0, rfl, cells_nil _ _, fun _ h => (by cases h), Below.refl _ _⟩
  | some a =>
    have hmk := run_make_row' (P := Try.prog) 27 9 (.string ByteArray.empty) 16 Try.underlying27 info9 rfl .i64 .i64 len (by omega) (by omega)
    go_enter Try.func12, Try.ntmps12
    go_wp2
    go_loopw [4] (fun i wr => ∃ (k : Nat) (C : Array Value), k ≤ len ∧ i = .int .i64 k ∧ C.size = len ∧ rowTo C ss k ∧ wr = w.alloc (.cells C 9)) (fun i _ => len - (intOf i).toNat)
    case atStart => exact ⟨0, _, Nat.zero_le _, rfl, size_madeCells _ _, fun j hj => absurd hj (by omega), rfl⟩
    case round =>
      obtain ⟨k, C, hk, rfl, hC, hT, rfl⟩ := hrel
      by_cases hlt : k < len
      · obtain ⟨b, off, had, hb, hcell⟩ := hc k (by omega)
        obtain ⟨v0, hv0⟩ : ∃ v0, C[k]? = some v0 := ⟨_, Array.getElem?_eq_getElem (by omega)⟩
        have hT' := rowTo_set hT (show k < C.size by omega)
        generalize ss.getD k ByteArray.empty = s at hcell hT'
        have HC : Hid (C.size = len) := hC
        have HT : Hid (rowTo (C.setIfInBounds k (.string s)) ss (k + 1)) := hT'
        cases had
        clear hc hlen hT hT' hC hmk hnl
        go_wp2
        go_roundw
        case rel => exact ⟨k + 1, _, by omega, by go_num, by rw [Array.size_setIfInBounds]; exact HC.out, HT.out, rfl⟩
        case measure => simp [intOf]; omega
      · have hkl : k = ss.length := by omega
        have HT : Hid (rowTo C ss ss.length) := hkl ▸ hT
        clear hc hlen hT hC hmk hnl hkl
        go_wp2
        go_ret
        exact ⟨_, _, rfl, cells_row HT.out, fun _ h => (by cases h; simp), (Below.refl _ _).alloc (Nat.le_refl _) _⟩
end Go.Proofs.Qxb6600984a
