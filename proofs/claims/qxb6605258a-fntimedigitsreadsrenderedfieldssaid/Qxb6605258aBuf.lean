import Derived.Test.Qxb6605258aRows
import Derived.WalkKit
import Derived.WalkSpells
import Derived.WalkLawsBesides
import Derived.Deep.OwnRows
namespace Go.Proofs.Qxb6605258a
open Go.RowKit

/-- The row in block g holds the n bytes l; there is room for cap. -/
def Buf (w : World) (g n cap : Nat) (l : List Int) : Prop :=
  l.length = n ∧ w.ownsRow g 5 1 (.slice (some ⟨g, 0, none⟩) n cap) n (l.map (Value.int .u8))

theorem info5 : (Try.prog.info? 5).map (fun i => (i.zero, i.size, i.bytes)) = some (some (.int .u8 0), 1, 1) := by kernel_rfl

theorem Buf.alloc {w : World} {g n cap : Nat} {l : List Int} (h : Buf w g n cap l) (o : Obj) : Buf (w.alloc o) g n cap l := ⟨h.1, h.2.alloc o⟩
theorem Buf.drew {w : World} {g n cap : Nat} {l : List Int} (h : Buf w g n cap l) : Buf w.drew g n cap l := h
theorem Buf.blk {w : World} {g n cap : Nat} {l : List Int} (h : Buf w g n cap l) : ∃ C, w.heap[g]? = some (.cells C 5) := by
  rcases h.2.2 with ⟨e, _⟩ | ⟨g', cap', cur, e, _, hh, _⟩
  · cases e
  · cases e; exact ⟨cur, hh⟩
theorem Buf.lt {w : World} {g n cap : Nat} {l : List Int} (h : Buf w g n cap l) : g < w.heap.size := by
  obtain ⟨C, h⟩ := h.blk; exact (Array.getElem?_eq_some_iff.1 h).1
theorem Buf.kept {w w' : World} {g n cap : Nat} {l : List Int} (h : Buf w g n cap l) (hb : w'.heap[g]? = w.heap[g]?) : Buf w' g n cap l := by
  refine ⟨h.1, h.2.1, ?_⟩
  rcases h.2.2 with h2 | ⟨g', cap', cur, e, a, hh, r⟩
  · exact Or.inl h2
  · cases e; exact Or.inr ⟨_, _, cur, rfl, a, hb.trans hh, r⟩
theorem Buf.cell {w : World} {g n cap : Nat} {l : List Int} (h : Buf w g n cap l) (j : Nat) (hj : j < n) : w.cell? ⟨g, j, none⟩ = some (.int .u8 (l.getD j 0)) := by
  have := h.2.cells (g := g) rfl j (.int .u8 (l.getD j 0)) (by
    rw [List.getElem?_map, List.getD, List.getElem?_eq_getElem (by rw [h.1]; exact hj)]; rfl)
  have e : (⟨g, 0, none⟩ : Addr).add j = ⟨g, j, none⟩ := by unfold Addr.add; split <;> simp_all
  rw [e] at this; exact this

theorem Buf.made (w : World) (cap : Nat) (C : Array Value) (hC : C.size = cap) (hm : cap ≤ maxLen) : Buf (w.alloc (.cells C 5)) w.heap.size 0 cap [] :=
  ⟨rfl, World.ownsRow_made w C cap (Nat.le_refl _) hm (by omega)⟩

/-- 'append' of one byte where there is room. -/
theorem app1 {w : World} {ops : Array Oper} {rest : List Oper} {o : Oper} {a : Act} {Q : Exit → Act → World → Prop}
    (hg : o.guard = none) (s x : Operand) (hop : o.op = Op.call { callee := Callee.builtin Builtin.append, args := #[s, x], argTypes := #[22, 22] })
    (g n cap : Nat) (l : List Int) (b : Int) (hs : a.eval s = .slice (some ⟨g, 0, none⟩) n cap) (hx : a.eval x = .slice (some ⟨w.heap.size, 0, none⟩) 1 1) (hb : Buf w g n cap l) (hroom : n < cap)
    (hK : ∀ w', Buf w' g (n + 1) cap (l ++ [b]) → w.grownBy w' (some g) → wpList Try.prog ops Q rest (a.put o.dst (.slice (some ⟨g, 0, none⟩) (n + 1) cap)) w') :
    wpList Try.prog ops Q (o :: rest) a (w.alloc (.cells #[.int .u8 b] 5)) := by
  obtain ⟨i0, hi, hz0, hz1, hz2⟩ := info_parts info5
  refine wpList_append_fits _ hg s x 22 hop g 5 i0 1 Try.underlying22 hi hz1 g n cap (l.map (Value.int .u8)) hs (hb.2.alloc _) ⟨w.heap.size, 0, none⟩ 1 1 [.int .u8 b] hx rfl (cell_one_new _ _ _) (ints_oneCell .u8 [b]) (by omega) ?_
  intro w' hown hgrow
  refine hK w' ⟨by simp [hb.1], by rw [List.map_append]; exact hown⟩ ?_
  exact ((World.grownBy_alloc w _ _).trans hgrow)
end Go.Proofs.Qxb6605258a
