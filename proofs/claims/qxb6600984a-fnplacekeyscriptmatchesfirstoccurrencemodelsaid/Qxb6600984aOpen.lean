import Derived.Test.Qxb6600984aStrs
import Derived.ProofKit
import Derived.OpenShut
import Derived.ShutString
import Derived.ChangeOld
import Derived.Below
import Derived.SizedLaws
import Derived.SliceStrings
namespace Go.Proofs.Qxb6600984a
open Go.ChangeShapes Go.WideShapes Go.ChangeAt Go.RowKit

theorem cells9 : Try.prog.cellsOf 9 = 1 := by kernel_rfl
theorem bytes9 : Try.prog.bytesOf 9 = 16 := by kernel_rfl
theorem laidOut : laidOutB Try.prog = true := by kernel_rfl
theorem own : ownKnob Try.prog.godebug = none := by kernel_rfl

theorem open_cells {H : Type} {enc : TypeId × Value → H} {W : World} {a0 : Option Addr} {len cap : Nat} {d0 : DataW H} {p0 : List MemPlace}
    (h : DataW.Trod enc Try.prog W 0 (fun _ => true) true 27 (.slice a0 len cap) d0 p0) (lt : ∀ x ∈ p0, x.block < W.heap.size) :
    ∃ ss : List ByteArray, ss.length = len ∧ Cells W a0 ss ∧ (∀ s ∈ ss, s.size ≤ maxLen) ∧ (len = 0 ∨ ∃ a b, d0 = .slice a b ∧ len ≤ a.length + b.length) := by
  obtain ⟨fuel, hf⟩ := h
  rcases open_strings Try.underlying27 Try.underlying9 cells9 hf with ⟨hcs, hx⟩ | ⟨a, len', cap', ss, hcs, _, hl, hm, hz, hx, hcell, hws⟩
  · simp [Value.cells] at hcs
    obtain ⟨rfl, rfl, rfl⟩ := hcs
    exact ⟨[], rfl, cells_nil _ _, fun s hs => absurd hs (by simp), Or.inl rfl⟩
  · simp [Value.cells] at hcs
    obtain ⟨rfl, rfl, rfl⟩ := hcs
    simp only [Prod.mk.injEq] at hx
    obtain ⟨rfl, rfl⟩ := hx
    simp only [if_true] at hz
    refine ⟨ss.take len, by rw [List.length_take]; omega, ?_, fun s hs => hws s (List.mem_of_mem_take hs), Or.inr ⟨_, _, rfl, by simp only [strs, List.length_map, List.length_take, List.length_drop]; omega⟩⟩
    intro j hj
    rw [List.length_take] at hj
    obtain ⟨b, off, spot⟩ := a
    have hspot : spot = none := by simpa [Addr.add] using World.cell?_spot (hcell 0 (by omega))
    subst hspot
    refine ⟨b, off, rfl, lt (.cell b off) (MemPlace.mem_row.2 ⟨0, by omega, by simp⟩), ?_⟩
    rw [← add_plain, hcell j (by omega)]
    congr 2
    rw [List.getD, List.getD, List.getElem?_take_of_lt (by omega)]
end Go.Proofs.Qxb6600984a
