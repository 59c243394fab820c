import Derived.Test.Qxb6600984aOpen
import Derived.Test.Qxb6600984aPlace
namespace Go.Proofs.Qxb6600984a
open Go.ChangeShapes Go.WideShapes Go.ChangeAt Go.RowKit

theorem cells3 : Try.prog.cellsOf 3 = 1 := by kernel_rfl
theorem bytes3 : Try.prog.bytesOf 3 = 8 := by kernel_rfl

theorem open_icells {H : Type} {enc : TypeId × Value → H} {W : World} {a0 : Option Addr} {len cap : Nat} {d0 : DataW H} {p0 : List MemPlace}
    (h : DataW.Trod enc Try.prog W 0 (fun _ => true) true 28 (.slice a0 len cap) d0 p0) (lt : ∀ x ∈ p0, x.block < W.heap.size) :
    ∃ zs : List Int, zs.length = len ∧ ICells W a0 zs ∧ (len = 0 ∨ ∃ a b, d0 = .slice a b ∧ len ≤ a.length + b.length) := by
  obtain ⟨fuel, hf⟩ := h
  rcases open_ints Try.underlying28 Try.underlying3 cells3 hf with ⟨hcs, hx⟩ | ⟨a, len', cap', zs, hcs, _, hl, hm, hz, hx, hcell, hwz⟩
  · simp [Value.cells] at hcs
    obtain ⟨rfl, rfl, rfl⟩ := hcs
    exact ⟨[], rfl, icells_nil _ _, Or.inl rfl⟩
  · simp [Value.cells] at hcs
    obtain ⟨rfl, rfl, rfl⟩ := hcs
    simp only [Prod.mk.injEq] at hx
    obtain ⟨rfl, rfl⟩ := hx
    simp only [if_true] at hz
    refine ⟨zs.take len, by rw [List.length_take]; omega, ?_, Or.inr ⟨_, _, rfl, by simp only [lits, List.length_map, List.length_take, List.length_drop]; omega⟩⟩
    intro j hj
    rw [List.length_take] at hj
    obtain ⟨b, off, spot⟩ := a
    have hspot : spot = none := by simpa [Addr.add] using World.cell?_spot (hcell 0 (by omega))
    subst hspot
    refine ⟨b, off, rfl, lt (.cell b off) (MemPlace.mem_row.2 ⟨0, by omega, by simp⟩), ?_⟩
    rw [← add_plain, hcell j (by omega)]
    congr 2
    rw [List.getD, List.getD, List.getElem?_take_of_lt (by omega)]
end Go.Proofs.Qxb6600984a
