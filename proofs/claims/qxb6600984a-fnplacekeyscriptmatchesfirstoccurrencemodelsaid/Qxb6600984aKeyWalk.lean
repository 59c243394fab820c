import Derived.Test.Qxb6600984aKey
namespace Go.Proofs.Qxb6600984a
open Go.RowKit Go.Maps Go.WideMaps

/-- From w to w' nothing has turned but the blocks pb and m, and what is new. -/
structure KeyOut (w w' : World) (pb m : Nat) : Prop where
  os : w'.os = w.os
  tape : w'.tape = w.tape
  output : w'.output = w.output
  size : w.heap.size ≤ w'.heap.size
  block : ∀ b, b < w.heap.size → b ≠ pb → b ≠ m → w'.heap[b]? = w.heap[b]?

set_option maxHeartbeats 1000000 in
theorem key_has (pb m n c : Nat) (top ln : Int) (ks : List ByteArray) (G : List Nat) (s : ByteArray) (w : World) (hp : w.heap[pb]? = some (.cells (placeC top (.map (some m))) 50)) (ht : Tab w m n ks G c) (hsz : s.size ≤ maxLen) (i : Nat) (hi : i < ks.length) (his : ks.getD i ByteArray.empty = s) :
    Calls Try.prog 22 #[.pointer (some ⟨pb, 0, none⟩), .string s, .int .i64 ln] w fun e w' => e = .returned (.pointer (some ⟨G.getD i 0, 0, none⟩)) ∧ w' = w := by
  have hlook := ht.look_has s hsz i hi his
  have h1 : w.cell? ⟨pb, 1, none⟩ = some (.map (some m)) := cell_of_block hp rfl
  have hmn := fun W : World => run_eql_map_nil (P := Try.prog) W 48 9 33 (some m) Try.underlying48
  clear ht hp his
  go_enter Try.func22, Try.ntmps22
  go_wp2
  go_ret
  exact ⟨rfl, rfl⟩

set_option maxHeartbeats 1000000 in
theorem key_new (pb m n c : Nat) (top ln : Int) (ks : List ByteArray) (G : List Nat) (s : ByteArray) (w : World) (hpm : pb ≠ m) (hp : w.heap[pb]? = some (.cells (placeC top (.map (some m))) 50)) (ht : Tab w m n ks G c) (hsz : s.size ≤ maxLen) (hn : n < maxLen) (hne : s ∉ ks) (hG : G.length = ks.length) :
    Calls Try.prog 22 #[.pointer (some ⟨pb, 0, none⟩), .string s, .int .i64 ln] w fun e w' => e = .returned (.pointer (some ⟨w.heap.size, 0, none⟩)) ∧ w'.heap[pb]? = some (.cells (placeC top (.map (some m))) 50) ∧ Tab w' m (n + 1) (ks ++ [s]) (G ++ [w.heap.size]) (c + 1) ∧ w'.heap[w.heap.size]? = some (.cells (placeC ln (.map none)) 50) ∧ KeyOut w w' pb m := by
  have hlook := ht.look_no s hsz hne
  have h1 : w.cell? ⟨pb, 1, none⟩ = some (.map (some m)) := cell_of_block hp rfl
  have hmn := fun W : World => run_eql_map_nil (P := Try.prog) W 48 9 33 (some m) Try.underlying48
  have hpl : pb < w.heap.size := (Array.getElem?_eq_some_iff.1 hp).1
  have hml := ht.lt
  obtain ⟨w', hst, ht', hg⟩ := (ht.kept (w' := w.alloc (.cells (placeC ln (.map none)) 50)) (Below.heap_alloc _ _ _ hml)).store s hsz hn hne hG w.heap.size
  have HR : Hid (w'.heap[pb]? = some (.cells (placeC top (.map (some m))) 50) ∧ Tab w' m (n + 1) (ks ++ [s]) (G ++ [w.heap.size]) (c + 1) ∧ w'.heap[w.heap.size]? = some (.cells (placeC ln (.map none)) 50) ∧ KeyOut w w' pb m) := by
    refine ⟨?_, ht', ?_, ⟨hg.os, hg.tape, hg.output, ?_, ?_⟩⟩
    · rw [hg.block pb (by simp; omega) (by simpa using hpm), Below.heap_alloc _ _ _ hpl]; exact hp
    · rw [hg.block w.heap.size (by simp) (by simp; omega)]; exact heap_alloc_new _ _
    · have := hg.size; simp at this; omega
    · intro b hb _ hbm
      rw [hg.block b (by simp; omega) (by simpa using hbm), Below.heap_alloc _ _ _ hb]
  clear ht hp ht' hg hne hG
  unfold placeC at hst
  go_enter Try.func22, Try.ntmps22
  go_wp2
  go_ret
  exact ⟨rfl, HR.out⟩

set_option maxHeartbeats 1000000 in
theorem key_first (pb : Nat) (top ln : Int) (s : ByteArray) (w : World) (hp : w.heap[pb]? = some (.cells (placeC top (.map none)) 50)) (hsz : s.size ≤ maxLen) :
    Calls Try.prog 22 #[.pointer (some ⟨pb, 0, none⟩), .string s, .int .i64 ln] w fun e w' => e = .returned (.pointer (some ⟨w.heap.size + 1, 0, none⟩)) ∧ w'.heap[pb]? = some (.cells (placeC top (.map (some w.heap.size))) 50) ∧ Tab w' w.heap.size 1 [s] [w.heap.size + 1] 1 ∧ w'.heap[w.heap.size + 1]? = some (.cells (placeC ln (.map none)) 50) ∧ KeyOut w w' pb pb := by
  have h1 : w.cell? ⟨pb, 1, none⟩ = some (.map none) := cell_of_block hp rfl
  have hf1 : w.frozen? ⟨pb, 1, none⟩ = false := frozen_of_block hp
  have hmm := @run_makeMap Try.prog
  have hmn := fun W : World => run_eql_map_nil (P := Try.prog) W 48 9 33 none Try.underlying48
  have hpl : pb < w.heap.size := (Array.getElem?_eq_some_iff.1 hp).1
  have hT0 : Tab ((w.setCell ⟨pb, 1, none⟩ (.map (some w.heap.size))).alloc (.map #[] 0)) w.heap.size 0 [] [] 0 := Tab.made _ _ (by simp)
  have hlook := hT0.look_no s hsz (by simp)
  obtain ⟨w', hst, ht', hg⟩ := (hT0.kept (w' := ((w.setCell ⟨pb, 1, none⟩ (.map (some w.heap.size))).alloc (.map #[] 0)).alloc (.cells (placeC ln (.map none)) 50)) (Below.heap_alloc _ _ _ (by simp))).store s hsz (by unfold maxLen; omega) (by simp) rfl (w.heap.size + 1)
  have HR : Hid (w'.heap[pb]? = some (.cells (placeC top (.map (some w.heap.size))) 50) ∧ Tab w' w.heap.size 1 [s] [w.heap.size + 1] 1 ∧ w'.heap[w.heap.size + 1]? = some (.cells (placeC ln (.map none)) 50) ∧ KeyOut w w' pb pb) := by
    refine ⟨?_, ht', ?_, ⟨hg.os, hg.tape, hg.output, ?_, ?_⟩⟩
    · rw [hg.block pb (by simp; omega) (by simp; omega), Below.heap_alloc _ _ _ (by simp; omega), Below.heap_alloc _ _ _ (by simp; omega), heap_setCell_same w pb 1 _ _ _ hp]; rfl
    · rw [hg.block (w.heap.size + 1) (by simp) (by simp)]
      have := heap_alloc_new ((w.setCell ⟨pb, 1, none⟩ (.map (some w.heap.size))).alloc (.map #[] 0)) (.cells (placeC ln (.map none)) 50)
      simpa using this
    · have := hg.size; simp at this; omega
    · intro b hb hbp _
      rw [hg.block b (by simp; omega) (by simp; omega), Below.heap_alloc _ _ _ (by simp; omega), Below.heap_alloc _ _ _ (by simp; omega), Below.heap_setCell _ _ _ _ hbp]
  clear hT0 hp ht' hg
  unfold placeC at hst
  go_enter Try.func22, Try.ntmps22
  go_wp2
  go_ret
  exact ⟨rfl, HR.out⟩
end Go.Proofs.Qxb6600984a
