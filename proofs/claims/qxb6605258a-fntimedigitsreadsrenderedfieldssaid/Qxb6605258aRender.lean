import Derived.Test.Qxb6605258aPlain
namespace Go.Proofs.Qxb6605258a
open Go.RowKit

/-- The state while the text is rendered: the buffer in block g holds l; below g nothing has turned. -/
def S (w0 : World) (g : Nat) (w : World) (n : Nat) (l : List Int) : Prop := Buf w g n 40 l ∧ Below g w0 w

theorem S.app {w0 w : World} {g n : Nat} {l : List Int} {ops : Array Oper} {rest : List Oper} {o : Oper} {a : Act} {Q : Exit → Act → World → Prop}
    (hg : o.guard = none) (s x : Operand) (hop : o.op = Op.call { callee := Callee.builtin Builtin.append, args := #[s, x], argTypes := #[22, 22] })
    (b : Int) (m : Nat) (hs : a.eval s = .slice (some ⟨g, 0, none⟩) n 40) (hx : a.eval x = .slice (some ⟨w.heap.size, 0, none⟩) 1 1) (hb : S w0 g w n l) (hm : n + 1 = m) (hroom : m ≤ 40)
    (hK : ∀ w', S w0 g w' m (l ++ [b]) → w.grownBy w' (some g) → wpList Try.prog ops Q rest (a.put o.dst (.slice (some ⟨g, 0, none⟩) m 40)) w') :
    wpList Try.prog ops Q (o :: rest) a (w.alloc (.cells #[.int .u8 b] 5)) := by
  subst hm
  refine app1 hg s x hop g n 40 l b hs hx hb.1 hroom (fun w' h1 h2 => hK w' ⟨h1, hb.2.grown h2 (Nat.le_of_lt hb.1.lt) (fun k e => by cases e; exact Nat.le_refl _)⟩ h2)

theorem S.pad {w0 w : World} {g n m : Nat} {l : List Int} (v : Int) (width : Nat) (wi : Int) (hb : S w0 g w n l) (hwi : wi = (width : Int)) (hm : n + width = m) (hcap : m ≤ 40) (hw9 : width ≤ 9) (hv0 : 0 ≤ v) (hv1 : v ≤ 9999999999) :
    Calls Try.prog 15 #[.slice (some ⟨g, 0, none⟩) n 40, .int .i64 v, .int .i64 wi] w fun e w' => e = .returned (.slice (some ⟨g, 0, none⟩) m 40) ∧ S w0 g w' m (l ++ pad v width) ∧ w.heap.size ≤ w'.heap.size := by
  subst hwi
  refine (padded_any g n 40 m l v width w hb.1 hm hcap hw9 hv0 hv1).mono ?_
  rintro e w' ⟨rfl, h1, h2⟩
  exact ⟨rfl, ⟨h1, hb.2.grown h2 (Nat.le_of_lt hb.1.lt) (fun k e => by cases e; exact Nat.le_refl _)⟩, h2.size⟩

theorem S.start (w : World) (C : Array Value) (hC : C.size = 40) : S w w.heap.size (w.alloc (.cells C 5)) 0 [] :=
  ⟨Buf.made w 40 C hC (by unfold maxLen; omega), (Below.refl _ _).alloc (Nat.le_refl _) _⟩
theorem S.lt {w0 w : World} {g n : Nat} {l : List Int} (h : S w0 g w n l) : g < w.heap.size := h.1.lt
theorem S.other {w0 w w' : World} {g n g2 : Nat} {l : List Int} (h : S w0 g w n l) (hg : w.grownBy w' (some g2)) (hlt : g < g2) : S w0 g w' n l :=
  ⟨h.1.kept (hg.block g h.1.lt (by simp; omega)), h.2.grown hg (Nat.le_of_lt h.1.lt) (fun k e => by cases e; omega)⟩
theorem S.alloc {w0 w : World} {g n : Nat} {l : List Int} (h : S w0 g w n l) (o : Obj) : S w0 g (w.alloc o) n l :=
  ⟨h.1.alloc o, h.2.alloc (Nat.le_of_lt h.1.lt) o⟩
theorem S.conv {w0 w : World} {g n : Nat} {l : List Int} (h : S w0 g w n l) : (convert 22 9 (.slice (some ⟨g, 0, none⟩) n 40)).run Try.prog w = .ok (.string (strOfNums l)) w :=
  run_convert_bytes_arg w 22 5 Try.underlying22 Try.underlying5 g 0 n 40 l h.1.1 (fun i hi => by rw [Nat.zero_add]; exact h.1.cell i hi) 9 Try.underlying9
theorem S.is {w0 w : World} {g n : Nat} {l l' : List Int} (h : S w0 g w n l) (e : l = l') : S w0 g w n l' := e ▸ h

theorem made (n : Nat) (hn : n ≤ 1000) : ∃ C : Array Value, C.size = n ∧ ∀ w : World, (Instr.makeSlice 22 (.int .i64 0) (.int .i64 (n : Int))).run Try.prog w = .ok (.slice (some ⟨w.heap.size, 0, none⟩) 0 n) (w.alloc (.cells C 5)) := by
  obtain ⟨i0, hi, hz0, hz1, hz2⟩ := info_parts info5
  refine ⟨madeCells (Value.int .u8 0).cells (n * i0.size), by rw [size_madeCells, hz1]; omega, fun w => ?_⟩
  have := run_make (P := Try.prog) w 22 5 i0 (.int .u8 0) Try.underlying22 hi hz0 .i64 .i64 0 (n : Int) (by omega) (by omega) (by rw [hz2]; omega) (by omega)
  simpa using this

structure InRange (y mo d h mi s nanos : Int) (f : Nat) (oh om : Int) : Prop where
  y : 0 ≤ y ∧ y ≤ 9999
  mo : 0 ≤ mo ∧ mo ≤ 99
  d : 0 ≤ d ∧ d ≤ 99
  h : 0 ≤ h ∧ h ≤ 99
  mi : 0 ≤ mi ∧ mi ≤ 99
  s : 0 ≤ s ∧ s ≤ 99
  n : 0 ≤ nanos ∧ nanos ≤ 999999999
  f : f ≤ 9
  oh : 0 ≤ oh ∧ oh ≤ 99
  om : 0 ≤ om ∧ om ≤ 99

end Go.Proofs.Qxb6605258a
