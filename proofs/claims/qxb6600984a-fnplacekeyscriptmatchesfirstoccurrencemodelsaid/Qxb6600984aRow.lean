import Derived.Test.Qxb6600984aZz
import Derived.Maps.OwnSet
import Derived.Laws.ResultCell
namespace Go.Proofs.Qxb6600984a
open Go.RowKit Go.Maps Go.WideMaps

theorem law9 : Keyed Try.prog 9 := string_keyed Try.underlying9
theorem zero3 (w : World) : (zeroValue 3).run Try.prog w = .ok (.int .i64 0) w := by kernel_rfl
/-- What a string key reads as. -/
def keyL (s : ByteArray) : Lit := .string s.data.toList
theorem keyL_inj {s t : ByteArray} (h : keyL s = keyL t) : s = t := by
  unfold keyL at h
  injection h with h
  exact Go.WideShapes.bytes_inj h
theorem keyL_is (s : ByteArray) : WideAt.IsKeyLit (keyL s) := trivial

theorem toList_inj {a b : ByteArray} (h : a.toList = b.toList) : a = b := by
  rw [ByteArray.toList_eq, ByteArray.toList_eq] at h; exact Go.WideShapes.bytes_inj h
/-- Is s on the list? -/
def inB (s : ByteArray) (hs : List ByteArray) : Bool := hs.any fun t => t.toList == s.toList
theorem inB_true {s : ByteArray} {hs : List ByteArray} (h : s ∈ hs) : inB s hs = true := by
  unfold inB; rw [List.any_eq_true]; exact ⟨s, h, by simp⟩
theorem inB_mem {s : ByteArray} {hs : List ByteArray} (h : inB s hs = true) : s ∈ hs := by
  unfold inB at h; rw [List.any_eq_true] at h
  obtain ⟨t, ht, e⟩ := h
  exact toList_inj (eq_of_beq e) ▸ ht
theorem inB_false {s : ByteArray} {hs : List ByteArray} (h : s ∉ hs) : inB s hs = false := by
  cases e : inB s hs with
  | false => rfl
  | true => exact absurd (inB_mem e) h
theorem not_of_inB {s : ByteArray} {hs : List ByteArray} (h : inB s hs = false) : s ∉ hs := fun hm => by rw [inB_true hm] at h; cases h

/-- Block m is the map from each of the strings hs to its place in that list. -/
def ColMap (w : World) (m n : Nat) (hs : List ByteArray) : Prop :=
  ∃ D : DataW Unit, w.ownsMap Try.prog 9 (plainElem Try.prog 3) m n D ∧ (∀ s, Maps.has D (keyL s) = inB s hs) ∧ ∀ j, j < hs.length → D.atKey (keyL (hs.getD j ByteArray.empty)) (.lit (.int .i64 0)) = .lit (.int .i64 (j : Int))

theorem ColMap.made (w : World) : ColMap (w.alloc (.map #[] 0)) w.heap.size 0 [] :=
  ⟨.map [], World.ownsMap_made _ _ _ _, fun s => rfl, fun j hj => absurd hj (by simp)⟩

theorem ColMap.lt {w : World} {m n : Nat} {hs : List ByteArray} (h : ColMap w m n hs) : m < w.heap.size := by
  obtain ⟨D, h, _⟩ := h; exact h.lt

theorem ColMap.below {w w' : World} {m n : Nat} {hs : List ByteArray} (h : ColMap w m n hs) (hb : Below w.heap.size w w') : ColMap w' m n hs := by
  have hlt := h.lt
  obtain ⟨D, ⟨es, clock, h1, h2⟩, h3⟩ := h
  exact ⟨D, ⟨es, clock, (hb.block m hlt).trans h1, h2⟩, h3⟩

theorem ColMap.look {w : World} {m n : Nat} {hs : List ByteArray} (h : ColMap w m n hs) (s : ByteArray) (hsz : s.size ≤ maxLen) :
    ∃ c : Int, (Instr.lookup 39 (.map (some m)) (.string s) true).run Try.prog w = .ok (.tuple #[.int .i64 c, .bool (inB s hs)]) w ∧ (∀ j, j < hs.length → hs.getD j ByteArray.empty = s → c = (j : Int)) := by
  obtain ⟨D, hown, hh, ha⟩ := h
  obtain ⟨v, ps, hrun, hv⟩ := hown.look_ok law9 Try.underlying39 (zero3 _) (plainElem_int (H := Unit) Try.underlying3 (by decide)) (keyOf_string_mk Try.underlying9 hsz)
  obtain ⟨c, rfl, hc, _⟩ := plainElem_int_inv Try.underlying3 hv
  refine ⟨c, ?_, ?_⟩
  · rw [hrun]; rw [show Lit.string s.data.toList = keyL s from rfl, hh s]
  · intro j hj e
    have := ha j hj
    rw [e] at this
    have h2 := congrArg Prod.fst hc
    simp only at h2
    rw [show Lit.string s.data.toList = keyL s from rfl, this] at h2
    injection h2 with h2
    injection h2 with _ h2
    exact h2.symm

theorem ColMap.store {w : World} {m n : Nat} {hs : List ByteArray} (h : ColMap w m n hs) (s : ByteArray) (hsz : s.size ≤ maxLen) (hn : n < maxLen) (hne : s ∉ hs) (hl : hs.length ≤ 65536) :
    ∃ w', (Instr.mapUpdate 39 (.map (some m)) (.string s) (.int .i64 (hs.length : Int))).run Try.prog w = .ok () w' ∧ ColMap w' m (n + 1) (hs ++ [s]) ∧ w.grownBy w' (some m) := by
  obtain ⟨D, hown, hh, ha⟩ := h
  have hwf : (Lit.int .i64 (hs.length : Int)).wf = true := by simp [Lit.wf, IntKind.min, IntKind.max, IntKind.signed, IntKind.bits]; omega
  have hD : IsMap D := hown.isMap
  obtain ⟨w', hrun, hown', hg⟩ := hown.update law9 Try.underlying39 hn (keyOf_string_mk Try.underlying9 hsz) (plainElem_int (H := Unit) Try.underlying3 hwf)
  refine ⟨w', hrun, ⟨_, hown', ?_, ?_⟩, hg⟩
  · intro t
    by_cases e : t = s
    · subst e
      have := Maps.has_put_same hD (keyL_is t) (.lit (.int .i64 (hs.length : Int)))
      rw [show Lit.string t.data.toList = keyL t from rfl, this, inB_true (by simp)]
    · rw [show Lit.string s.data.toList = keyL s from rfl, Maps.has_put_other (fun he => e (keyL_inj he)), hh t]
      unfold inB; rw [List.any_append]
      have : (s.toList == t.toList) = false := by
        cases he : (s.toList == t.toList) with
        | false => rfl
        | true => exact absurd (toList_inj (eq_of_beq he)).symm e
      simp [this]
  · intro j hj
    rw [show Lit.string s.data.toList = keyL s from rfl]
    simp only [List.length_append, List.length_cons, List.length_nil] at hj
    by_cases e : j < hs.length
    · have e1 : (hs ++ [s]).getD j ByteArray.empty = hs.getD j ByteArray.empty := by
        rw [List.getD, List.getElem?_append_left e, ← List.getD]
      rw [e1]
      have hmem : hs.getD j ByteArray.empty ∈ hs := by
        rw [List.getD, List.getElem?_eq_getElem e]; exact List.getElem_mem e
      rw [Maps.atKey_put_other (fun he => hne (by have := keyL_inj he; rw [← this]; exact hmem))]
      exact ha j e
    · have ej : j = hs.length := by omega
      subst ej
      have e1 : (hs ++ [s]).getD hs.length ByteArray.empty = s := by simp [List.getD]
      rw [e1, Maps.atKey_put_same hD (keyL_is s)]

/-- The row as a value. -/
def rowV (cb : Nat) (ad : Option Addr) (len cap : Nat) : Value := .agg #[.pointer (some ⟨cb, 0, none⟩), .int .i64 0, .slice ad len cap]

set_option maxHeartbeats 1000000 in
theorem makeRow_any (m : Nat) (ad : Option Addr) (len cap : Nat) (w : World) :
    Calls Try.prog 19 #[.map (some m), .slice ad len cap] w fun e w' => e = .returned (.agg #[.pointer (some ⟨w.heap.size + 1, 0, none⟩), .int .i64 0, .slice ad len cap]) ∧ w'.cell? ⟨w.heap.size + 1, 2, none⟩ = some (.map (some m)) ∧ w'.heap.size = w.heap.size + 2 ∧ Below w.heap.size w w' := by
  go_enter Try.func19, Try.ntmps19
  go_wp2
  refine bodyPost_ret (v := .agg #[.pointer (some ⟨w.heap.size + 1, 0, none⟩), .int .i64 0, .slice ad len cap]) (by simp [results, Try.results19, go_sem]) rfl ⟨rfl, ?_, ?_, ?_⟩
  · rw [World.cell?_alloc_at _ _ _ _ (by simp)]; rfl
  · simp
  · exact ((Below.refl _ _).alloc (Nat.le_refl _) _).alloc (by simp) _

theorem ret_str {a b : ByteArray} (h : a = b) : Ending.returned (.string a) = .returned (.string b) := by rw [h]

set_option maxHeartbeats 1000000 in
/-- Row.Value at a column that the header has. -/
theorem value_yes (cb m n : Nat) (ad : Option Addr) (len cap : Nat) (hs fs : List ByteArray) (s : ByteArray) (w : World) (hcb : cb < w.heap.size) (hcsv : w.cell? ⟨cb, 2, none⟩ = some (.map (some m))) (hm : ColMap w m n hs) (hsz : s.size ≤ maxLen)
    (hlf : fs.length = len) (hlh : hs.length = len) (hc : Cells w ad fs) (j : Nat) (hj : j < len) (hjs : hs.getD j ByteArray.empty = s) :
    Calls Try.prog 20 #[.agg #[.pointer (some ⟨cb, 0, none⟩), .int .i64 0, .slice ad len cap], .string s] w fun e w' => e = .returned (.string (fs.getD j ByteArray.empty)) ∧ w' = w.alloc (.cells #[.pointer (some ⟨cb, 0, none⟩), .int .i64 0, .slice ad len cap] 43) := by
  obtain ⟨c, hlook, hat⟩ := (hm.below ((Below.refl w.heap.size w).alloc (Nat.le_refl _) (.cells #[.pointer (some ⟨cb, 0, none⟩), .int .i64 0, .slice ad len cap] 43))).look s hsz
  have ec : c = (j : Int) := hat j (by omega) hjs
  subst ec
  have hmem : s ∈ hs := by rw [← hjs, List.getD, List.getElem?_eq_getElem (by omega)]; exact List.getElem_mem _
  rw [inB_true hmem] at hlook
  obtain ⟨b, off, had, hb, hcell⟩ := hc j (by omega)
  generalize fs.getD j ByteArray.empty = t at hcell
  subst had
  clear hat hmem hm hjs hc hlf hlh
  go_enter Try.func20, Try.ntmps20
  go_wp2
  go_ret
  exact ⟨rfl, rfl⟩

set_option maxHeartbeats 1000000 in
/-- Row.Value at a column that the header does not name. -/
theorem value_no (cb m n : Nat) (ad : Option Addr) (len cap : Nat) (hs : List ByteArray) (s : ByteArray) (w : World) (hcb : cb < w.heap.size) (hcsv : w.cell? ⟨cb, 2, none⟩ = some (.map (some m))) (hm : ColMap w m n hs) (hsz : s.size ≤ maxLen) (hne : s ∉ hs) :
    Calls Try.prog 20 #[.agg #[.pointer (some ⟨cb, 0, none⟩), .int .i64 0, .slice ad len cap], .string s] w fun e w' => e = .returned (.string ⟨#[]⟩) ∧ w' = w.alloc (.cells #[.pointer (some ⟨cb, 0, none⟩), .int .i64 0, .slice ad len cap] 43) := by
  obtain ⟨c, hlook, _⟩ := (hm.below ((Below.refl w.heap.size w).alloc (Nat.le_refl _) (.cells #[.pointer (some ⟨cb, 0, none⟩), .int .i64 0, .slice ad len cap] 43))).look s hsz
  rw [inB_false hne] at hlook
  clear hm hne
  go_enter Try.func20, Try.ntmps20
  go_wp2
  go_ret
  exact ⟨rfl, rfl⟩
end Go.Proofs.Qxb6600984a
