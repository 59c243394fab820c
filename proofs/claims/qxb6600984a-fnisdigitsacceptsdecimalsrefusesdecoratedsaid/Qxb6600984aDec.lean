import Derived.Test.Qxb6600984aDigits
import Derived.Laws.IdiomStrings
namespace Go.Proofs.Qxb6600984a
open Go.RowKit

/-- From cell k on the row holds digits. -/
def tailDig (C : Array Value) (k : Nat) : Prop := ∀ j, k ≤ j → j < 20 → ∃ d : Int, 48 ≤ d ∧ d ≤ 57 ∧ C[j]? = some (.int .u8 d)

theorem tailDig_set {C : Array Value} {k : Nat} (hC : C.size = 20) (hk : k < 20) (h : tailDig C (k + 1)) (d : Int) (h1 : 48 ≤ d) (h2 : d ≤ 57) :
    tailDig (C.setIfInBounds k (.int .u8 d)) k := by
  intro j hj hj2
  by_cases e : j = k
  · subst e
    exact ⟨d, h1, h2, by rw [Array.getElem?_setIfInBounds]; simp [hC, hk]⟩
  · obtain ⟨d', a, b, c⟩ := h j (by omega) hj2
    refine ⟨d', a, b, ?_⟩
    rw [Array.getElem?_setIfInBounds, if_neg (by omega)]
    exact c

theorem sliceAt_eq (k : Nat) (hk : k < 20) (b : Nat) (W : World) :
    (Instr.sliceAt 46 (.pointer (some ⟨b, 0, none⟩)) (some (.int .i64 (k : Int))) none none).run Try.prog W = .ok (.slice (some ⟨b, k, none⟩) (20 - k) (20 - k)) W := by
  have e1 : Try.prog.arrayLen 46 = 20 := by kernel_rfl
  have ht : Try.prog.underlying 46 = some (.array (Try.prog.arrayLen 46) (Try.prog.elem 46)) := by kernel_rfl
  have hz : (sizeOf (Try.prog.elem 46)).run Try.prog W = .ok 1 W := by kernel_rfl
  rw [run_sliceAt_array_l W 46 _ ht .i64 _ (by omega) (by rw [e1]; omega), hz, e1]
  have hne : ¬ 20 = k := by omega
  simp only [Result.andThen, slicedAt, Int.toNat_natCast, if_neg hne]
  congr 3
  by_cases h0 : k = 0
  · subst h0; simp [Addr.add]
  · simp [Addr.add, h0]

theorem tail_bytes (C : Array Value) : ∀ (n k : Nat), n + k = 20 → tailDig C k → ∃ l : List UInt8, l.length = n ∧ digB l = true ∧ ∀ j (hj : j < l.length), C[k + j]? = some (.int .u8 (l[j].toNat : Int))
  | 0, k, _, _ => ⟨[], rfl, rfl, fun j hj => absurd hj (by simp)⟩
  | n + 1, k, hn, h => by
    obtain ⟨l, hl, hd, hc⟩ := tail_bytes C n (k + 1) (by omega) (fun j a b => h j (by omega) b)
    obtain ⟨d, d1, d2, hk⟩ := h k (Nat.le_refl _) (by omega)
    have ed : (((UInt8.ofNat d.toNat).toNat : Nat) : Int) = d := by
      have : (UInt8.ofNat d.toNat).toNat = d.toNat % 256 := (by simp); omega
    refine ⟨UInt8.ofNat d.toNat :: l, by simp [hl], ?_, ?_⟩
    · unfold digB at *
      rw [List.all_cons, hd, ed]; simp; omega
    · intro j hj
      cases j with
      | zero => simp only [List.getElem_cons_zero, Nat.add_zero]; rw [ed]; exact hk
      | succ j =>
        simp only [List.getElem_cons_succ]
        rw [show k + (j + 1) = k + 1 + j by omega]
        exact hc j (by simpa using hj)

theorem convert_eq (C : Array Value) (k : Nat) (hk : k < 20) (h : tailDig C k) (w : World) :
    ∃ s : ByteArray, isDig s.data.toList = true ∧ s.size ≤ 20 ∧ (convert 47 9 (.slice (some ⟨w.heap.size, k, none⟩) (20 - k) (20 - k))).run Try.prog (w.alloc (.cells C 46)) = .ok (.string s) (w.alloc (.cells C 46)) := by
  obtain ⟨l, hl, hd, hc⟩ := tail_bytes C (20 - k) k (by omega) h
  refine ⟨⟨l.toArray⟩, ?_, ?_, ?_⟩
  · unfold isDig
    rw [show (ByteArray.mk l.toArray).data.toList = l from by simp, hd]
    cases l with
    | nil => simp at hl; omega
    | cons a l => rfl
  · show l.toArray.size ≤ 20
    simp; omega
  · have := run_convert_bytes_back (P := Try.prog) (w.alloc (.cells C 46)) 47 9 5 ⟨w.heap.size, k, none⟩ (20 - k) l Try.underlying47 Try.underlying5 Try.underlying9 (fun j hj => by
      have e : (⟨w.heap.size, k, none⟩ : Addr).add j = ⟨w.heap.size, k + j, none⟩ := by unfold Addr.add; split <;> simp_all
      rw [e, World.cell?_alloc_at _ _ _ _ rfl]
      exact hc j hj)
    rw [hl] at this
    exact this

theorem pow_ge (k : Nat) (m : Int) (hm : m < (10 : Int) ^ (k + 1)) : m / 10 < (10 : Int) ^ k := by
  rw [Int.pow_succ] at hm
  omega

set_option maxHeartbeats 400000 in
theorem dec_any (n : Int) (w : World) (h0 : 0 ≤ n) (h1 : n ≤ 18446744073709551615) :
    Calls Try.prog 9 #[.int .u64 n] w fun e w' => ∃ s : ByteArray, e = .returned (.string s) ∧ isDig s.data.toList = true ∧ s.size ≤ 20 ∧ Grown w w' := by
  go_enter Try.func9, Try.ntmps9
  go_wp2
  go_loopw [4, 0] (fun i n wr => ∃ (k : Nat) (m : Int) (C : Array Value), k < 20 ∧ i = .int .i64 ((k : Int) + 1) ∧ n = .int .u64 m ∧ 0 ≤ m ∧ m < (10 : Int) ^ (k + 1) ∧ m ≤ 18446744073709551615 ∧ C.size = 20 ∧ tailDig C (k + 1) ∧ wr = w.alloc (.cells C 46)) (fun i _ _ => (intOf i).toNat)
  case atStart => exact ⟨19, n, _, by omega, rfl, rfl, h0, by omega, h1, rfl, fun j a b => absurd a (by omega), rfl⟩
  case round =>
    obtain ⟨k, m, C, hk, rfl, rfl, hm0, hm1, hm2, hC, hT, rfl⟩ := hrel
    obtain ⟨v0, hcell⟩ : ∃ v0, C[k]? = some v0 := ⟨_, Array.getElem?_eq_getElem (by omega)⟩
    have hT' := tailDig_set hC hk hT (48 + m % 10) (by omega) (by omega)
    obtain ⟨s, hs1, hs2, hcv⟩ := convert_eq _ k hk hT' w
    have hsl := sliceAt_eq k hk w.heap.size
    have HC : Hid (C.size = 20) := hC
    have HT : Hid (tailDig (C.setIfInBounds k (.int .u8 (48 + m % 10))) k) := hT'
    have HM : Hid (m < (10 : Int) ^ (k + 1)) := hm1
    have HS : Hid (isDig s.data.toList = true) := hs1
    clear hC hT hT' hm1 hs1
    go_wp2
    · go_ret
      exact ⟨s, rfl, HS.out, hs2, (Grown.refl _).alloc _ _⟩
    · have hz : (m / 10 == 0) = false := by assumption
      have hp := pow_ge k m HM.out
      have hk0 : k ≠ 0 := by
        intro e; subst e
        have : m / 10 = 0 := by simp at hp; omega
        rw [this] at hz; simp at hz
      obtain ⟨k', rfl⟩ : ∃ k', k = k' + 1 := ⟨k - 1, by omega⟩
      go_roundw
      case rel => exact ⟨k', m / 10, _, by omega, by go_num, rfl, by omega, hp, by omega, by rw [Array.size_setIfInBounds]; exact HC.out, HT.out, rfl⟩
      case measure => simp [intOf]; omega
end Go.Proofs.Qxb6600984a
