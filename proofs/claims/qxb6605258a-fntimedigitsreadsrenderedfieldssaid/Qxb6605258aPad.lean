import Derived.Test.Qxb6605258aBuf
namespace Go.Proofs.Qxb6605258a
open Go.RowKit

/-- v in k decimal digits. -/
def pad (v : Int) : Nat → List Int
  | 0 => []
  | k + 1 => pad (v / 10) k ++ [48 + v % 10]
theorem pad_length : ∀ (k : Nat) (v : Int), (pad v k).length = k
  | 0, _ => rfl
  | k + 1, v => by unfold pad; rw [List.length_append, pad_length k]; rfl
theorem pad_dig : ∀ (k : Nat) (v : Int), ∀ x ∈ pad v k, 48 ≤ x ∧ x ≤ 57
  | 0, _, x, h => absurd h (by simp [pad])
  | k + 1, v, x, h => by
    unfold pad at h
    rw [List.mem_append] at h
    rcases h with h | h
    · exact pad_dig k _ x h
    · simp at h; omega

/-- From cell k on the array holds t. -/
def tailIs (C : Array Value) (k : Nat) (t : List Int) : Prop := ∀ j, j < t.length → C[k + j]? = some (.int .u8 (t.getD j 0))

theorem tailIs_set {C : Array Value} {k : Nat} {t : List Int} (h : tailIs C (k + 1) t) (hk : k < C.size) (x : Int) : tailIs (C.setIfInBounds k (.int .u8 x)) k (x :: t) := by
  intro j hj
  rw [Array.getElem?_setIfInBounds]
  cases j with
  | zero => simp [hk]
  | succ j =>
    rw [if_neg (by omega), show k + (j + 1) = k + 1 + j by omega]
    exact h j (by simpa using hj)

set_option maxHeartbeats 800000 in
theorem padded_any (g n cap m : Nat) (l : List Int) (v : Int) (width : Nat) (w : World) (hb : Buf w g n cap l) (hm : n + width = m) (hcap : m ≤ cap) (hw9 : width ≤ 9) (hv0 : 0 ≤ v) (hv1 : v ≤ 9999999999) :
    Calls Try.prog 15 #[.slice (some ⟨g, 0, none⟩) n cap, .int .i64 v, .int .i64 width] w fun e w' => e = .returned (.slice (some ⟨g, 0, none⟩) m cap) ∧ Buf w' g m cap (l ++ pad v width) ∧ w.grownBy w' (some g) := by
  have hgl := hb.lt
  go_enter Try.func15, Try.ntmps15
  go_wp2
  go_loopw [1, 8] (fun vv i wr => ∃ (k : Nat) (x : Int) (C : Array Value) (t : List Int), k ≤ width ∧ i = .int .i64 ((k : Int) - 1) ∧ vv = .int .i64 x ∧ 0 ≤ x ∧ x ≤ 9999999999 ∧ C.size = 9 ∧ pad v width = pad x k ++ t ∧ t.length + k = width ∧ tailIs C k t ∧ wr = w.alloc (.cells C 35)) (fun _ i _ => (intOf i + 1).toNat)
  case atStart => exact ⟨width, v, _, [], Nat.le_refl _, rfl, rfl, hv0, hv1, rfl, by simp, by simp, fun j hj => absurd hj (by simp), rfl⟩
  case round =>
    obtain ⟨k, x, C, t, hk, rfl, rfl, hx0, hx1, hC, hp, ht, hT, rfl⟩ := hrel
    have HB : Hid _ := hb
    have HP : Hid _ := hp
    have HT : Hid _ := hT
    have HC : Hid _ := hC
    have HL : Hid _ := ht
    clear hb hp hT hC ht
    cases k with
    | succ k =>
      obtain ⟨v0, hcell⟩ : ∃ v0, C[k]? = some v0 := ⟨_, Array.getElem?_eq_getElem (by have := HC.out; omega)⟩
      have hk1 : ((k + 1 : Nat) : Int) - 1 = (k : Int) := by omega
      rw [hk1]
      clear hk1
      go_wp2
      go_roundw
      case rel => exact ⟨k, x / 10, _, (48 + x % 10) :: t, by omega, by go_num, rfl, by omega, by omega, by rw [Array.size_setIfInBounds]; exact HC.out, by rw [HP.out]; simp [pad], by have := HL.out; simp; omega, tailIs_set HT.out (by have := HC.out; omega) _, rfl⟩
      case measure => simp [intOf]
    | zero =>
      have hp0 : t = pad v width := HP.out.symm
      have htl : t.length = width := by have := HL.out; omega
      have HT0 : Hid (∀ j, j < width → C[j]? = some (.int .u8 (t.getD j 0))) := fun j hj => by
        have := HT.out j (by omega)
        rw [Nat.zero_add] at this; exact this
      subst hp0
      have HTL : Hid _ := htl
      clear HP HL HT htl
      go_wp2
      go_loopw [0, 9] (fun b i wr => ∃ k : Nat, k ≤ width ∧ i = .int .i64 k ∧ b = .slice (some ⟨g, 0, none⟩) (n + k) cap ∧ Buf wr g (n + k) cap (l ++ (pad v width).take k) ∧ wr.heap[w.heap.size]? = some (.cells C 35) ∧ w.grownBy wr (some g)) (fun _ i _ => width - (intOf i).toNat)
      case atStart => exact ⟨0, Nat.zero_le _, rfl, rfl, by simpa using Buf.alloc HB.out _, heap_alloc_new _ _, World.grownBy_alloc _ _ _⟩
      case round =>
        obtain ⟨k, hk, rfl, rfl, hbuf, hd, hgr⟩ := hrel
        by_cases hlt : k < width
        · have hcell : wr.cell? ⟨w.heap.size, k, none⟩ = some (.int .u8 ((pad v width).getD k 0)) := by
            unfold World.cell?; simp [hd, HT0.out k hlt]
          have htk : (pad v width).take (k + 1) = (pad v width).take k ++ [(pad v width).getD k 0] := by
            have := HTL.out
            rw [List.take_succ_eq_append_getElem (by omega), List.getD, List.getElem?_eq_getElem (by omega)]; rfl
          have HTK : Hid _ := htk
          have HBU : Hid _ := hbuf
          generalize (pad v width).getD k 0 = y at hcell htk HTK
          clear htk hbuf
          have hk9 : (k : Int) < 9 := by omega
          go_wp2_with (first | (at_builtin; refine app1 rfl _ _ rfl g (n + k) cap _ y rfl rfl HBU.out (by omega) ?_; intro w1 hb1 hg1))
          have hd1 : w1.heap[w.heap.size]? = some (.cells C 35) := (hg1.block _ (Array.getElem?_eq_some_iff.1 hd).1 (by simp; omega)).trans hd
          have hgr1 := hgr.trans hg1
          have HB1 : Hid (Buf w1 g (n + (k + 1)) cap (l ++ (pad v width).take (k + 1))) := by
            rw [HTK.out, ← List.append_assoc]; exact hb1
          clear hb1 hg1 hd hgr HBU
          go_wp2
          go_roundw
          case rel => first | exact ⟨k + 1, by omega, by go_num, rfl, HB1.out, hd1, hgr1⟩ | ((repeat apply Exists.intro); exact ⟨⟨k + 1, by omega, by go_num, rfl, HB1.out, hd1, hgr1⟩, rfl⟩)
          case measure => simp [intOf]; omega
        · have hkw : k = width := by omega
          subst hkw
          have HBU : Hid (Buf wr g m cap (l ++ pad v k)) := by
            rw [List.take_of_length_le (by rw [pad_length]; exact Nat.le_refl _), hm] at hbuf; exact hbuf
          clear hbuf hd
          rw [hm]
          go_wp2
          go_ret
          exact ⟨rfl, HBU.out, hgr⟩
end Go.Proofs.Qxb6605258a
