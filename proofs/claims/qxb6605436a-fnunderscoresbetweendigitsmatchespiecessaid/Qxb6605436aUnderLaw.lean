import Derived.Test.Qxb6605436aPieces
namespace Go.Proofs.Qxb6605436a
open Go.RowKit

theorem zzUnder_any (s : ByteArray) (w : World) (hs : s.size ≤ 2000000) :
    Calls Try.prog 8 #[.string s] w fun e w' => Tells e (Good s) ∧ w' = w := by
  have H : Hid _ := under_any s w hs
  go_enter Try.func8, Try.ntmps8
  go_wp2_with fail
  refine Calls.mono H.out ?_
  rintro e w' ⟨⟨b, rfl, hb⟩, rfl⟩
  have HB : Hid _ := hb
  clear hb
  go_wp2
  go_ret
  exact ⟨⟨b, rfl, HB.out⟩, rfl⟩

set_option maxHeartbeats 400000 in
theorem law_walk (s : ByteArray) (w : World) (hs : s.size ≤ maxLen) :
    Calls Try.prog 4 #[.string s] w fun e w' => e = .returned (.bool true) ∧ w' = w := by
  unfold maxLen at hs
  by_cases h1 : 1048576 < s.size
  · go_enter Try.func4, Try.ntmps4
    go_wp2
    all_goals (go_ret; exact ⟨rfl, rfl⟩)
  · have H8 : Hid _ := zzUnder_any s w (by omega)
    have H9 : Hid _ := pieces_any s w (by omega)
    go_enter Try.func4, Try.ntmps4
    go_wp2_with (first | (go_at_call 8; refine Calls.mono H8.out ?_; rintro e w' ⟨⟨b, rfl, hb⟩, rfl⟩; have HB : Hid _ := hb; clear hb) | (go_at_call 7; go_in))
    refine Calls.mono H9.out ?_
    rintro e w' ⟨⟨b2, rfl, hb2⟩, rfl⟩
    have e : b2 = b := by
      cases b <;> cases b2
      · rfl
      · exact (HB.out.2 (hb2.1 rfl)).symm
      · exact hb2.2 (HB.out.1 rfl)
      · rfl
    subst e
    clear hb2 HB
    go_wp2
    go_ret
    exact ⟨rfl, rfl⟩
end Go.Proofs.Qxb6605436a
