import Derived.Test.Qxb6600984aStrs
namespace Go.Proofs.Qxb6600984a
open Go.RowKit

/-- The ending is a bool. -/
def GivesBool (e : Ending) : Prop := ∃ b : Bool, e = .returned (.bool b)
theorem givesBool (b : Bool) : GivesBool (.returned (.bool b)) := ⟨b, rfl⟩

set_option maxHeartbeats 1000000 in
theorem zz18_any (ad ad2 : Option Addr) (len cap len2 cap2 : Nat) (ss ss2 : List ByteArray) (s0 : ByteArray) (w : World) (hlen : ss.length = len) (hl : len ≤ 9000000000000) (hc : Cells w ad ss)
    (hlen2 : ss2.length = len2) (hl2 : len2 ≤ 9000000000000) (hc2 : Cells w ad2 ss2) :
    Calls Try.prog 18 #[.slice ad len cap, .slice ad2 len2 cap2, .string s0] w fun e w' => GivesBool e ∧ w' = w := by
  go_enter Try.func18, Try.ntmps18
  go_wp2
  · go_ret; exact ⟨givesBool _, rfl⟩
  go_loop [7, 8] (fun t i => ∃ (k : Nat) (z : Int), k ≤ len ∧ i = .int .i64 k ∧ t = .int .i64 z) (fun _ i => len - (intOf i).toNat)
  case atStart => exact ⟨0, _, Nat.zero_le _, rfl, rfl⟩
  case round =>
    obtain ⟨k, z, hk, rfl, rfl⟩ := hrel
    by_cases hlt : k < len
    · obtain ⟨b, off, had, hb, hcell⟩ := hc k (by omega)
      generalize ss.getD k ByteArray.empty = s at hcell
      clear hc hlen hc2 hlen2
      subst had
      go_wp2
      · go_ret; exact ⟨givesBool _, rfl⟩
      · go_ret; exact ⟨givesBool _, rfl⟩
      · go_round
        case rel => exact ⟨k + 1, _, by omega, by go_num, rfl⟩
        case measure => simp [intOf]; omega
    · go_wp2
      · go_ret; exact ⟨givesBool _, rfl⟩
      · go_ret; exact ⟨givesBool _, rfl⟩
      go_loop [7, 9] (fun t i => ∃ (k : Nat) (z : Int), k ≤ len2 ∧ i = .int .i64 k ∧ t = .int .i64 z) (fun _ i => len2 - (intOf i).toNat)
      case atStart => exact ⟨0, _, Nat.zero_le _, rfl, rfl⟩
      case round =>
        obtain ⟨k, z, hk, rfl, rfl⟩ := hrel
        by_cases hlt : k < len2
        · obtain ⟨b, off, had, hb, hcell⟩ := hc2 k (by omega)
          generalize ss2.getD k ByteArray.empty = s at hcell
          clear hc hlen hc2 hlen2
          subst had
          go_wp2
          · go_ret; exact ⟨givesBool _, rfl⟩
          · go_ret; exact ⟨givesBool _, rfl⟩
          · go_round
            case rel => exact ⟨k + 1, _, by omega, by go_num, rfl⟩
            case measure => simp [intOf]; omega
        · go_wp2
          all_goals (go_ret; exact ⟨givesBool _, rfl⟩)
end Go.Proofs.Qxb6600984a
