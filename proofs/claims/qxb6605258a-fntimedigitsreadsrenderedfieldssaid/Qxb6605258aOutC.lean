import Derived.Test.Qxb6605258aRender
namespace Go.Proofs.Qxb6605258a
open Go.RowKit

set_option maxRecDepth 10000 in
set_option maxHeartbeats 16000000 in
theorem out10 (y mo d h mi s nanos f oh om : Int) (west zulu : Bool) (w : World) (_h0 : 0 ≤ y) (_h1 : y ≤ 9999) (_h2 : 0 ≤ mo) (_h3 : mo ≤ 99) (_h4 : 0 ≤ d) (_h5 : d ≤ 99) (_h6 : 0 ≤ h) (_h7 : h ≤ 99) (_h8 : 0 ≤ mi) (_h9 : mi ≤ 99) (_h10 : s < 0) :
    Calls Try.prog 6 #[.int .i64 y, .int .i64 mo, .int .i64 d, .int .i64 h, .int .i64 mi, .int .i64 s, .int .i64 nanos, .int .i64 f, .int .i64 oh, .int .i64 om, .bool west, .bool zulu] w fun e w' => e = .returned (.bool true) ∧ w' = w := by
  go_enter Try.func6, Try.ntmps6
  go_wp2
  go_ret
  exact ⟨rfl, rfl⟩

set_option maxRecDepth 10000 in
set_option maxHeartbeats 16000000 in
theorem out11 (y mo d h mi s nanos f oh om : Int) (west zulu : Bool) (w : World) (_h0 : 0 ≤ y) (_h1 : y ≤ 9999) (_h2 : 0 ≤ mo) (_h3 : mo ≤ 99) (_h4 : 0 ≤ d) (_h5 : d ≤ 99) (_h6 : 0 ≤ h) (_h7 : h ≤ 99) (_h8 : 0 ≤ mi) (_h9 : mi ≤ 99) (_h10 : 0 ≤ s) (_h11 : 99 < s) :
    Calls Try.prog 6 #[.int .i64 y, .int .i64 mo, .int .i64 d, .int .i64 h, .int .i64 mi, .int .i64 s, .int .i64 nanos, .int .i64 f, .int .i64 oh, .int .i64 om, .bool west, .bool zulu] w fun e w' => e = .returned (.bool true) ∧ w' = w := by
  go_enter Try.func6, Try.ntmps6
  go_wp2
  go_ret
  exact ⟨rfl, rfl⟩

set_option maxRecDepth 10000 in
set_option maxHeartbeats 16000000 in
theorem out12 (y mo d h mi s nanos f oh om : Int) (west zulu : Bool) (w : World) (_h0 : 0 ≤ y) (_h1 : y ≤ 9999) (_h2 : 0 ≤ mo) (_h3 : mo ≤ 99) (_h4 : 0 ≤ d) (_h5 : d ≤ 99) (_h6 : 0 ≤ h) (_h7 : h ≤ 99) (_h8 : 0 ≤ mi) (_h9 : mi ≤ 99) (_h10 : 0 ≤ s) (_h11 : s ≤ 99) (_h12 : nanos < 0) :
    Calls Try.prog 6 #[.int .i64 y, .int .i64 mo, .int .i64 d, .int .i64 h, .int .i64 mi, .int .i64 s, .int .i64 nanos, .int .i64 f, .int .i64 oh, .int .i64 om, .bool west, .bool zulu] w fun e w' => e = .returned (.bool true) ∧ w' = w := by
  go_enter Try.func6, Try.ntmps6
  go_wp2
  go_ret
  exact ⟨rfl, rfl⟩

set_option maxRecDepth 10000 in
set_option maxHeartbeats 16000000 in
theorem out13 (y mo d h mi s nanos f oh om : Int) (west zulu : Bool) (w : World) (_h0 : 0 ≤ y) (_h1 : y ≤ 9999) (_h2 : 0 ≤ mo) (_h3 : mo ≤ 99) (_h4 : 0 ≤ d) (_h5 : d ≤ 99) (_h6 : 0 ≤ h) (_h7 : h ≤ 99) (_h8 : 0 ≤ mi) (_h9 : mi ≤ 99) (_h10 : 0 ≤ s) (_h11 : s ≤ 99) (_h12 : 0 ≤ nanos) (_h13 : 999999999 < nanos) :
    Calls Try.prog 6 #[.int .i64 y, .int .i64 mo, .int .i64 d, .int .i64 h, .int .i64 mi, .int .i64 s, .int .i64 nanos, .int .i64 f, .int .i64 oh, .int .i64 om, .bool west, .bool zulu] w fun e w' => e = .returned (.bool true) ∧ w' = w := by
  go_enter Try.func6, Try.ntmps6
  go_wp2
  go_ret
  exact ⟨rfl, rfl⟩

set_option maxRecDepth 10000 in
set_option maxHeartbeats 16000000 in
theorem out14 (y mo d h mi s nanos f oh om : Int) (west zulu : Bool) (w : World) (_h0 : 0 ≤ y) (_h1 : y ≤ 9999) (_h2 : 0 ≤ mo) (_h3 : mo ≤ 99) (_h4 : 0 ≤ d) (_h5 : d ≤ 99) (_h6 : 0 ≤ h) (_h7 : h ≤ 99) (_h8 : 0 ≤ mi) (_h9 : mi ≤ 99) (_h10 : 0 ≤ s) (_h11 : s ≤ 99) (_h12 : 0 ≤ nanos) (_h13 : nanos ≤ 999999999) (_h14 : f < 0) :
    Calls Try.prog 6 #[.int .i64 y, .int .i64 mo, .int .i64 d, .int .i64 h, .int .i64 mi, .int .i64 s, .int .i64 nanos, .int .i64 f, .int .i64 oh, .int .i64 om, .bool west, .bool zulu] w fun e w' => e = .returned (.bool true) ∧ w' = w := by
  go_enter Try.func6, Try.ntmps6
  go_wp2
  go_ret
  exact ⟨rfl, rfl⟩
end Go.Proofs.Qxb6605258a
