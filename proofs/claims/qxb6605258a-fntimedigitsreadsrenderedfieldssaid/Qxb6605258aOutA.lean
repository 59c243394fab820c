import Derived.Test.Qxb6605258aRender
namespace Go.Proofs.Qxb6605258a
open Go.RowKit

set_option maxRecDepth 10000 in
set_option maxHeartbeats 16000000 in
theorem out0 (y mo d h mi s nanos f oh om : Int) (west zulu : Bool) (w : World)  (_h0 : y < 0) :
    Calls Try.prog 6 #[.int .i64 y, .int .i64 mo, .int .i64 d, .int .i64 h, .int .i64 mi, .int .i64 s, .int .i64 nanos, .int .i64 f, .int .i64 oh, .int .i64 om, .bool west, .bool zulu] w fun e w' => e = .returned (.bool true) ∧ w' = w := by
  go_enter Try.func6, Try.ntmps6
  go_wp2
  go_ret
  exact ⟨rfl, rfl⟩

set_option maxRecDepth 10000 in
set_option maxHeartbeats 16000000 in
theorem out1 (y mo d h mi s nanos f oh om : Int) (west zulu : Bool) (w : World) (_h0 : 0 ≤ y) (_h1 : 9999 < y) :
    Calls Try.prog 6 #[.int .i64 y, .int .i64 mo, .int .i64 d, .int .i64 h, .int .i64 mi, .int .i64 s, .int .i64 nanos, .int .i64 f, .int .i64 oh, .int .i64 om, .bool west, .bool zulu] w fun e w' => e = .returned (.bool true) ∧ w' = w := by
  go_enter Try.func6, Try.ntmps6
  go_wp2
  go_ret
  exact ⟨rfl, rfl⟩

set_option maxRecDepth 10000 in
set_option maxHeartbeats 16000000 in
theorem out2 (y mo d h mi s nanos f oh om : Int) (west zulu : Bool) (w : World) (_h0 : 0 ≤ y) (_h1 : y ≤ 9999) (_h2 : mo < 0) :
    Calls Try.prog 6 #[.int .i64 y, .int .i64 mo, .int .i64 d, .int .i64 h, .int .i64 mi, .int .i64 s, .int .i64 nanos, .int .i64 f, .int .i64 oh, .int .i64 om, .bool west, .bool zulu] w fun e w' => e = .returned (.bool true) ∧ w' = w := by
  go_enter Try.func6, Try.ntmps6
  go_wp2
  go_ret
  exact ⟨rfl, rfl⟩

set_option maxRecDepth 10000 in
set_option maxHeartbeats 16000000 in
theorem out3 (y mo d h mi s nanos f oh om : Int) (west zulu : Bool) (w : World) (_h0 : 0 ≤ y) (_h1 : y ≤ 9999) (_h2 : 0 ≤ mo) (_h3 : 99 < mo) :
    Calls Try.prog 6 #[.int .i64 y, .int .i64 mo, .int .i64 d, .int .i64 h, .int .i64 mi, .int .i64 s, .int .i64 nanos, .int .i64 f, .int .i64 oh, .int .i64 om, .bool west, .bool zulu] w fun e w' => e = .returned (.bool true) ∧ w' = w := by
  go_enter Try.func6, Try.ntmps6
  go_wp2
  go_ret
  exact ⟨rfl, rfl⟩

set_option maxRecDepth 10000 in
set_option maxHeartbeats 16000000 in
theorem out4 (y mo d h mi s nanos f oh om : Int) (west zulu : Bool) (w : World) (_h0 : 0 ≤ y) (_h1 : y ≤ 9999) (_h2 : 0 ≤ mo) (_h3 : mo ≤ 99) (_h4 : d < 0) :
    Calls Try.prog 6 #[.int .i64 y, .int .i64 mo, .int .i64 d, .int .i64 h, .int .i64 mi, .int .i64 s, .int .i64 nanos, .int .i64 f, .int .i64 oh, .int .i64 om, .bool west, .bool zulu] w fun e w' => e = .returned (.bool true) ∧ w' = w := by
  go_enter Try.func6, Try.ntmps6
  go_wp2
  go_ret
  exact ⟨rfl, rfl⟩
end Go.Proofs.Qxb6605258a
