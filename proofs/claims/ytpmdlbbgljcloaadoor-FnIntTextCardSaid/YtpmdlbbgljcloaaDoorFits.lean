/- The reference's Fits at 8, 16, 32 and 64 bits, walked: whether a number has room. Conditions: the number is an int64. -/
import Derived.Test.YtpmdlbbgljcloaaDoorPure
namespace Go.Proofs.YtpmdlbbgljcloaaDoor
open Go Go.RowKit Go.Lib
set_option linter.unusedVariables false

set_option maxHeartbeats 1000000 in
set_option maxRecDepth 100000 in
theorem fits8_yes (n : Int) (w : World) (h0 : -128 ≤ n) (h1 : n < 128) : Calls Tryd.prog 18 #[.int .i64 n, .int .i64 8] w fun e w' => e = .returned (.bool true) ∧ w = w' := by
  go_enter Tryd.func18, Tryd.ntmps18
  go_wp2_with fail
  go_ret
  exact ⟨by first | rfl | (simp; omega), rfl⟩

set_option maxHeartbeats 1000000 in
set_option maxRecDepth 100000 in
theorem fits8_low (n : Int) (w : World) (h0 : n < -128) : Calls Tryd.prog 18 #[.int .i64 n, .int .i64 8] w fun e w' => e = .returned (.bool false) ∧ w = w' := by
  go_enter Tryd.func18, Tryd.ntmps18
  go_wp2_with fail
  go_ret
  exact ⟨by first | rfl | (simp; omega), rfl⟩

set_option maxHeartbeats 1000000 in
set_option maxRecDepth 100000 in
theorem fits8_high (n : Int) (w : World) (h0 : -128 ≤ n) (h1 : 128 ≤ n) : Calls Tryd.prog 18 #[.int .i64 n, .int .i64 8] w fun e w' => e = .returned (.bool false) ∧ w = w' := by
  go_enter Tryd.func18, Tryd.ntmps18
  go_wp2_with fail
  go_ret
  exact ⟨by first | rfl | (simp; omega), rfl⟩

set_option maxHeartbeats 1000000 in
set_option maxRecDepth 100000 in
theorem fits16_yes (n : Int) (w : World) (h0 : -32768 ≤ n) (h1 : n < 32768) : Calls Tryd.prog 18 #[.int .i64 n, .int .i64 16] w fun e w' => e = .returned (.bool true) ∧ w = w' := by
  go_enter Tryd.func18, Tryd.ntmps18
  go_wp2_with fail
  go_ret
  exact ⟨by first | rfl | (simp; omega), rfl⟩

set_option maxHeartbeats 1000000 in
set_option maxRecDepth 100000 in
theorem fits16_low (n : Int) (w : World) (h0 : n < -32768) : Calls Tryd.prog 18 #[.int .i64 n, .int .i64 16] w fun e w' => e = .returned (.bool false) ∧ w = w' := by
  go_enter Tryd.func18, Tryd.ntmps18
  go_wp2_with fail
  go_ret
  exact ⟨by first | rfl | (simp; omega), rfl⟩

set_option maxHeartbeats 1000000 in
set_option maxRecDepth 100000 in
theorem fits16_high (n : Int) (w : World) (h0 : -32768 ≤ n) (h1 : 32768 ≤ n) : Calls Tryd.prog 18 #[.int .i64 n, .int .i64 16] w fun e w' => e = .returned (.bool false) ∧ w = w' := by
  go_enter Tryd.func18, Tryd.ntmps18
  go_wp2_with fail
  go_ret
  exact ⟨by first | rfl | (simp; omega), rfl⟩

set_option maxHeartbeats 1000000 in
set_option maxRecDepth 100000 in
theorem fits32_yes (n : Int) (w : World) (h0 : -2147483648 ≤ n) (h1 : n < 2147483648) : Calls Tryd.prog 18 #[.int .i64 n, .int .i64 32] w fun e w' => e = .returned (.bool true) ∧ w = w' := by
  go_enter Tryd.func18, Tryd.ntmps18
  go_wp2_with fail
  go_ret
  exact ⟨by first | rfl | (simp; omega), rfl⟩

set_option maxHeartbeats 1000000 in
set_option maxRecDepth 100000 in
theorem fits32_low (n : Int) (w : World) (h0 : n < -2147483648) : Calls Tryd.prog 18 #[.int .i64 n, .int .i64 32] w fun e w' => e = .returned (.bool false) ∧ w = w' := by
  go_enter Tryd.func18, Tryd.ntmps18
  go_wp2_with fail
  go_ret
  exact ⟨by first | rfl | (simp; omega), rfl⟩

set_option maxHeartbeats 1000000 in
set_option maxRecDepth 100000 in
theorem fits32_high (n : Int) (w : World) (h0 : -2147483648 ≤ n) (h1 : 2147483648 ≤ n) : Calls Tryd.prog 18 #[.int .i64 n, .int .i64 32] w fun e w' => e = .returned (.bool false) ∧ w = w' := by
  go_enter Tryd.func18, Tryd.ntmps18
  go_wp2_with fail
  go_ret
  exact ⟨by first | rfl | (simp; omega), rfl⟩

set_option maxHeartbeats 1000000 in
set_option maxRecDepth 100000 in
theorem fits64_yes (n : Int) (w : World)  : Calls Tryd.prog 18 #[.int .i64 n, .int .i64 64] w fun e w' => e = .returned (.bool true) ∧ w = w' := by
  go_enter Tryd.func18, Tryd.ntmps18
  go_wp2_with fail
  go_ret
  exact ⟨by first | rfl | (simp; omega), rfl⟩

end Go.Proofs.YtpmdlbbgljcloaaDoor
