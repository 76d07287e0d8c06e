/- The law FnDuration, walked: a span of time is written as a whole number; the call returns true. Conditions: the number is an int64. -/
import Derived.Test.YtbikbanmdepakaaSpecInt
import Derived.Test.YtbikbanmdepakaaAppInt
import Derived.Test.YtbikbanmdepakaaSame
namespace Go.Proofs.Ytbikbanmdepakaa
open Go Go.RowKit
set_option maxHeartbeats 400000 in
theorem duration_c (n : Int) (w : World) (h0 : -9223372036854775808 ≤ n) (h1 : n ≤ 9223372036854775807) : Calls Try.prog 6 #[.int .i64 n] w (Made w (intText n)) := by
  go_enter Try.func6, Try.ntmps6
  go_wp2_with (first | (go_at_call 20; refine (appInt_c _ _ h0 h1).mono ?_; rintro e w1 ⟨v1, rfl, hown1, hb1⟩) | go_in)
  go_ret
  exact ⟨_, rfl, hown1, hb1⟩
set_option maxHeartbeats 400000 in
theorem fnDuration_c (n : Int) (w : World) (h : -9223372036854775808 ≤ n ∧ n ≤ 9223372036854775807) : Calls Try.prog 3 #[.int .i64 n] w fun e w' => e = .returned (.bool true) ∧ Below w.heap.size w w' := by
  obtain ⟨h0, h1⟩ := h
  go_enter Try.func3, Try.ntmps3
  go_wp2_with fail
  refine (duration_c _ _ h0 h1).mono ?_
  rintro e w1 ⟨v1, rfl, hown1, hb1⟩
  go_wp2_with fail
  refine (intText_c _ _ h0 h1).mono ?_
  rintro e w2 ⟨v2, rfl, hown2, hb2⟩
  obtain ⟨A, c, rfl, -, -, hr1⟩ := (hown1.mono hb2).open_ (byts_intText n)
  obtain ⟨B, d, rfl, -, -, hr2⟩ := hown2.open_ (byts_intText n)
  go_wp2_with fail
  refine (same_c _ _ _ _ _ _ _ hr1 hr2 rfl).mono ?_
  rintro e w3 ⟨rfl, rfl⟩
  go_wp2_with fail
  go_ret
  exact ⟨rfl, hb1.trans (hb2.mono hb1.size)⟩
end Go.Proofs.Ytbikbanmdepakaa
