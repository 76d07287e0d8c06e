/- msgp's getBytespec, walked: the table's row of a first byte. Conditions: the argument is a byte. -/
import Derived.Test.YtpmdlbbgljcloaaDoorBytespec
namespace Go.Proofs.YtpmdlbbgljcloaaDoor
open Go Go.RowKit
set_option maxHeartbeats 400000 in
theorem getBytespec_c (c : Int) (w : World) (h0 : 0 ≤ c) (h1 : c < 256) : Calls Tryd.prog 136 #[.int .u8 c] w fun e w' => e = .returned (bval c) ∧ (w.alloc (bobj c)).alloc (bobj c) = w' := by
  go_enter Tryd.func136, Tryd.ntmps136
  go_wp2_with (go_at_call 139; refine (calc_c _ _ h0 h1).mono ?_; rintro e w' ⟨rfl, rfl⟩)
  exact bodyPost_ret (v := bval c) (by simp [results, Tryd.results136, go_sem]) rfl ⟨rfl, rfl⟩
end Go.Proofs.YtpmdlbbgljcloaaDoor
