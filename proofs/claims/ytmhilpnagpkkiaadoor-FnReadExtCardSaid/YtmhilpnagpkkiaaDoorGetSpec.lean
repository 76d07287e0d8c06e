/- msgp's getBytespec, walked: the table's row of a first byte. Conditions: the argument is a byte. -/
import Derived.Test.YtmhilpnagpkkiaaDoorBytespec
namespace Go.Proofs.YtmhilpnagpkkiaaDoor
open Go Go.RowKit
set_option maxHeartbeats 400000 in
theorem getBytespec_c (c : Int) (w : World) (h0 : 0 ≤ c) (h1 : c < 256) : Calls Tryd.prog 72 #[.int .u8 c] w fun e w' => e = .returned (bval c) ∧ (w.alloc (bobj c)).alloc (bobj c) = w' := by
  go_enter Tryd.func72, Tryd.ntmps72
  go_wp2_with (go_at_call 73; refine (calc_c _ _ h0 h1).mono ?_; rintro e w' ⟨rfl, rfl⟩)
  exact bodyPost_ret (v := bval c) (by simp [results, Tryd.results72, go_sem]) rfl ⟨rfl, rfl⟩
end Go.Proofs.YtmhilpnagpkkiaaDoor
