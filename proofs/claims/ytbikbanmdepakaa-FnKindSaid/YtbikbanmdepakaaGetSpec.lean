/- msgp's getBytespec, walked: the table's row of a first byte. Conditions: the argument is a byte. -/
import Derived.Test.YtbikbanmdepakaaBytespec
namespace Go.Proofs.Ytbikbanmdepakaa
open Go Go.RowKit
set_option maxHeartbeats 400000 in
theorem getBytespec_c (c : Int) (w : World) (h0 : 0 ≤ c) (h1 : c < 256) : Calls Try.prog 19 #[.int .u8 c] w fun e w' => e = .returned (bval c) ∧ (w.alloc (bobj c)).alloc (bobj c) = w' := by
  go_enter Try.func19, Try.ntmps19
  go_wp2_with (go_at_call 21; refine (calc_c _ _ h0 h1).mono ?_; rintro e w' ⟨rfl, rfl⟩)
  exact bodyPost_ret (v := bval c) (by simp [results, Try.results19, go_sem]) rfl ⟨rfl, rfl⟩
end Go.Proofs.Ytbikbanmdepakaa
