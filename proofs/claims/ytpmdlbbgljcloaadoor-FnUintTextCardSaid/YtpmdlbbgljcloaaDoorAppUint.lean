/- What msgp writes for a whole number without a sign (AppendUint64 onto nil), walked: the shortest form. Conditions: the number is a uint64. -/
import Derived.Test.YtpmdlbbgljcloaaDoorAppInt
import Derived.Lib.EndianBits
namespace Go.Proofs.YtpmdlbbgljcloaaDoor
open Go Go.RowKit Go.Lib
set_option linter.unusedVariables false

set_option maxHeartbeats 1000000 in
theorem appUint_0 (n : Int) (w : World) (h0 : 0 ≤ n) (h1 : n ≤ 127) : Calls Tryd.prog 91 #[.slice none 0 0, .int .u64 n] w (Made w [n]) := by
  have hbx : 0 ≤ n ∧ n < 256 := by omega
  go_enter Tryd.func91, Tryd.ntmps91
  go_wp2_with (first | (go_at_call 92; refine (wfixint_c _ _ (by omega) (by omega)).mono ?_; rintro e w' ⟨rfl, rfl⟩) | (at_builtin; refine app_own rfl _ _ rfl w.heap.size _ [] rfl (World.ownsRow_nil _ _ _ _) (some ⟨w.heap.size, 0, none⟩) 1 1 [n] rfl (rd_one _ _ hbx _) rfl (by simp) (by simp) ?_; intro v1 w1 hown1 hb1))
  go_ret
  exact ⟨_, rfl, hown1, ((Below.refl _ _).alloc (Nat.le_refl _) _).trans hb1⟩

set_option maxHeartbeats 1000000 in
theorem appUint_1 (n : Int) (w : World) (h0 : 128 ≤ n) (h1 : n ≤ 255) : Calls Tryd.prog 91 #[.slice none 0 0, .int .u64 n] w (Made w (204 :: by1 n)) := by
  have hmk := mk2
  have hcp := run_copy_nil_src
  go_enter Tryd.func91, Tryd.ntmps91
  go_wp2
  go_end0
  go_wp2
  go_ret
  refine ⟨_, rfl, own_lit w (204 :: by1 n) _ 2 rfl ?_ (by omega), (Below.refl _ _).alloc (Nat.le_refl _) _⟩
  simp [by1]
  try omega

set_option maxHeartbeats 1000000 in
theorem appUint_2 (n : Int) (w : World) (h0 : 256 ≤ n) (h1 : n ≤ 65535) : Calls Tryd.prog 91 #[.slice none 0 0, .int .u64 n] w (Made w (205 :: by2 n)) := by
  have hmk := mk3
  have hcp := run_copy_nil_src
  go_enter Tryd.func91, Tryd.ntmps91
  go_wp2
  go_end0
  go_wp2
  go_ret
  refine ⟨_, rfl, own_lit w (205 :: by2 n) _ 3 rfl ?_ (by omega), (Below.refl _ _).alloc (Nat.le_refl _) _⟩
  simp [by2]
  try omega

set_option maxHeartbeats 1000000 in
theorem appUint_3 (n : Int) (w : World) (h0 : 65536 ≤ n) (h1 : n ≤ 4294967295) : Calls Tryd.prog 91 #[.slice none 0 0, .int .u64 n] w (Made w (206 :: by4 n)) := by
  have hmk := mk5
  have hcp := run_copy_nil_src
  go_enter Tryd.func91, Tryd.ntmps91
  go_wp2
  go_end0
  go_wp2
  go_ret
  refine ⟨_, rfl, own_lit w (206 :: by4 n) _ 5 rfl ?_ (by omega), (Below.refl _ _).alloc (Nat.le_refl _) _⟩
  simp [by4]
  try omega

set_option maxHeartbeats 1000000 in
theorem appUint_4 (n : Int) (w : World) (h0 : 4294967296 ≤ n) (h1 : n ≤ 18446744073709551615) : Calls Tryd.prog 91 #[.slice none 0 0, .int .u64 n] w (Made w (207 :: by8 n)) := by
  have hmk := mk9
  have hcp := run_copy_nil_src
  go_enter Tryd.func91, Tryd.ntmps91
  go_wp2
  go_end0
  go_wp2
  go_ret
  refine ⟨_, rfl, own_lit w (207 :: by8 n) _ 9 rfl ?_ (by omega), (Below.refl _ _).alloc (Nat.le_refl _) _⟩
  simp [by8]
  try omega

theorem appUint_c (n : Int) (w : World) (h0 : 0 ≤ n) (h1 : n ≤ 18446744073709551615) : Calls Tryd.prog 91 #[.slice none 0 0, .int .u64 n] w (Made w (uintText n)) := by
  unfold uintText
  split
  · rw [by1, show n % 256 = n by omega]; exact appUint_0 n w (by omega) (by omega)
  split
  · exact appUint_1 n w (by omega) (by omega)
  split
  · exact appUint_2 n w (by omega) (by omega)
  split
  · exact appUint_3 n w (by omega) (by omega)
  · exact appUint_4 n w (by omega) (by omega)

end Go.Proofs.YtpmdlbbgljcloaaDoor
