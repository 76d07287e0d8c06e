/- What the reference writes for a whole number without a sign: spec.UintText, walked. Conditions: the number is a uint64. -/
import Derived.Test.YtpmdlbbgljcloaaDoorSpecInt
import Derived.Lib.EndianBits
namespace Go.Proofs.YtpmdlbbgljcloaaDoor
open Go Go.RowKit Go.Lib
set_option linter.unusedVariables false

set_option maxHeartbeats 4000000 in
theorem uintText_c (n : Int) (w : World) (h0 : 0 ≤ n) (h1 : n ≤ 18446744073709551615) : Calls Tryd.prog 23 #[.int .u64 n] w (Made w (uintText n)) := by
  have hcase : (0 ≤ n ∧ n ≤ 127) ∨ (128 ≤ n ∧ n ≤ 255) ∨ (256 ≤ n ∧ n ≤ 65535) ∨ (65536 ≤ n ∧ n ≤ 4294967295) ∨ (4294967296 ≤ n ∧ n ≤ 18446744073709551615) := by omega
  rcases hcase with ⟨a1, a2⟩ | ⟨a1, a2⟩ | ⟨a1, a2⟩ | ⟨a1, a2⟩ | ⟨a1, a2⟩
  · go_enter Tryd.func23, Tryd.ntmps23
    go_wp2_with fail
    go_ret
    refine ⟨_, rfl, own_lit w (uintText n) _ 1 ?_ ?_ (by omega), (Below.refl _ _).alloc (Nat.le_refl _) _⟩
    · rw [uintText, if_pos (by omega)]; rfl
    · rw [uintText, if_pos (by omega)]; first | rfl | (simp [by1]; done) | (simp [by1]; omega)
  · go_enter Tryd.func23, Tryd.ntmps23
    go_wp2_with fail
    ((with_reducible refine (with1_c _ _ _ (by decide) (by omega) (by omega)).mono ?_); rintro e w2 ⟨v, rfl, hown, hb⟩)
    go_wp2_with fail
    go_ret
    refine made_eq ⟨_, rfl, hown, hb⟩ ?_
    rw [uintText, if_neg (by omega), if_pos (by omega)]
  · go_enter Tryd.func23, Tryd.ntmps23
    go_wp2_with fail
    ((with_reducible refine (with2_c _ _ _ (by decide) (by omega) (by omega)).mono ?_); rintro e w2 ⟨v, rfl, hown, hb⟩)
    go_wp2_with fail
    go_ret
    refine made_eq ⟨_, rfl, hown, hb⟩ ?_
    rw [uintText, if_neg (by omega), if_neg (by omega), if_pos (by omega)]
  · go_enter Tryd.func23, Tryd.ntmps23
    go_wp2_with fail
    ((with_reducible refine (with4_c _ _ _ (by decide) (by omega) (by omega)).mono ?_); rintro e w2 ⟨v, rfl, hown, hb⟩)
    go_wp2_with fail
    go_ret
    refine made_eq ⟨_, rfl, hown, hb⟩ ?_
    rw [uintText, if_neg (by omega), if_neg (by omega), if_neg (by omega), if_pos (by omega)]
  · go_enter Tryd.func23, Tryd.ntmps23
    go_wp2_with fail
    ((with_reducible refine (with8_c _ _ _ (by decide) (by omega) (by omega)).mono ?_); rintro e w2 ⟨v, rfl, hown, hb⟩)
    go_wp2_with fail
    go_ret
    refine made_eq ⟨_, rfl, hown, hb⟩ ?_
    rw [uintText, if_neg (by omega), if_neg (by omega), if_neg (by omega), if_neg (by omega)]

end Go.Proofs.YtpmdlbbgljcloaaDoor
