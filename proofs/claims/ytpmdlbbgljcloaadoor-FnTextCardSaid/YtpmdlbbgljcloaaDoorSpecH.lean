/- What the reference writes ahead of texts, bytes, lists and pairs: TextHead, BinHead, ArrayHead, MapHead, walked. Conditions: a length is at most 2^32 - 1. -/
import Derived.Test.YtpmdlbbgljcloaaDoorSpecInt
import Derived.Lib.EndianBits
namespace Go.Proofs.YtpmdlbbgljcloaaDoor
open Go Go.RowKit Go.Lib
set_option linter.unusedVariables false

theorem sor160 (x : Int) (h0 : 0 ≤ x) (h1 : x < 32) : bits .or .u8 160 x = 160 + x := by
  rw [u8_or 160 x (by omega) (by omega) (by omega) (by omega)]
  show ((160 ||| x.toNat : Nat) : Int) = 160 + x
  have key : ∀ y : Fin 32, (160 ||| y.val) = 160 + y.val := by decide
  have := key ⟨x.toNat, by omega⟩
  simp only at this
  rw [this]
  omega

theorem sor144 (x : Int) (h0 : 0 ≤ x) (h1 : x < 16) : bits .or .u8 144 x = 144 + x := by
  rw [u8_or 144 x (by omega) (by omega) (by omega) (by omega)]
  show ((144 ||| x.toNat : Nat) : Int) = 144 + x
  have key : ∀ y : Fin 16, (144 ||| y.val) = 144 + y.val := by decide
  have := key ⟨x.toNat, by omega⟩
  simp only at this
  rw [this]
  omega

theorem sor128 (x : Int) (h0 : 0 ≤ x) (h1 : x < 16) : bits .or .u8 128 x = 128 + x := by
  rw [u8_or 128 x (by omega) (by omega) (by omega) (by omega)]
  show ((128 ||| x.toNat : Nat) : Int) = 128 + x
  have key : ∀ y : Fin 16, (128 ||| y.val) = 128 + y.val := by decide
  have := key ⟨x.toNat, by omega⟩
  simp only at this
  rw [this]
  omega

set_option maxHeartbeats 4000000 in
theorem textHead_c (n : Int) (w : World) (h0 : 0 ≤ n) (h1 : n ≤ 4294967295) : Calls Tryd.prog 35 #[.int .i64 n] w (Made w (textHead n)) := by
  have hcase : (0 ≤ n ∧ n ≤ 31) ∨ (32 ≤ n ∧ n ≤ 255) ∨ (256 ≤ n ∧ n ≤ 65535) ∨ (65536 ≤ n ∧ n ≤ 4294967295) := by omega
  rcases hcase with ⟨a1, a2⟩ | ⟨a1, a2⟩ | ⟨a1, a2⟩ | ⟨a1, a2⟩
  · have ea := sor160 n (by omega) (by omega)
    go_enter Tryd.func35, Tryd.ntmps35
    go_wp2_with fail
    go_ret
    refine ⟨_, rfl, own_lit w (textHead n) _ 1 ?_ ?_ (by omega), (Below.refl _ _).alloc (Nat.le_refl _) _⟩
    · rw [textHead, if_pos (by omega)]; rfl
    · rw [textHead, if_pos (by omega)]; first | rfl | (simp [by1]; done) | (simp [by1]; omega)
  · go_enter Tryd.func35, Tryd.ntmps35
    go_wp2_with fail
    ((with_reducible refine (with1_c _ _ _ (by decide) (by omega) (by omega)).mono ?_); rintro e w2 ⟨v, rfl, hown, hb⟩)
    go_wp2_with fail
    go_ret
    refine made_eq ⟨_, rfl, hown, hb⟩ ?_
    rw [textHead, if_neg (by omega), if_pos (by omega)]
  · go_enter Tryd.func35, Tryd.ntmps35
    go_wp2_with fail
    ((with_reducible refine (with2_c _ _ _ (by decide) (by omega) (by omega)).mono ?_); rintro e w2 ⟨v, rfl, hown, hb⟩)
    go_wp2_with fail
    go_ret
    refine made_eq ⟨_, rfl, hown, hb⟩ ?_
    rw [textHead, if_neg (by omega), if_neg (by omega), if_pos (by omega)]
  · go_enter Tryd.func35, Tryd.ntmps35
    go_wp2_with fail
    ((with_reducible refine (with4_c _ _ _ (by decide) (by omega) (by omega)).mono ?_); rintro e w2 ⟨v, rfl, hown, hb⟩)
    go_wp2_with fail
    go_ret
    refine made_eq ⟨_, rfl, hown, hb⟩ ?_
    rw [textHead, if_neg (by omega), if_neg (by omega), if_neg (by omega)]

set_option maxHeartbeats 4000000 in
theorem binHead_c (n : Int) (w : World) (h0 : 0 ≤ n) (h1 : n ≤ 4294967295) : Calls Tryd.prog 38 #[.int .i64 n] w (Made w (binHead n)) := by
  have hcase : (0 ≤ n ∧ n ≤ 255) ∨ (256 ≤ n ∧ n ≤ 65535) ∨ (65536 ≤ n ∧ n ≤ 4294967295) := by omega
  rcases hcase with ⟨a1, a2⟩ | ⟨a1, a2⟩ | ⟨a1, a2⟩
  · go_enter Tryd.func38, Tryd.ntmps38
    go_wp2_with fail
    ((with_reducible refine (with1_c _ _ _ (by decide) (by omega) (by omega)).mono ?_); rintro e w2 ⟨v, rfl, hown, hb⟩)
    go_wp2_with fail
    go_ret
    refine made_eq ⟨_, rfl, hown, hb⟩ ?_
    rw [binHead, if_pos (by omega)]
  · go_enter Tryd.func38, Tryd.ntmps38
    go_wp2_with fail
    ((with_reducible refine (with2_c _ _ _ (by decide) (by omega) (by omega)).mono ?_); rintro e w2 ⟨v, rfl, hown, hb⟩)
    go_wp2_with fail
    go_ret
    refine made_eq ⟨_, rfl, hown, hb⟩ ?_
    rw [binHead, if_neg (by omega), if_pos (by omega)]
  · go_enter Tryd.func38, Tryd.ntmps38
    go_wp2_with fail
    ((with_reducible refine (with4_c _ _ _ (by decide) (by omega) (by omega)).mono ?_); rintro e w2 ⟨v, rfl, hown, hb⟩)
    go_wp2_with fail
    go_ret
    refine made_eq ⟨_, rfl, hown, hb⟩ ?_
    rw [binHead, if_neg (by omega), if_neg (by omega)]

set_option maxHeartbeats 4000000 in
theorem arrayHead_c (n : Int) (w : World) (h0 : 0 ≤ n) (h1 : n ≤ 4294967295) : Calls Tryd.prog 45 #[.int .u32 n] w (Made w (arrayHead n)) := by
  have hcase : (0 ≤ n ∧ n ≤ 15) ∨ (16 ≤ n ∧ n ≤ 65535) ∨ (65536 ≤ n ∧ n ≤ 4294967295) := by omega
  rcases hcase with ⟨a1, a2⟩ | ⟨a1, a2⟩ | ⟨a1, a2⟩
  · have ea := sor144 n (by omega) (by omega)
    go_enter Tryd.func45, Tryd.ntmps45
    go_wp2_with fail
    go_ret
    refine ⟨_, rfl, own_lit w (arrayHead n) _ 1 ?_ ?_ (by omega), (Below.refl _ _).alloc (Nat.le_refl _) _⟩
    · rw [arrayHead, if_pos (by omega)]; rfl
    · rw [arrayHead, if_pos (by omega)]; first | rfl | (simp [by1]; done) | (simp [by1]; omega)
  · go_enter Tryd.func45, Tryd.ntmps45
    go_wp2_with fail
    ((with_reducible refine (with2_c _ _ _ (by decide) (by omega) (by omega)).mono ?_); rintro e w2 ⟨v, rfl, hown, hb⟩)
    go_wp2_with fail
    go_ret
    refine made_eq ⟨_, rfl, hown, hb⟩ ?_
    rw [arrayHead, if_neg (by omega), if_pos (by omega)]
  · go_enter Tryd.func45, Tryd.ntmps45
    go_wp2_with fail
    ((with_reducible refine (with4_c _ _ _ (by decide) (by omega) (by omega)).mono ?_); rintro e w2 ⟨v, rfl, hown, hb⟩)
    go_wp2_with fail
    go_ret
    refine made_eq ⟨_, rfl, hown, hb⟩ ?_
    rw [arrayHead, if_neg (by omega), if_neg (by omega)]

set_option maxHeartbeats 4000000 in
theorem mapHead_c (n : Int) (w : World) (h0 : 0 ≤ n) (h1 : n ≤ 4294967295) : Calls Tryd.prog 47 #[.int .u32 n] w (Made w (mapHead n)) := by
  have hcase : (0 ≤ n ∧ n ≤ 15) ∨ (16 ≤ n ∧ n ≤ 65535) ∨ (65536 ≤ n ∧ n ≤ 4294967295) := by omega
  rcases hcase with ⟨a1, a2⟩ | ⟨a1, a2⟩ | ⟨a1, a2⟩
  · have ea := sor128 n (by omega) (by omega)
    go_enter Tryd.func47, Tryd.ntmps47
    go_wp2_with fail
    go_ret
    refine ⟨_, rfl, own_lit w (mapHead n) _ 1 ?_ ?_ (by omega), (Below.refl _ _).alloc (Nat.le_refl _) _⟩
    · rw [mapHead, if_pos (by omega)]; rfl
    · rw [mapHead, if_pos (by omega)]; first | rfl | (simp [by1]; done) | (simp [by1]; omega)
  · go_enter Tryd.func47, Tryd.ntmps47
    go_wp2_with fail
    ((with_reducible refine (with2_c _ _ _ (by decide) (by omega) (by omega)).mono ?_); rintro e w2 ⟨v, rfl, hown, hb⟩)
    go_wp2_with fail
    go_ret
    refine made_eq ⟨_, rfl, hown, hb⟩ ?_
    rw [mapHead, if_neg (by omega), if_pos (by omega)]
  · go_enter Tryd.func47, Tryd.ntmps47
    go_wp2_with fail
    ((with_reducible refine (with4_c _ _ _ (by decide) (by omega) (by omega)).mono ?_); rintro e w2 ⟨v, rfl, hown, hb⟩)
    go_wp2_with fail
    go_ret
    refine made_eq ⟨_, rfl, hown, hb⟩ ?_
    rw [mapHead, if_neg (by omega), if_neg (by omega)]

end Go.Proofs.YtpmdlbbgljcloaaDoor
