/- What msgp writes for a whole number with a sign (AppendInt64 onto nil), walked: the shortest form. Conditions: the number is an int64. -/
import Derived.Test.YtpmdlbbgljcloaaDoorPure
namespace Go.Proofs.YtpmdlbbgljcloaaDoor
open Go Go.RowKit

theorem mk2 : ∀ w, (Instr.makeSlice 22 (.int .i64 2) (.int .i64 2)).run Tryd.prog w = .ok (.slice (some ⟨w.heap.size, 0, none⟩) 2 2) (w.alloc (.cells #[.int .u8 0, .int .u8 0] 5)) := fun _ => by kernel_rfl
theorem mk3 : ∀ w, (Instr.makeSlice 22 (.int .i64 3) (.int .i64 3)).run Tryd.prog w = .ok (.slice (some ⟨w.heap.size, 0, none⟩) 3 3) (w.alloc (.cells #[.int .u8 0, .int .u8 0, .int .u8 0] 5)) := fun _ => by kernel_rfl
theorem mk5 : ∀ w, (Instr.makeSlice 22 (.int .i64 5) (.int .i64 5)).run Tryd.prog w = .ok (.slice (some ⟨w.heap.size, 0, none⟩) 5 5) (w.alloc (.cells #[.int .u8 0, .int .u8 0, .int .u8 0, .int .u8 0, .int .u8 0] 5)) := fun _ => by kernel_rfl
theorem mk9 : ∀ w, (Instr.makeSlice 22 (.int .i64 9) (.int .i64 9)).run Tryd.prog w = .ok (.slice (some ⟨w.heap.size, 0, none⟩) 9 9) (w.alloc (.cells #[.int .u8 0, .int .u8 0, .int .u8 0, .int .u8 0, .int .u8 0, .int .u8 0, .int .u8 0, .int .u8 0, .int .u8 0] 5)) := fun _ => by kernel_rfl

theorem and_127 (x : Int) (h0 : 0 ≤ x) (h1 : x < 128) : bits .and .u8 x 127 = x := by
  rw [u8_and x 127 (by omega) (by omega) (by omega) (by omega)]
  show ((x.toNat &&& 127 : Nat) : Int) = x
  rw [nat_mask7]
  omega
theorem or_224 (x : Int) (h0 : -32 ≤ x) (h1 : x < 0) : bits .or .u8 (x % 256) 224 = x % 256 := by
  rw [u8_or (x % 256) 224 (by omega) (by omega) (by omega) (by omega)]
  show (((x % 256).toNat ||| 224 : Nat) : Int) = x % 256
  have e : (x % 256).toNat = 224 + (x + 32).toNat := by omega
  rw [e]
  have hs : (x + 32).toNat < 32 := by omega
  generalize (x + 32).toNat = y at hs e
  have key : ∀ y : Fin 32, (224 + y.val ||| 224) = 224 + y.val := by decide
  have := key ⟨y, hs⟩
  simp only at this
  rw [this, ← e]
  omega

set_option maxHeartbeats 400000 in
theorem wfixint_c (x : Int) (w : World) (h0 : 0 ≤ x) (h1 : x < 128) : Calls Tryd.prog 92 #[.int .u8 x] w fun e w' => e = .returned (.int .u8 x) ∧ w = w' := by
  have e := and_127 x h0 h1
  go_enter Tryd.func92, Tryd.ntmps92
  go_wp2
  go_ret
  exact ⟨rfl, rfl⟩

set_option maxHeartbeats 400000 in
theorem wnfixint_c (x : Int) (w : World) (h0 : -32 ≤ x) (h1 : x < 0) : Calls Tryd.prog 97 #[.int .i8 x] w fun e w' => e = .returned (.int .u8 (x % 256)) ∧ w = w' := by
  have e := or_224 x h0 h1
  go_enter Tryd.func97, Tryd.ntmps97
  go_wp2
  go_ret
  exact ⟨rfl, rfl⟩

set_option maxHeartbeats 400000 in
theorem appInt_fix (n : Int) (w : World) (h0 : 0 ≤ n) (h1 : n ≤ 127) : Calls Tryd.prog 52 #[.slice none 0 0, .int .i64 n] w (Made w [n]) := by
  have hbx : 0 ≤ n ∧ n < 256 := by omega
  go_enter Tryd.func52, Tryd.ntmps52
  go_wp2_with (first | (go_at_call 92; refine (wfixint_c _ _ (by omega) (by omega)).mono ?_; rintro e w' ⟨rfl, rfl⟩) | (at_builtin; refine app_own rfl _ _ rfl w.heap.size _ [] rfl (World.ownsRow_nil _ _ _ _) (some ⟨w.heap.size, 0, none⟩) 1 1 [n] rfl (rd_one _ _ hbx _) rfl (by simp) (by simp) ?_; intro v1 w1 hown1 hb1))
  go_ret
  exact ⟨_, rfl, hown1, ((Below.refl _ _).alloc (Nat.le_refl _) _).trans hb1⟩

set_option maxHeartbeats 400000 in
theorem appInt_nfix (n : Int) (w : World) (h0 : -32 ≤ n) (h1 : n < 0) : Calls Tryd.prog 52 #[.slice none 0 0, .int .i64 n] w (Made w [n % 256]) := by
  go_enter Tryd.func52, Tryd.ntmps52
  go_wp2_with (first | (go_at_call 97; refine (wnfixint_c _ _ (by omega) (by omega)).mono ?_; rintro e w' ⟨rfl, rfl⟩) | (at_builtin; refine app_own rfl _ _ rfl w.heap.size _ [] rfl (World.ownsRow_nil _ _ _ _) (some ⟨w.heap.size, 0, none⟩) 1 1 [n % 256] rfl (rd_one _ _ (byte_mod _) _) rfl (by simp) (by simp) ?_; intro v1 w1 hown1 hb1))
  go_ret
  exact ⟨_, rfl, hown1, ((Below.refl _ _).alloc (Nat.le_refl _) _).trans hb1⟩

/- one branch a theorem: a form of 2, 3, 5 or 9 bytes -/
set_option maxHeartbeats 400000 in
theorem appInt_n2 (n : Int) (w : World) (h0 : -128 ≤ n) (h1 : n < -32) : Calls Tryd.prog 52 #[.slice none 0 0, .int .i64 n] w (Made w (208 :: by1 n)) := by
  have hmk := mk2
  have hcp := run_copy_nil_src
  go_enter Tryd.func52, Tryd.ntmps52
  go_wp2
  go_end0
  go_wp2
  go_ret
  refine ⟨_, rfl, own_lit w (208 :: by1 n) _ 2 rfl ?_ (by omega), (Below.refl _ _).alloc (Nat.le_refl _) _⟩
  simp [by1]
  try omega

set_option maxHeartbeats 400000 in
theorem appInt_n3 (n : Int) (w : World) (h0 : -32768 ≤ n) (h1 : n < -128) : Calls Tryd.prog 52 #[.slice none 0 0, .int .i64 n] w (Made w (209 :: by2 n)) := by
  have hmk := mk3
  have hcp := run_copy_nil_src
  go_enter Tryd.func52, Tryd.ntmps52
  go_wp2
  go_end0
  go_wp2
  go_ret
  refine ⟨_, rfl, own_lit w (209 :: by2 n) _ 3 rfl ?_ (by omega), (Below.refl _ _).alloc (Nat.le_refl _) _⟩
  simp [by2]
  try omega

set_option maxHeartbeats 400000 in
theorem appInt_p3 (n : Int) (w : World) (h0 : 127 < n) (h1 : n ≤ 32767) : Calls Tryd.prog 52 #[.slice none 0 0, .int .i64 n] w (Made w (209 :: by2 n)) := by
  have hmk := mk3
  have hcp := run_copy_nil_src
  go_enter Tryd.func52, Tryd.ntmps52
  go_wp2
  go_end0
  go_wp2
  go_ret
  refine ⟨_, rfl, own_lit w (209 :: by2 n) _ 3 rfl ?_ (by omega), (Below.refl _ _).alloc (Nat.le_refl _) _⟩
  simp [by2]
  try omega

set_option maxHeartbeats 400000 in
theorem appInt_n5 (n : Int) (w : World) (h0 : -2147483648 ≤ n) (h1 : n < -32768) : Calls Tryd.prog 52 #[.slice none 0 0, .int .i64 n] w (Made w (210 :: by4 n)) := by
  have hmk := mk5
  have hcp := run_copy_nil_src
  go_enter Tryd.func52, Tryd.ntmps52
  go_wp2
  go_end0
  go_wp2
  go_ret
  refine ⟨_, rfl, own_lit w (210 :: by4 n) _ 5 rfl ?_ (by omega), (Below.refl _ _).alloc (Nat.le_refl _) _⟩
  simp [by4]
  try omega

set_option maxHeartbeats 400000 in
theorem appInt_p5 (n : Int) (w : World) (h0 : 32767 < n) (h1 : n ≤ 2147483647) : Calls Tryd.prog 52 #[.slice none 0 0, .int .i64 n] w (Made w (210 :: by4 n)) := by
  have hmk := mk5
  have hcp := run_copy_nil_src
  go_enter Tryd.func52, Tryd.ntmps52
  go_wp2
  go_end0
  go_wp2
  go_ret
  refine ⟨_, rfl, own_lit w (210 :: by4 n) _ 5 rfl ?_ (by omega), (Below.refl _ _).alloc (Nat.le_refl _) _⟩
  simp [by4]
  try omega

set_option maxHeartbeats 400000 in
theorem appInt_n9 (n : Int) (w : World) (h0 : -9223372036854775808 ≤ n) (h1 : n < -2147483648) : Calls Tryd.prog 52 #[.slice none 0 0, .int .i64 n] w (Made w (211 :: by8 n)) := by
  have hmk := mk9
  have hcp := run_copy_nil_src
  go_enter Tryd.func52, Tryd.ntmps52
  go_wp2
  go_end0
  go_wp2
  go_ret
  refine ⟨_, rfl, own_lit w (211 :: by8 n) _ 9 rfl ?_ (by omega), (Below.refl _ _).alloc (Nat.le_refl _) _⟩
  simp [by8]
  try omega

set_option maxHeartbeats 400000 in
theorem appInt_p9 (n : Int) (w : World) (h0 : 2147483647 < n) (h1 : n ≤ 9223372036854775807) : Calls Tryd.prog 52 #[.slice none 0 0, .int .i64 n] w (Made w (211 :: by8 n)) := by
  have hmk := mk9
  have hcp := run_copy_nil_src
  go_enter Tryd.func52, Tryd.ntmps52
  go_wp2
  go_end0
  go_wp2
  go_ret
  refine ⟨_, rfl, own_lit w (211 :: by8 n) _ 9 rfl ?_ (by omega), (Below.refl _ _).alloc (Nat.le_refl _) _⟩
  simp [by8]
  try omega

theorem appInt_c (n : Int) (w : World) (h0 : -9223372036854775808 ≤ n) (h1 : n ≤ 9223372036854775807) : Calls Tryd.prog 52 #[.slice none 0 0, .int .i64 n] w (Made w (intText n)) := by
  unfold intText
  split
  · rename_i h
    by_cases hn : 0 ≤ n
    · rw [by1, show n % 256 = n by omega]; exact appInt_fix n w hn h.2
    · exact appInt_nfix n w h.1 (by omega)
  split
  · exact appInt_n2 n w (by omega) (by omega)
  split
  · by_cases hn : 0 ≤ n
    · exact appInt_p3 n w (by omega) (by omega)
    · exact appInt_n3 n w (by omega) (by omega)
  split
  · by_cases hn : 0 ≤ n
    · exact appInt_p5 n w (by omega) (by omega)
    · exact appInt_n5 n w (by omega) (by omega)
  · by_cases hn : 0 ≤ n
    · exact appInt_p9 n w (by omega) (by omega)
    · exact appInt_n9 n w (by omega) (by omega)

end Go.Proofs.YtpmdlbbgljcloaaDoor
