/- What msgp writes ahead of bytes, lists and pairs (AppendBytesHeader, AppendArrayHeader, AppendMapHeader onto nil), walked. Conditions: a length is a uint32. -/
import Derived.Test.YtpmdlbbgljcloaaDoorAppInt
import Derived.Lib.EndianBits
namespace Go.Proofs.YtpmdlbbgljcloaaDoor
open Go Go.RowKit Go.Lib
set_option linter.unusedVariables false

theorem wo144 (x : Int) (h0 : 0 ≤ x) (h1 : x < 16) : bits .or .u8 x 144 = 144 + x := by
  rw [u8_or x 144 (by omega) (by omega) (by omega) (by omega)]
  show ((x.toNat ||| 144 : Nat) : Int) = 144 + x
  have key : ∀ y : Fin 16, (y.val ||| 144) = 144 + y.val := by decide
  have := key ⟨x.toNat, by omega⟩
  simp only at this
  rw [this]
  omega
theorem wa144 (x : Int) (h0 : 0 ≤ x) (h1 : x < 16) : bits .and .u8 x 15 = x := by
  rw [u8_and x 15 (by omega) (by omega) (by omega) (by omega)]
  show ((x.toNat &&& 15 : Nat) : Int) = x
  rw [nat_mask4]
  omega
set_option maxHeartbeats 400000 in
theorem wfixarray_c (x : Int) (w : World) (h0 : 0 ≤ x) (h1 : x < 16) : Calls Tryd.prog 128 #[.int .u8 x] w fun e w' => e = .returned (.int .u8 (144 + x)) ∧ w = w' := by
  have e := wo144 x h0 h1
  have e2 := wa144 x h0 h1
  go_enter Tryd.func128, Tryd.ntmps128
  go_wp2
  go_ret
  exact ⟨rfl, rfl⟩

theorem wo128 (x : Int) (h0 : 0 ≤ x) (h1 : x < 16) : bits .or .u8 128 x = 128 + x := by
  rw [u8_or 128 x (by omega) (by omega) (by omega) (by omega)]
  show ((128 ||| x.toNat : Nat) : Int) = 128 + x
  have key : ∀ y : Fin 16, (128 ||| y.val) = 128 + y.val := by decide
  have := key ⟨x.toNat, by omega⟩
  simp only at this
  rw [this]
  omega
theorem wa128 (x : Int) (h0 : 0 ≤ x) (h1 : x < 16) : bits .and .u8 x 15 = x := by
  rw [u8_and x 15 (by omega) (by omega) (by omega) (by omega)]
  show ((x.toNat &&& 15 : Nat) : Int) = x
  rw [nat_mask4]
  omega
set_option maxHeartbeats 400000 in
theorem wfixmap_c (x : Int) (w : World) (h0 : 0 ≤ x) (h1 : x < 16) : Calls Tryd.prog 129 #[.int .u8 x] w fun e w' => e = .returned (.int .u8 (128 + x)) ∧ w = w' := by
  have e := wo128 x h0 h1
  have e2 := wa128 x h0 h1
  go_enter Tryd.func129, Tryd.ntmps129
  go_wp2
  go_ret
  exact ⟨rfl, rfl⟩

set_option maxHeartbeats 1000000 in
theorem appBin_0 (n : Int) (w : World) (h0 : 0 ≤ n) (h1 : n ≤ 255) : Calls Tryd.prog 88 #[.slice none 0 0, .int .u32 n] w (Made w (196 :: by1 n)) := by
  have hmk := mk2
  have hcp := run_copy_nil_src
  go_enter Tryd.func88, Tryd.ntmps88
  go_wp2
  go_end0
  go_wp2
  go_ret
  refine ⟨_, rfl, own_lit w (196 :: by1 n) _ 2 rfl ?_ (by omega), (Below.refl _ _).alloc (Nat.le_refl _) _⟩
  simp [by1]
  try omega

set_option maxHeartbeats 1000000 in
theorem appBin_1 (n : Int) (w : World) (h0 : 256 ≤ n) (h1 : n ≤ 65535) : Calls Tryd.prog 88 #[.slice none 0 0, .int .u32 n] w (Made w (197 :: by2 n)) := by
  have hmk := mk3
  have hcp := run_copy_nil_src
  go_enter Tryd.func88, Tryd.ntmps88
  go_wp2
  go_end0
  go_wp2
  go_ret
  refine ⟨_, rfl, own_lit w (197 :: by2 n) _ 3 rfl ?_ (by omega), (Below.refl _ _).alloc (Nat.le_refl _) _⟩
  simp [by2]
  try omega

set_option maxHeartbeats 1000000 in
theorem appBin_2 (n : Int) (w : World) (h0 : 65536 ≤ n) (h1 : n ≤ 4294967295) : Calls Tryd.prog 88 #[.slice none 0 0, .int .u32 n] w (Made w (198 :: by4 n)) := by
  have hmk := mk5
  have hcp := run_copy_nil_src
  go_enter Tryd.func88, Tryd.ntmps88
  go_wp2
  go_end0
  go_wp2
  go_ret
  refine ⟨_, rfl, own_lit w (198 :: by4 n) _ 5 rfl ?_ (by omega), (Below.refl _ _).alloc (Nat.le_refl _) _⟩
  simp [by4]
  try omega

theorem appBin_c (n : Int) (w : World) (h0 : 0 ≤ n) (h1 : n ≤ 4294967295) : Calls Tryd.prog 88 #[.slice none 0 0, .int .u32 n] w (Made w (binHead n)) := by
  unfold binHead
  split
  · exact appBin_0 n w (by omega) (by omega)
  split
  · exact appBin_1 n w (by omega) (by omega)
  · exact appBin_2 n w (by omega) (by omega)

set_option maxHeartbeats 1000000 in
theorem appArr_0 (n : Int) (w : World) (h0 : 0 ≤ n) (h1 : n ≤ 15) : Calls Tryd.prog 89 #[.slice none 0 0, .int .u32 n] w (Made w [144 + n]) := by
  have hbx : 0 ≤ 144 + n ∧ 144 + n < 256 := by omega
  go_enter Tryd.func89, Tryd.ntmps89
  go_wp2_with (first | (go_at_call 128; refine (wfixarray_c _ _ (by omega) (by omega)).mono ?_; rintro e w' ⟨rfl, rfl⟩) | (at_builtin; refine app_own rfl _ _ rfl w.heap.size _ [] rfl (World.ownsRow_nil _ _ _ _) (some ⟨w.heap.size, 0, none⟩) 1 1 [144 + n] rfl (rd_one _ _ hbx _) rfl (by simp) (by simp) ?_; intro v1 w1 hown1 hb1))
  go_ret
  exact ⟨_, rfl, hown1, ((Below.refl _ _).alloc (Nat.le_refl _) _).trans hb1⟩

set_option maxHeartbeats 1000000 in
theorem appArr_1 (n : Int) (w : World) (h0 : 16 ≤ n) (h1 : n ≤ 65535) : Calls Tryd.prog 89 #[.slice none 0 0, .int .u32 n] w (Made w (220 :: by2 n)) := by
  have hmk := mk3
  have hcp := run_copy_nil_src
  go_enter Tryd.func89, Tryd.ntmps89
  go_wp2
  go_end0
  go_wp2
  go_ret
  refine ⟨_, rfl, own_lit w (220 :: by2 n) _ 3 rfl ?_ (by omega), (Below.refl _ _).alloc (Nat.le_refl _) _⟩
  simp [by2]
  try omega

set_option maxHeartbeats 1000000 in
theorem appArr_2 (n : Int) (w : World) (h0 : 65536 ≤ n) (h1 : n ≤ 4294967295) : Calls Tryd.prog 89 #[.slice none 0 0, .int .u32 n] w (Made w (221 :: by4 n)) := by
  have hmk := mk5
  have hcp := run_copy_nil_src
  go_enter Tryd.func89, Tryd.ntmps89
  go_wp2
  go_end0
  go_wp2
  go_ret
  refine ⟨_, rfl, own_lit w (221 :: by4 n) _ 5 rfl ?_ (by omega), (Below.refl _ _).alloc (Nat.le_refl _) _⟩
  simp [by4]
  try omega

theorem appArr_c (n : Int) (w : World) (h0 : 0 ≤ n) (h1 : n ≤ 4294967295) : Calls Tryd.prog 89 #[.slice none 0 0, .int .u32 n] w (Made w (arrayHead n)) := by
  unfold arrayHead
  split
  · exact appArr_0 n w (by omega) (by omega)
  split
  · exact appArr_1 n w (by omega) (by omega)
  · exact appArr_2 n w (by omega) (by omega)

set_option maxHeartbeats 1000000 in
theorem appMap_0 (n : Int) (w : World) (h0 : 0 ≤ n) (h1 : n ≤ 15) : Calls Tryd.prog 90 #[.slice none 0 0, .int .u32 n] w (Made w [128 + n]) := by
  have hbx : 0 ≤ 128 + n ∧ 128 + n < 256 := by omega
  go_enter Tryd.func90, Tryd.ntmps90
  go_wp2_with (first | (go_at_call 129; refine (wfixmap_c _ _ (by omega) (by omega)).mono ?_; rintro e w' ⟨rfl, rfl⟩) | (at_builtin; refine app_own rfl _ _ rfl w.heap.size _ [] rfl (World.ownsRow_nil _ _ _ _) (some ⟨w.heap.size, 0, none⟩) 1 1 [128 + n] rfl (rd_one _ _ hbx _) rfl (by simp) (by simp) ?_; intro v1 w1 hown1 hb1))
  go_ret
  exact ⟨_, rfl, hown1, ((Below.refl _ _).alloc (Nat.le_refl _) _).trans hb1⟩

set_option maxHeartbeats 1000000 in
theorem appMap_1 (n : Int) (w : World) (h0 : 16 ≤ n) (h1 : n ≤ 65535) : Calls Tryd.prog 90 #[.slice none 0 0, .int .u32 n] w (Made w (222 :: by2 n)) := by
  have hmk := mk3
  have hcp := run_copy_nil_src
  go_enter Tryd.func90, Tryd.ntmps90
  go_wp2
  go_end0
  go_wp2
  go_ret
  refine ⟨_, rfl, own_lit w (222 :: by2 n) _ 3 rfl ?_ (by omega), (Below.refl _ _).alloc (Nat.le_refl _) _⟩
  simp [by2]
  try omega

set_option maxHeartbeats 1000000 in
theorem appMap_2 (n : Int) (w : World) (h0 : 65536 ≤ n) (h1 : n ≤ 4294967295) : Calls Tryd.prog 90 #[.slice none 0 0, .int .u32 n] w (Made w (223 :: by4 n)) := by
  have hmk := mk5
  have hcp := run_copy_nil_src
  go_enter Tryd.func90, Tryd.ntmps90
  go_wp2
  go_end0
  go_wp2
  go_ret
  refine ⟨_, rfl, own_lit w (223 :: by4 n) _ 5 rfl ?_ (by omega), (Below.refl _ _).alloc (Nat.le_refl _) _⟩
  simp [by4]
  try omega

theorem appMap_c (n : Int) (w : World) (h0 : 0 ≤ n) (h1 : n ≤ 4294967295) : Calls Tryd.prog 90 #[.slice none 0 0, .int .u32 n] w (Made w (mapHead n)) := by
  unfold mapHead
  split
  · exact appMap_0 n w (by omega) (by omega)
  split
  · exact appMap_1 n w (by omega) (by omega)
  · exact appMap_2 n w (by omega) (by omega)

end Go.Proofs.YtpmdlbbgljcloaaDoor
