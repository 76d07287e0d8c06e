/- What the reference writes: fixed, With and the shortest forms of whole numbers, walked. Conditions: a number is of its kind; at most 8 bytes. -/
import Derived.Test.YtpmdlbbgljcloaaDoorPure
namespace Go.Proofs.YtpmdlbbgljcloaaDoor
open Go Go.RowKit

/-- The k lowest bytes of n, the highest first. -/
def fixedL (n : Int) : Nat → List Int
  | 0 => []
  | k + 1 => n / 2 ^ (8 * k) % 256 :: fixedL n k
theorem fixedL_length (n : Int) : ∀ k, (fixedL n k).length = k
  | 0 => rfl
  | k + 1 => by simp [fixedL, fixedL_length n k]
theorem fixedL_byts (n : Int) : ∀ k, Byts (fixedL n k)
  | 0 => Byts.nil
  | k + 1 => (fixedL_byts n k).cons (byte_mod _)
theorem fixedL_1 (n : Int) : fixedL n 1 = by1 n := by simp [fixedL, by1]
theorem fixedL_2 (n : Int) : fixedL n 2 = by2 n := by simp [fixedL, by2]
theorem fixedL_4 (n : Int) : fixedL n 4 = by4 n := by simp [fixedL, by4]
theorem fixedL_8 (n : Int) : fixedL n 8 = by8 n := by simp [fixedL, by8]

set_option maxHeartbeats 400000 in
theorem fixed_c (n : Int) (k : Nat) (w : World) (_h0 : 0 ≤ n) (_h1 : n ≤ 18446744073709551615) (hk : k ≤ 8) : Calls Tryd.prog 67 #[.int .u64 n, .int .i64 k] w (Made w (fixedL n k)) := by
  go_enter Tryd.func67, Tryd.ntmps67
  go_wp2
  go_loopw [5, 6] (fun v i wr => ∃ (j : Nat) (l : List Int), j ≤ k ∧ i = .int .i64 ((j : Int) - 1) ∧ Own wr w.heap.size v l ∧ Hid (l ++ fixedL n j = fixedL n k) ∧ Below w.heap.size w wr) (fun _ i _ => (intOf i + 1).toNat)
  case atStart =>
    exact ⟨k, [], Nat.le_refl _, rfl, own_lit w [] #[] 0 rfl rfl (by omega), rfl, (Below.refl _ _).alloc (Nat.le_refl _) _⟩
  case round =>
    obtain ⟨j, l, hj, rfl, hown, hl, hb⟩ := hrel
    have hll : l.length ≤ 8 := by
      have := congrArg List.length hl.out
      rw [List.length_append, fixedL_length, fixedL_length] at this
      omega
    rcases j with _ | j
    · go_wp2
      go_ret
      have e := hl.out
      rw [fixedL, List.append_nil] at e
      subst e
      exact ⟨_, rfl, hown, hb⟩
    · have e : ((j + 1 : Nat) : Int) - 1 = j := by omega
      rw [e]
      clear e
      have hbs := hb.size
      have hba : ∀ o, w.heap.size ≤ (wr.alloc o).heap.size := fun o => by simp; omega
      have hle : ∀ x : Int, l.length + [x].length ≤ 1000000000000 := fun x => by simp; omega
      go_wp2_with (at_builtin; refine app_own rfl _ _ rfl w.heap.size _ l rfl (World.ownsRow.alloc hown _) (some ⟨wr.heap.size, 0, none⟩) 1 1 [n / 2 ^ (8 * j) % 256] rfl (rd_one _ _ (byte_mod _) _) rfl (hle _) (hba _) ?_; intro v1 w1 hown1 hb1)
      go_roundw
      case rel =>
        refine ⟨j, _, by omega, rfl, hown1, ?_, (hb.alloc hbs _).trans hb1⟩
        have e := hl.out
        rw [fixedL] at e
        show _ = _
        rw [← e]
        simp
      case measure => simp [intOf]

set_option maxHeartbeats 400000 in
theorem with_c (f n : Int) (k : Nat) (w : World) (_hf : 0 ≤ f ∧ f < 256) (h0 : 0 ≤ n) (h1 : n ≤ 18446744073709551615) (hk : k ≤ 8) : Calls Tryd.prog 30 #[.int .u8 f, .int .u64 n, .int .i64 k] w (Made w (f :: fixedL n k)) := by
  go_enter Tryd.func30, Tryd.ntmps30
  go_wp2_with fail
  refine (fixed_c _ _ _ h0 h1 hk).mono ?_
  rintro e w1 ⟨v1, rfl, hown1, hb1⟩
  obtain ⟨A, c, rfl, -, -, hrd⟩ := hown1.open_ (fixedL_byts n k)
  have hlf := fixedL_length n k
  have hle : [f].length + (fixedL n k).length ≤ 1000000000000 := by rw [hlf]; simp; omega
  have hba : w.heap.size ≤ w1.heap.size := by have := hb1.size; simp at this; omega
  have ho := (own_lit w [f] _ 1 rfl rfl (by omega)).mono hb1
  rw [fixedL_length]
  clear hlf
  go_wp2_with (at_builtin; refine app_own rfl _ _ rfl w.heap.size _ [f] rfl ho A k c (fixedL n k) rfl hrd (fixedL_length n k) hle hba ?_; intro v2 w2 hown2 hb2)
  go_ret
  exact ⟨v2, rfl, hown2, (((Below.refl _ w).alloc (Nat.le_refl _) _).trans (hb1.mono (by simp))).trans hb2⟩

theorem with1_c (f n : Int) (w : World) (hf : 0 ≤ f ∧ f < 256) (h0 : 0 ≤ n) (h1 : n ≤ 18446744073709551615) : Calls Tryd.prog 30 #[.int .u8 f, .int .u64 n, .int .i64 1] w (Made w (f :: by1 n)) := by
  have := with_c f n 1 w hf h0 h1 (by omega)
  rw [fixedL_1] at this
  exact this
theorem with2_c (f n : Int) (w : World) (hf : 0 ≤ f ∧ f < 256) (h0 : 0 ≤ n) (h1 : n ≤ 18446744073709551615) : Calls Tryd.prog 30 #[.int .u8 f, .int .u64 n, .int .i64 2] w (Made w (f :: by2 n)) := by
  have := with_c f n 2 w hf h0 h1 (by omega)
  rw [fixedL_2] at this
  exact this
theorem with4_c (f n : Int) (w : World) (hf : 0 ≤ f ∧ f < 256) (h0 : 0 ≤ n) (h1 : n ≤ 18446744073709551615) : Calls Tryd.prog 30 #[.int .u8 f, .int .u64 n, .int .i64 4] w (Made w (f :: by4 n)) := by
  have := with_c f n 4 w hf h0 h1 (by omega)
  rw [fixedL_4] at this
  exact this
theorem with8_c (f n : Int) (w : World) (hf : 0 ≤ f ∧ f < 256) (h0 : 0 ≤ n) (h1 : n ≤ 18446744073709551615) : Calls Tryd.prog 30 #[.int .u8 f, .int .u64 n, .int .i64 8] w (Made w (f :: by8 n)) := by
  have := with_c f n 8 w hf h0 h1 (by omega)
  rw [fixedL_8] at this
  exact this

/-- A negative number's bytes are those of its 64-bit pattern. -/
theorem by1_mod (n : Int) : by1 (n % 18446744073709551616) = by1 n := by simp only [by1]; congr 1; omega
theorem by2_mod (n : Int) : by2 (n % 18446744073709551616) = by2 n := by simp only [by2]; congr 1; omega; congr 1; omega
theorem by4_mod (n : Int) : by4 (n % 18446744073709551616) = by4 n := by simp only [by4]; congr 1; omega; congr 1; omega; congr 1; omega; congr 1; omega
theorem by8_mod (n : Int) : by8 (n % 18446744073709551616) = by8 n := by
  simp only [by8]; congr 1; omega; congr 1; omega; congr 1; omega; congr 1; omega; congr 1; omega; congr 1; omega; congr 1; omega; congr 1; omega

theorem u64w (n : Int) : 0 ≤ IntKind.u64.wrap n ∧ IntKind.u64.wrap n ≤ 18446744073709551615 := by rw [IntKind.wrap_u64]; omega
theorem made_eq {w w' : World} {l l' : List Int} {e : Ending} (h : Made w l e w') (hl : l = l') : Made w l' e w' := hl ▸ h
set_option maxHeartbeats 4000000 in
theorem intText_c (n : Int) (w : World) (h0 : -9223372036854775808 ≤ n) (h1 : n ≤ 9223372036854775807) : Calls Tryd.prog 16 #[.int .i64 n] w (Made w (intText n)) := by
  have w0 := (u64w n).1
  have w1 := (u64w n).2
  have hcase : (-32 ≤ n ∧ n ≤ 127) ∨ (-128 ≤ n ∧ n < -32) ∨ (-32768 ≤ n ∧ n < -128) ∨ (127 < n ∧ n ≤ 32767) ∨ (-2147483648 ≤ n ∧ n < -32768) ∨ (32767 < n ∧ n < 2147483648) ∨ n < -2147483648 ∨ 2147483648 ≤ n := by omega
  rcases hcase with ⟨a1, a2⟩ | ⟨a1, a2⟩ | ⟨a1, a2⟩ | ⟨a1, a2⟩ | ⟨a1, a2⟩ | ⟨a1, a2⟩ | a1 | a1
  · go_enter Tryd.func16, Tryd.ntmps16
    go_wp2_with fail
    go_ret
    refine ⟨_, rfl, own_lit w (intText n) _ 1 ?_ ?_ (by omega), (Below.refl _ _).alloc (Nat.le_refl _) _⟩
    · rw [intText, if_pos (by omega)]; rfl
    · rw [intText, if_pos (by omega)]; rfl
  · go_enter Tryd.func16, Tryd.ntmps16
    go_wp2_with fail
    ((with_reducible refine (with1_c _ _ _ (by decide) w0 w1).mono ?_); rintro e w2 ⟨v, rfl, hown, hb⟩)
    go_wp2_with fail
    go_ret
    refine made_eq ⟨_, rfl, hown, hb⟩ ?_
    rw [IntKind.wrap_u64, by1_mod, intText, if_neg (by omega), if_pos (by omega)]
  · go_enter Tryd.func16, Tryd.ntmps16
    go_wp2_with fail
    ((with_reducible refine (with2_c _ _ _ (by decide) w0 w1).mono ?_); rintro e w2 ⟨v, rfl, hown, hb⟩)
    go_wp2_with fail
    go_ret
    refine made_eq ⟨_, rfl, hown, hb⟩ ?_
    rw [IntKind.wrap_u64, by2_mod, intText, if_neg (by omega), if_neg (by omega), if_pos (by omega)]
  · go_enter Tryd.func16, Tryd.ntmps16
    go_wp2_with fail
    ((with_reducible refine (with2_c _ _ _ (by decide) (by omega) (by omega)).mono ?_); rintro e w2 ⟨v, rfl, hown, hb⟩)
    go_wp2_with fail
    go_ret
    refine made_eq ⟨_, rfl, hown, hb⟩ ?_
    rw [intText, if_neg (by omega), if_neg (by omega), if_pos (by omega)]
  · go_enter Tryd.func16, Tryd.ntmps16
    go_wp2_with fail
    ((with_reducible refine (with4_c _ _ _ (by decide) w0 w1).mono ?_); rintro e w2 ⟨v, rfl, hown, hb⟩)
    go_wp2_with fail
    go_ret
    refine made_eq ⟨_, rfl, hown, hb⟩ ?_
    rw [IntKind.wrap_u64, by4_mod, intText, if_neg (by omega), if_neg (by omega), if_neg (by omega), if_pos (by omega)]
  · go_enter Tryd.func16, Tryd.ntmps16
    go_wp2_with fail
    ((with_reducible refine (with4_c _ _ _ (by decide) (by omega) (by omega)).mono ?_); rintro e w2 ⟨v, rfl, hown, hb⟩)
    go_wp2_with fail
    go_ret
    refine made_eq ⟨_, rfl, hown, hb⟩ ?_
    rw [intText, if_neg (by omega), if_neg (by omega), if_neg (by omega), if_pos (by omega)]
  · go_enter Tryd.func16, Tryd.ntmps16
    go_wp2_with fail
    ((with_reducible refine (with8_c _ _ _ (by decide) w0 w1).mono ?_); rintro e w2 ⟨v, rfl, hown, hb⟩)
    go_wp2_with fail
    go_ret
    refine made_eq ⟨_, rfl, hown, hb⟩ ?_
    rw [IntKind.wrap_u64, by8_mod, intText, if_neg (by omega), if_neg (by omega), if_neg (by omega), if_neg (by omega)]
  · go_enter Tryd.func16, Tryd.ntmps16
    go_wp2_with fail
    ((with_reducible refine (with8_c _ _ _ (by decide) (by omega) (by omega)).mono ?_); rintro e w2 ⟨v, rfl, hown, hb⟩)
    go_wp2_with fail
    go_ret
    refine made_eq ⟨_, rfl, hown, hb⟩ ?_
    rw [intText, if_neg (by omega), if_neg (by omega), if_neg (by omega), if_neg (by omega)]

end Go.Proofs.YtpmdlbbgljcloaaDoor
