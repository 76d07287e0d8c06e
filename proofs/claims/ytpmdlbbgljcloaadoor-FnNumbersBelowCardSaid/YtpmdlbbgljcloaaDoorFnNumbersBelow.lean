/- The law FnNumbersBelow, walked: a number below 0 is not read as one without a sign. Conditions: the numbers are int64s; the two sentinels' variables hold what the program lays in them. -/
import Derived.Test.YtpmdlbbgljcloaaDoorSpecInt
import Derived.Test.YtpmdlbbgljcloaaDoorImplU
namespace Go.Proofs.YtpmdlbbgljcloaaDoor
open Go Go.RowKit Go.Lib
set_option linter.unusedVariables false

theorem be2_by2 (n : Int) (f : Int) : be2 (f :: by2 n) 1 = n % 65536 := by simp [be2, at_, by2]; omega
theorem be4_by4 (n : Int) (f : Int) : be4 (f :: by4 n) 1 = n % 4294967296 := by simp [be4, be2, at_, by4]; omega
theorem be8_by8 (n : Int) (f : Int) : be8 (f :: by8 n) 1 = n % 18446744073709551616 := by simp [be8, be4, be2, at_, by8]; omega
theorem at_by1 (n : Int) (f : Int) : at_ (f :: by1 n) 1 = n % 256 := by simp [at_, by1]

theorem intText_len (n : Int) : (intText n).length ≤ 9 := by
  unfold intText
  (repeat' split) <;> simp [by1, by2, by4, by8]

theorem below_plain (n : Int) (h0 : -9223372036854775808 ≤ n) (h1 : n < 0) : ∃ r, rdU64 (intText n) = (0, 0, r) ∧ r.code = 5 := by
  unfold intText
  by_cases c1 : -32 ≤ n ∧ n ≤ 127
  · rw [if_pos c1]
    refine ⟨.below (s8 (at_ (by1 n) 0)), ?_, rfl⟩
    have e : at_ (by1 n) 0 = n + 256 := by simp [at_, by1]; omega
    rw [rdU64, if_neg (by simp [by1]), if_neg (by omega), if_pos (by omega)]
  rw [if_neg c1]
  by_cases c2 : -128 ≤ n ∧ n ≤ 127
  · rw [if_pos c2]
    refine ⟨.below (s8 (at_ (208 :: by1 n) 1)), ?_, rfl⟩
    have e : at_ (208 :: by1 n) 0 = 208 := rfl
    rw [rdU64, e, if_neg (by simp), if_neg (by omega), if_neg (by omega), if_neg (by omega), if_neg (by omega), if_neg (by omega), if_neg (by omega), if_pos rfl, if_neg (by simp [by1]), if_neg (by rw [at_by1]; omega)]
  rw [if_neg c2]
  by_cases c3 : -32768 ≤ n ∧ n ≤ 32767
  · rw [if_pos c3]
    refine ⟨.below (s16 (be2 (209 :: by2 n) 1)), ?_, rfl⟩
    have e : at_ (209 :: by2 n) 0 = 209 := rfl
    rw [rdU64, e, if_neg (by simp), if_neg (by omega), if_neg (by omega), if_neg (by omega), if_neg (by omega), if_neg (by omega), if_neg (by omega), if_neg (by omega), if_pos rfl, if_neg (by simp [by2]), if_neg (by rw [be2_by2]; omega)]
  rw [if_neg c3]
  by_cases c4 : -2147483648 ≤ n ∧ n < 2147483648
  · rw [if_pos c4]
    refine ⟨.below (s32 (be4 (210 :: by4 n) 1)), ?_, rfl⟩
    have e : at_ (210 :: by4 n) 0 = 210 := rfl
    rw [rdU64, e, if_neg (by simp), if_neg (by omega), if_neg (by omega), if_neg (by omega), if_neg (by omega), if_neg (by omega), if_neg (by omega), if_neg (by omega), if_neg (by omega), if_pos rfl, if_neg (by simp [by4]), if_neg (by rw [be4_by4]; omega)]
  rw [if_neg c4]
  refine ⟨.below (s64 (be8 (211 :: by8 n) 1)), ?_, rfl⟩
  have e : at_ (211 :: by8 n) 0 = 211 := rfl
  rw [rdU64, e, if_neg (by simp), if_neg (by omega), if_neg (by omega), if_neg (by omega), if_neg (by omega), if_neg (by omega), if_neg (by omega), if_neg (by omega), if_neg (by omega), if_neg (by omega), if_pos rfl, if_neg (by simp [by8]), if_neg (by rw [be8_by8]; omega)]
set_option maxHeartbeats 2000000 in
set_option maxRecDepth 100000 in
theorem fnNumbersBelow8_c (n : Int) (w : World) (h0 : -9223372036854775808 ≤ n) (h1 : n < 0) (hG : Glob w) : Calls Tryd.prog 10 #[.int .i64 n, .int .i64 8] w fun e w' => e = .returned (.bool true) ∧ Below w.heap.size w w' := by
  obtain ⟨r, p1, p2⟩ := below_plain n h0 h1
  have p3 : rdU8 (intText n) = (0, 0, r) := by rw [rdU8, p1, if_neg (by simp)]
  have HG : Hid (Glob w) := hG
  have hlen : (intText n).length ≤ 9 := intText_len n
  have hcall : ∀ (A : Option Addr) (c : Nat) (W : World), Rd W A (intText n) → Glob W → Calls Tryd.prog 24 #[.slice A (intText n).length c, .int .i64 8] W fun e w' => e = .returned (.tuple #[.int .u64 0, .int .i64 0, .int .i64 5]) ∧ Below W.heap.size W w' := fun A c W hr' hG' => by
    have h := implU8_c A _ c (intText n) W hr' rfl (by omega) hG'
    rw [p3] at h
    simp only [p2] at h
    exact h
  clear p1 p3 hG
  go_enter Tryd.func10, Tryd.ntmps10
  go_wp2_with fail
  ((with_reducible refine (intText_c _ _ h0 (by omega)).mono ?_); rintro e w1 ⟨v1, rfl, hown1, hb1⟩)
  obtain ⟨A1, c1, rfl, -, -, hr1⟩ := hown1.open_ (byts_intText n)
  go_wp2_with fail
  ((with_reducible refine (hcall _ _ _ hr1 (HG.out.mono hb1)).mono ?_); rintro e w2 ⟨rfl, hb2⟩)
  go_wp2_with fail
  go_ret
  exact ⟨rfl, hb1.trans (hb2.mono hb1.size)⟩

set_option maxHeartbeats 2000000 in
set_option maxRecDepth 100000 in
theorem fnNumbersBelow16_c (n : Int) (w : World) (h0 : -9223372036854775808 ≤ n) (h1 : n < 0) (hG : Glob w) : Calls Tryd.prog 10 #[.int .i64 n, .int .i64 16] w fun e w' => e = .returned (.bool true) ∧ Below w.heap.size w w' := by
  obtain ⟨r, p1, p2⟩ := below_plain n h0 h1
  have p3 : rdU16 (intText n) = (0, 0, r) := by rw [rdU16, p1, if_neg (by simp)]
  have HG : Hid (Glob w) := hG
  have hlen : (intText n).length ≤ 9 := intText_len n
  have hcall : ∀ (A : Option Addr) (c : Nat) (W : World), Rd W A (intText n) → Glob W → Calls Tryd.prog 24 #[.slice A (intText n).length c, .int .i64 16] W fun e w' => e = .returned (.tuple #[.int .u64 0, .int .i64 0, .int .i64 5]) ∧ Below W.heap.size W w' := fun A c W hr' hG' => by
    have h := implU16_c A _ c (intText n) W hr' rfl (by omega) hG'
    rw [p3] at h
    simp only [p2] at h
    exact h
  clear p1 p3 hG
  go_enter Tryd.func10, Tryd.ntmps10
  go_wp2_with fail
  ((with_reducible refine (intText_c _ _ h0 (by omega)).mono ?_); rintro e w1 ⟨v1, rfl, hown1, hb1⟩)
  obtain ⟨A1, c1, rfl, -, -, hr1⟩ := hown1.open_ (byts_intText n)
  go_wp2_with fail
  ((with_reducible refine (hcall _ _ _ hr1 (HG.out.mono hb1)).mono ?_); rintro e w2 ⟨rfl, hb2⟩)
  go_wp2_with fail
  go_ret
  exact ⟨rfl, hb1.trans (hb2.mono hb1.size)⟩

set_option maxHeartbeats 2000000 in
set_option maxRecDepth 100000 in
theorem fnNumbersBelow32_c (n : Int) (w : World) (h0 : -9223372036854775808 ≤ n) (h1 : n < 0) (hG : Glob w) : Calls Tryd.prog 10 #[.int .i64 n, .int .i64 32] w fun e w' => e = .returned (.bool true) ∧ Below w.heap.size w w' := by
  obtain ⟨r, p1, p2⟩ := below_plain n h0 h1
  have p3 : rdU32 (intText n) = (0, 0, r) := by rw [rdU32, p1, if_neg (by simp)]
  have HG : Hid (Glob w) := hG
  have hlen : (intText n).length ≤ 9 := intText_len n
  have hcall : ∀ (A : Option Addr) (c : Nat) (W : World), Rd W A (intText n) → Glob W → Calls Tryd.prog 24 #[.slice A (intText n).length c, .int .i64 32] W fun e w' => e = .returned (.tuple #[.int .u64 0, .int .i64 0, .int .i64 5]) ∧ Below W.heap.size W w' := fun A c W hr' hG' => by
    have h := implU32_c A _ c (intText n) W hr' rfl (by omega) hG'
    rw [p3] at h
    simp only [p2] at h
    exact h
  clear p1 p3 hG
  go_enter Tryd.func10, Tryd.ntmps10
  go_wp2_with fail
  ((with_reducible refine (intText_c _ _ h0 (by omega)).mono ?_); rintro e w1 ⟨v1, rfl, hown1, hb1⟩)
  obtain ⟨A1, c1, rfl, -, -, hr1⟩ := hown1.open_ (byts_intText n)
  go_wp2_with fail
  ((with_reducible refine (hcall _ _ _ hr1 (HG.out.mono hb1)).mono ?_); rintro e w2 ⟨rfl, hb2⟩)
  go_wp2_with fail
  go_ret
  exact ⟨rfl, hb1.trans (hb2.mono hb1.size)⟩

set_option maxHeartbeats 2000000 in
set_option maxRecDepth 100000 in
theorem fnNumbersBelow64_c (n : Int) (w : World) (h0 : -9223372036854775808 ≤ n) (h1 : n < 0) (hG : Glob w) : Calls Tryd.prog 10 #[.int .i64 n, .int .i64 64] w fun e w' => e = .returned (.bool true) ∧ Below w.heap.size w w' := by
  obtain ⟨r, p1, p2⟩ := below_plain n h0 h1
  have p3 := p1
  have HG : Hid (Glob w) := hG
  have hlen : (intText n).length ≤ 9 := intText_len n
  have hcall : ∀ (A : Option Addr) (c : Nat) (W : World), Rd W A (intText n) → Glob W → Calls Tryd.prog 24 #[.slice A (intText n).length c, .int .i64 64] W fun e w' => e = .returned (.tuple #[.int .u64 0, .int .i64 0, .int .i64 5]) ∧ Below W.heap.size W w' := fun A c W hr' hG' => by
    have h := implU64_c A _ c (intText n) W hr' rfl (by omega) hG'
    rw [p3] at h
    simp only [p2] at h
    exact h
  clear p1 p3 hG
  go_enter Tryd.func10, Tryd.ntmps10
  go_wp2_with fail
  ((with_reducible refine (intText_c _ _ h0 (by omega)).mono ?_); rintro e w1 ⟨v1, rfl, hown1, hb1⟩)
  obtain ⟨A1, c1, rfl, -, -, hr1⟩ := hown1.open_ (byts_intText n)
  go_wp2_with fail
  ((with_reducible refine (hcall _ _ _ hr1 (HG.out.mono hb1)).mono ?_); rintro e w2 ⟨rfl, hb2⟩)
  go_wp2_with fail
  go_ret
  exact ⟨rfl, hb1.trans (hb2.mono hb1.size)⟩

set_option maxHeartbeats 2000000 in
set_option maxRecDepth 100000 in
theorem fnNumbersBelow_c (n b : Int) (w : World) (hn : -9223372036854775808 ≤ n ∧ n ≤ 9223372036854775807) (hb : -9223372036854775808 ≤ b ∧ b ≤ 9223372036854775807) (hG : Glob w) :
    Calls Tryd.prog 10 #[.int .i64 n, .int .i64 b] w fun e w' => e = .returned (.bool true) ∧ Below w.heap.size w w' := by
  by_cases h1 : 0 ≤ n
  · go_enter Tryd.func10, Tryd.ntmps10
    go_wp2_with fail
    go_ret
    exact ⟨rfl, Below.refl _ _⟩
  by_cases z8 : b = 8
  · subst z8; exact fnNumbersBelow8_c n w hn.1 (by omega) hG
  by_cases z16 : b = 16
  · subst z16; exact fnNumbersBelow16_c n w hn.1 (by omega) hG
  by_cases z32 : b = 32
  · subst z32; exact fnNumbersBelow32_c n w hn.1 (by omega) hG
  by_cases z64 : b = 64
  · subst z64; exact fnNumbersBelow64_c n w hn.1 (by omega) hG
  have h2 : n < 0 := by omega
  have f8 : (b != 8) = true := by simpa using z8
  have f16 : (b != 16) = true := by simpa using z16
  have f32 : (b != 32) = true := by simpa using z32
  have f64 : (b != 64) = true := by simpa using z64
  go_enter Tryd.func10, Tryd.ntmps10
  go_wp2_with fail
  go_ret
  exact ⟨rfl, Below.refl _ _⟩
end Go.Proofs.YtpmdlbbgljcloaaDoor
