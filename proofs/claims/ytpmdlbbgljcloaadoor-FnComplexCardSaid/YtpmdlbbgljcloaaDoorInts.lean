/- Small facts on whole numbers of 1, 2, 4 and 8 bytes, with and without their sign. Conditions: none. -/
import Derived.Test.YtpmdlbbgljcloaaDoorPure
namespace Go.Proofs.YtpmdlbbgljcloaaDoor
open Go Go.RowKit
/-- Numbers of 2, 4 and 8 bytes with their sign ('s8': of one byte). -/
def s16 (x : Int) : Int := IntKind.i16.wrap x
def s32 (x : Int) : Int := IntKind.i32.wrap x
def s64 (x : Int) : Int := IntKind.i64.wrap x
theorem s8_range (x : Int) : -128 ≤ s8 x ∧ s8 x ≤ 127 := by
  unfold s8; simp only [IntKind.wrap, IntKind.bits, IntKind.signed]; simp; split <;> omega
theorem s16_range (x : Int) : -32768 ≤ s16 x ∧ s16 x ≤ 32767 := by
  unfold s16; simp only [IntKind.wrap, IntKind.bits, IntKind.signed]; simp; split <;> omega
theorem s32_range (x : Int) : -2147483648 ≤ s32 x ∧ s32 x ≤ 2147483647 := by
  unfold s32; rw [IntKind.wrap_i32]; omega
theorem s64_range (x : Int) : -9223372036854775808 ≤ s64 x ∧ s64 x ≤ 9223372036854775807 := by
  unfold s64; rw [IntKind.wrap_i64]; omega
theorem s8_eq {x : Int} (h0 : 0 ≤ x) (h1 : x < 256) : s8 x = if x < 128 then x else x - 256 := by
  unfold s8; simp only [IntKind.wrap, IntKind.bits, IntKind.signed]; simp; split <;> split <;> omega
theorem s16_eq {x : Int} (h0 : 0 ≤ x) (h1 : x < 65536) : s16 x = if x < 32768 then x else x - 65536 := by
  unfold s16; simp only [IntKind.wrap, IntKind.bits, IntKind.signed]; simp; split <;> split <;> omega
theorem s32_eq {x : Int} (h0 : 0 ≤ x) (h1 : x < 4294967296) : s32 x = if x < 2147483648 then x else x - 4294967296 := by
  unfold s32; rw [IntKind.wrap_i32]; split <;> omega
theorem s64_eq {x : Int} (h0 : 0 ≤ x) (h1 : x < 18446744073709551616) : s64 x = if x < 9223372036854775808 then x else x - 18446744073709551616 := by
  unfold s64; rw [IntKind.wrap_i64]; split <;> omega
theorem i16_or (a x y : Int) (ha : a % 65536 = x * 256) (_x0 : 0 ≤ x) (_x1 : x < 256) (y0 : 0 ≤ y) (y1 : y < 256) : bits .or .i16 a y = s16 (x * 256 + y) := by
  show IntKind.i16.wrap ((BitVec.ofInt 16 a ||| BitVec.ofInt 16 y).toNat : Int) = IntKind.i16.wrap (x * 256 + y)
  rw [BitVec.toNat_or, BitVec.toNat_ofInt, BitVec.toNat_ofInt]
  have e1 : (a % ((2 ^ 16 : Nat) : Int)).toNat = x.toNat * 256 := by
    rw [show ((2 ^ 16 : Nat) : Int) = 65536 from rfl, ha]; omega
  have e2 : (y % ((2 ^ 16 : Nat) : Int)).toNat = y.toNat := by
    rw [show ((2 ^ 16 : Nat) : Int) = 65536 from rfl]; omega
  rw [e1, e2, nat_join 8 (x.toNat * 256) y.toNat (by omega) (by omega)]
  congr 1
  omega
theorem be2_drop (l : List Int) : be2 (l.drop 1) 0 = be2 l 1 := by simp only [be2, at_drop]
theorem be4_drop (l : List Int) : be4 (l.drop 1) 0 = be4 l 1 := by simp only [be4, be2, at_drop, Nat.reduceAdd]
theorem be8_drop (l : List Int) : be8 (l.drop 1) 0 = be8 l 1 := by simp only [be8, be4, be2, at_drop, Nat.reduceAdd]
end Go.Proofs.YtpmdlbbgljcloaaDoor
