/- What the package's readers of whole numbers answer at a number's written form, with and without a sign, whatever follows. No program is in sight. Conditions: the number is in the form's range. -/
import Derived.Test.YtpmdlbbgljcloaaDoorReadI64
import Derived.Test.YtpmdlbbgljcloaaDoorReadU64
namespace Go.Proofs.YtpmdlbbgljcloaaDoor
open Go
set_option linter.unusedVariables false

theorem r_at1 (n f : Int) (r : List Int) : at_ ((f :: by1 n) ++ r) 1 = n % 256 := by simp [at_, by1]
theorem r_be2 (n f : Int) (r : List Int) : be2 ((f :: by2 n) ++ r) 1 = n % 65536 := by simp [be2, at_, by2]; omega
theorem r_be4 (n f : Int) (r : List Int) : be4 ((f :: by4 n) ++ r) 1 = n % 4294967296 := by simp [be4, be2, at_, by4]; omega
theorem r_be8 (n f : Int) (r : List Int) : be8 ((f :: by8 n) ++ r) 1 = n % 18446744073709551616 := by simp [be8, be4, be2, at_, by8]; omega
theorem r_len1 (n f : Int) (r : List Int) : ((f :: by1 n) ++ r).length = r.length + 2 := by simp [by1]
theorem r_len2 (n f : Int) (r : List Int) : ((f :: by2 n) ++ r).length = r.length + 3 := by simp [by2]
theorem r_len4 (n f : Int) (r : List Int) : ((f :: by4 n) ++ r).length = r.length + 5 := by simp [by4]
theorem r_len8 (n f : Int) (r : List Int) : ((f :: by8 n) ++ r).length = r.length + 9 := by simp [by8]
theorem r_at0 (f : Int) (l r : List Int) : at_ ((f :: l) ++ r) 0 = f := rfl
theorem trip {a a' : Int} {k k' : Nat} (h : a = a') (hk : k = k') : (a, k, Er.ok) = (a', k', Er.ok) := by rw [h, hk]

theorem rdI_int (n : Int) (r : List Int) (h0 : -9223372036854775808 ≤ n) (h1 : n ≤ 9223372036854775807) : rdI64 (intText n ++ r) = (n, r.length, .ok) := by
  unfold intText
  by_cases c1 : -32 ≤ n ∧ n ≤ 127
  · rw [if_pos c1]
    have ea : at_ (by1 n ++ r) 0 = n % 256 := rfl
    have el : (by1 n ++ r).length = r.length + 1 := by simp [by1]
    by_cases hp : 0 ≤ n
    · rw [rdI64, ea, el, if_neg (by omega), if_pos (by omega)]; exact trip (by omega) (by omega)
    · rw [rdI64, ea, el, if_neg (by omega), if_neg (by omega), if_pos (by omega)]; exact trip (by rw [s8_eq (by omega) (by omega), if_neg (by omega)]; omega) (by omega)
  rw [if_neg c1]
  by_cases c2 : -128 ≤ n ∧ n ≤ 127
  · rw [if_pos c2]
    rw [rdI64, r_at0, r_len1, if_neg (by omega), if_neg (by omega), if_neg (by omega), if_neg (by omega), if_neg (by omega), if_neg (by omega), if_neg (by omega), if_pos rfl, if_neg (by omega), r_at1 n 208 r]
    refine trip ?_ (by omega)
    rw [s8_eq (by omega) (by omega)]; split <;> omega
  rw [if_neg c2]
  by_cases c3 : -32768 ≤ n ∧ n ≤ 32767
  · rw [if_pos c3]
    rw [rdI64, r_at0, r_len2, if_neg (by omega), if_neg (by omega), if_neg (by omega), if_neg (by omega), if_neg (by omega), if_neg (by omega), if_neg (by omega), if_neg (by omega), if_pos rfl, if_neg (by omega), r_be2 n 209 r]
    refine trip ?_ (by omega)
    rw [s16_eq (by omega) (by omega)]; split <;> omega
  rw [if_neg c3]
  by_cases c4 : -2147483648 ≤ n ∧ n < 2147483648
  · rw [if_pos c4]
    rw [rdI64, r_at0, r_len4, if_neg (by omega), if_neg (by omega), if_neg (by omega), if_neg (by omega), if_neg (by omega), if_neg (by omega), if_neg (by omega), if_neg (by omega), if_neg (by omega), if_pos rfl, if_neg (by omega), r_be4 n 210 r]
    refine trip ?_ (by omega)
    rw [s32_eq (by omega) (by omega)]; split <;> omega
  rw [if_neg c4]
  rw [rdI64, r_at0, r_len8, if_neg (by omega), if_neg (by omega), if_neg (by omega), if_neg (by omega), if_neg (by omega), if_neg (by omega), if_neg (by omega), if_neg (by omega), if_neg (by omega), if_neg (by omega), if_pos rfl, if_neg (by omega), r_be8 n 211 r]
  refine trip ?_ (by omega)
  rw [s64_eq (by omega) (by omega)]; split <;> omega

theorem rdI_uint (n : Int) (r : List Int) (h0 : 0 ≤ n) (h1 : n ≤ 9223372036854775807) : rdI64 (uintText n ++ r) = (n, r.length, .ok) := by
  unfold uintText
  by_cases c1 : n ≤ 127
  · rw [if_pos c1]
    have ea : at_ (by1 n ++ r) 0 = n % 256 := rfl
    have el : (by1 n ++ r).length = r.length + 1 := by simp [by1]
    rw [rdI64, ea, el, if_neg (by omega), if_pos (by omega)]; exact trip (by omega) (by omega)
  rw [if_neg c1]
  by_cases c2 : n ≤ 255
  · rw [if_pos c2]
    rw [rdI64, r_at0, r_len1, if_neg (by omega), if_neg (by omega), if_neg (by omega), if_pos rfl, if_neg (by omega), r_at1 n 204 r]
    exact trip (by omega) (by omega)
  rw [if_neg c2]
  by_cases c3 : n ≤ 65535
  · rw [if_pos c3]
    rw [rdI64, r_at0, r_len2, if_neg (by omega), if_neg (by omega), if_neg (by omega), if_neg (by omega), if_pos rfl, if_neg (by omega), r_be2 n 205 r]
    exact trip (by omega) (by omega)
  rw [if_neg c3]
  by_cases c4 : n < 4294967296
  · rw [if_pos c4]
    rw [rdI64, r_at0, r_len4, if_neg (by omega), if_neg (by omega), if_neg (by omega), if_neg (by omega), if_neg (by omega), if_pos rfl, if_neg (by omega), r_be4 n 206 r]
    exact trip (by omega) (by omega)
  rw [if_neg c4]
  rw [rdI64, r_at0, r_len8, if_neg (by omega), if_neg (by omega), if_neg (by omega), if_neg (by omega), if_neg (by omega), if_neg (by omega), if_pos rfl, if_neg (by omega), r_be8 n 207 r, if_pos (by omega)]
  exact trip (by omega) (by omega)

theorem rdU_int (n : Int) (r : List Int) (h0 : 0 ≤ n) (h1 : n ≤ 9223372036854775807) : rdU64 (intText n ++ r) = (n, r.length, .ok) := by
  unfold intText
  by_cases c1 : -32 ≤ n ∧ n ≤ 127
  · rw [if_pos c1]
    have ea : at_ (by1 n ++ r) 0 = n % 256 := rfl
    have el : (by1 n ++ r).length = r.length + 1 := by simp [by1]
    rw [rdU64, ea, el, if_neg (by omega), if_pos (by omega)]; exact trip (by omega) (by omega)
  rw [if_neg c1]
  by_cases c2 : -128 ≤ n ∧ n ≤ 127
  · rw [if_pos c2]
    rw [rdU64, r_at0, r_len1, if_neg (by omega), if_neg (by omega), if_neg (by omega), if_neg (by omega), if_neg (by omega), if_neg (by omega), if_neg (by omega), if_pos rfl, if_neg (by omega), r_at1 n 208 r, if_pos (by omega)]
    exact trip (by omega) (by omega)
  rw [if_neg c2]
  by_cases c3 : -32768 ≤ n ∧ n ≤ 32767
  · rw [if_pos c3]
    rw [rdU64, r_at0, r_len2, if_neg (by omega), if_neg (by omega), if_neg (by omega), if_neg (by omega), if_neg (by omega), if_neg (by omega), if_neg (by omega), if_neg (by omega), if_pos rfl, if_neg (by omega), r_be2 n 209 r, if_pos (by omega)]
    exact trip (by omega) (by omega)
  rw [if_neg c3]
  by_cases c4 : -2147483648 ≤ n ∧ n < 2147483648
  · rw [if_pos c4]
    rw [rdU64, r_at0, r_len4, if_neg (by omega), if_neg (by omega), if_neg (by omega), if_neg (by omega), if_neg (by omega), if_neg (by omega), if_neg (by omega), if_neg (by omega), if_neg (by omega), if_pos rfl, if_neg (by omega), r_be4 n 210 r, if_pos (by omega)]
    exact trip (by omega) (by omega)
  rw [if_neg c4]
  rw [rdU64, r_at0, r_len8, if_neg (by omega), if_neg (by omega), if_neg (by omega), if_neg (by omega), if_neg (by omega), if_neg (by omega), if_neg (by omega), if_neg (by omega), if_neg (by omega), if_neg (by omega), if_pos rfl, if_neg (by omega), r_be8 n 211 r, if_pos (by omega)]
  exact trip (by omega) (by omega)

theorem rdU_uint (n : Int) (r : List Int) (h0 : 0 ≤ n) (h1 : n ≤ 18446744073709551615) : rdU64 (uintText n ++ r) = (n, r.length, .ok) := by
  unfold uintText
  by_cases c1 : n ≤ 127
  · rw [if_pos c1]
    have ea : at_ (by1 n ++ r) 0 = n % 256 := rfl
    have el : (by1 n ++ r).length = r.length + 1 := by simp [by1]
    rw [rdU64, ea, el, if_neg (by omega), if_pos (by omega)]; exact trip (by omega) (by omega)
  rw [if_neg c1]
  by_cases c2 : n ≤ 255
  · rw [if_pos c2]
    rw [rdU64, r_at0, r_len1, if_neg (by omega), if_neg (by omega), if_neg (by omega), if_pos rfl, if_neg (by omega), r_at1 n 204 r]
    exact trip (by omega) (by omega)
  rw [if_neg c2]
  by_cases c3 : n ≤ 65535
  · rw [if_pos c3]
    rw [rdU64, r_at0, r_len2, if_neg (by omega), if_neg (by omega), if_neg (by omega), if_neg (by omega), if_pos rfl, if_neg (by omega), r_be2 n 205 r]
    exact trip (by omega) (by omega)
  rw [if_neg c3]
  by_cases c4 : n < 4294967296
  · rw [if_pos c4]
    rw [rdU64, r_at0, r_len4, if_neg (by omega), if_neg (by omega), if_neg (by omega), if_neg (by omega), if_neg (by omega), if_pos rfl, if_neg (by omega), r_be4 n 206 r]
    exact trip (by omega) (by omega)
  rw [if_neg c4]
  rw [rdU64, r_at0, r_len8, if_neg (by omega), if_neg (by omega), if_neg (by omega), if_neg (by omega), if_neg (by omega), if_neg (by omega), if_pos rfl, if_neg (by omega), r_be8 n 207 r]
  exact trip (by omega) (by omega)

end Go.Proofs.YtpmdlbbgljcloaaDoor
