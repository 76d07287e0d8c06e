/- The law FnNumbersMixed, walked: a number from 0 on that was written without a sign is read with one, and one with a sign without. Conditions: the number is an int64; the two sentinels' variables hold what the program lays in them. -/
import Derived.Test.YtpmdlbbgljcloaaDoorSpecU
import Derived.Test.YtpmdlbbgljcloaaDoorRdPlain
import Derived.Test.YtpmdlbbgljcloaaDoorImplI
import Derived.Test.YtpmdlbbgljcloaaDoorImplU
namespace Go.Proofs.YtpmdlbbgljcloaaDoor
open Go Go.RowKit Go.Lib
set_option linter.unusedVariables false

theorem len_intText (n : Int) : (intText n).length ≤ 9 := by
  unfold intText
  (repeat' split) <;> simp [by1, by2, by4, by8]
theorem len_uintText (n : Int) : (uintText n).length ≤ 9 := by
  unfold uintText
  (repeat' split) <;> simp [by1, by2, by4, by8]

set_option maxHeartbeats 2000000 in
set_option maxRecDepth 100000 in
theorem fnNumbersMixed_c (n : Int) (w : World) (hn : -9223372036854775808 ≤ n ∧ n ≤ 9223372036854775807) (hG : Glob w) :
    Calls Tryd.prog 5 #[.int .i64 n] w fun e w' => e = .returned (.bool true) ∧ Below w.heap.size w w' := by
  obtain ⟨n0, n1⟩ := hn
  by_cases h1 : n < 0
  · go_enter Tryd.func5, Tryd.ntmps5
    go_wp2_with fail
    go_ret
    exact ⟨rfl, Below.refl _ _⟩
  have h0 : 0 ≤ n := by omega
  have h2 : n ≤ 18446744073709551615 := by omega
  have HG : Hid (Glob w) := hG
  have l1 := len_uintText n
  have l2 := len_intText n
  have k1 : ∀ (A : Option Addr) (c : Nat) (W : World), Rd W A (uintText n) → Glob W → Calls Tryd.prog 17 #[.slice A (uintText n).length c, .int .i64 64] W fun e w' => e = .returned (.tuple #[.int .i64 n, .int .i64 0, .int .i64 0]) ∧ Below W.heap.size W w' := fun A c W hr' hG' => by
    have h := implI64_c A _ c (uintText n) W hr' rfl (by omega) hG'
    have e := rdI_uint n [] h0 n1
    rw [List.append_nil] at e
    rw [e] at h
    exact h
  have k2 : ∀ (A : Option Addr) (c : Nat) (W : World), Rd W A (intText n) → Glob W → Calls Tryd.prog 24 #[.slice A (intText n).length c, .int .i64 64] W fun e w' => e = .returned (.tuple #[.int .u64 n, .int .i64 0, .int .i64 0]) ∧ Below W.heap.size W w' := fun A c W hr' hG' => by
    have h := implU64_c A _ c (intText n) W hr' rfl (by omega) hG'
    have e := rdU_int n [] h0 n1
    rw [List.append_nil] at e
    rw [e] at h
    exact h
  clear hG l1 l2
  go_enter Tryd.func5, Tryd.ntmps5
  go_wp2_with fail
  ((with_reducible refine (uintText_c _ _ h0 h2).mono ?_); rintro e w1 ⟨v1, rfl, hown1, hb1⟩)
  obtain ⟨A1, c1, rfl, -, -, hr1⟩ := hown1.open_ (byts_uintText n)
  go_wp2_with fail
  ((with_reducible refine (k1 _ _ _ hr1 (HG.out.mono hb1)).mono ?_); rintro e w2 ⟨rfl, hb2⟩)
  have b2 := below_step hb1 hb2
  go_wp2_with fail
  ((with_reducible refine (intText_c _ _ n0 n1).mono ?_); rintro e w3 ⟨v3, rfl, hown3, hb3⟩)
  obtain ⟨A3, c3, rfl, -, -, hr3⟩ := hown3.open_ (byts_intText n)
  have b3 := below_step b2 hb3
  go_wp2_with fail
  ((with_reducible refine (k2 _ _ _ hr3 (HG.out.mono b3)).mono ?_); rintro e w4 ⟨rfl, hb4⟩)
  have b4 := below_step b3 hb4
  go_wp2_with fail
  go_ret
  exact ⟨rfl, b4⟩
end Go.Proofs.YtpmdlbbgljcloaaDoor
