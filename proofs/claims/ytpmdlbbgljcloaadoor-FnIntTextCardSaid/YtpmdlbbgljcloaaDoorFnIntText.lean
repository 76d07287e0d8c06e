/- The law FnIntText, walked: a whole number is written in the shortest form with a sign, and read in each width that has room for it. Conditions: the number is an int64; the slice reads as bytes; the two sentinels' variables hold what the program lays in them. -/
import Derived.Test.YtpmdlbbgljcloaaDoorSpecInt
import Derived.Test.YtpmdlbbgljcloaaDoorAppInt
import Derived.Test.YtpmdlbbgljcloaaDoorRdPlain
import Derived.Test.YtpmdlbbgljcloaaDoorImplI
import Derived.Test.YtpmdlbbgljcloaaDoorSame
import Derived.Test.YtpmdlbbgljcloaaDoorFits
namespace Go.Proofs.YtpmdlbbgljcloaaDoor
open Go Go.RowKit Go.Lib
set_option linter.unusedVariables false

theorem len_intText (n : Int) : (intText n).length ≤ 9 := by
  unfold intText
  (repeat' split) <;> simp [by1, by2, by4, by8]
set_option maxHeartbeats 1000000 in
theorem implIW_c (n : Int) (w : World) (h0 : -9223372036854775808 ≤ n) (h1 : n ≤ 9223372036854775807) : Calls Tryd.prog 14 #[.int .i64 n] w (Made w (intText n)) := by
  go_enter Tryd.func14, Tryd.ntmps14
  go_wp2_with (first | (go_at_call 52; refine (appInt_c _ _ h0 h1).mono ?_; rintro e w1 ⟨v1, rfl, hown1, hb1⟩) | fail)
  go_ret
  exact ⟨_, rfl, hown1, hb1⟩

theorem wI8_yes (n : Int) (l : List Int) (A : Option Addr) (k c : Nat) (W : World) (h0 : -9223372036854775808 ≤ n) (h1 : n ≤ 9223372036854775807) (hv : -128 ≤ n ∧ n ≤ 127) (hl : l.length ≤ 131072) (hr : Rd W A (intText n ++ l)) (hk : (intText n ++ l).length = k) (hG : Glob W) :
    Calls Tryd.prog 17 #[.slice A k c, .int .i64 8] W fun e w' => e = .returned (.tuple #[.int .i64 n, .int .i64 l.length, .int .i64 0]) ∧ Below W.heap.size W w' := by
  have hl9 := len_intText n
  have h := implI8_c A k c _ W hr hk (by rw [← hk, List.length_append]; omega) hG
  have e := rdI_int n l h0 h1
  unfold rdI8 at h
  rw [e, if_neg (by show ¬ (127 < n ∨ n < -128); omega)] at h
  exact h

theorem wI8_no (n : Int) (l : List Int) (A : Option Addr) (k c : Nat) (W : World) (h0 : -9223372036854775808 ≤ n) (h1 : n ≤ 9223372036854775807) (hv : 127 < n ∨ n < -128) (hl : l.length ≤ 131072) (hr : Rd W A (intText n ++ l)) (hk : (intText n ++ l).length = k) (hG : Glob W) :
    Calls Tryd.prog 17 #[.slice A k c, .int .i64 8] W fun e w' => e = .returned (.tuple #[.int .i64 0, .int .i64 l.length, .int .i64 3]) ∧ Below W.heap.size W w' := by
  have hl9 := len_intText n
  have h := implI8_c A k c _ W hr hk (by rw [← hk, List.length_append]; omega) hG
  have e := rdI_int n l h0 h1
  unfold rdI8 at h
  rw [e, if_pos (by show 127 < n ∨ n < -128; omega)] at h
  exact h

theorem wI16_yes (n : Int) (l : List Int) (A : Option Addr) (k c : Nat) (W : World) (h0 : -9223372036854775808 ≤ n) (h1 : n ≤ 9223372036854775807) (hv : -32768 ≤ n ∧ n ≤ 32767) (hl : l.length ≤ 131072) (hr : Rd W A (intText n ++ l)) (hk : (intText n ++ l).length = k) (hG : Glob W) :
    Calls Tryd.prog 17 #[.slice A k c, .int .i64 16] W fun e w' => e = .returned (.tuple #[.int .i64 n, .int .i64 l.length, .int .i64 0]) ∧ Below W.heap.size W w' := by
  have hl9 := len_intText n
  have h := implI16_c A k c _ W hr hk (by rw [← hk, List.length_append]; omega) hG
  have e := rdI_int n l h0 h1
  unfold rdI16 at h
  rw [e, if_neg (by show ¬ (32767 < n ∨ n < -32768); omega)] at h
  exact h

theorem wI16_no (n : Int) (l : List Int) (A : Option Addr) (k c : Nat) (W : World) (h0 : -9223372036854775808 ≤ n) (h1 : n ≤ 9223372036854775807) (hv : 32767 < n ∨ n < -32768) (hl : l.length ≤ 131072) (hr : Rd W A (intText n ++ l)) (hk : (intText n ++ l).length = k) (hG : Glob W) :
    Calls Tryd.prog 17 #[.slice A k c, .int .i64 16] W fun e w' => e = .returned (.tuple #[.int .i64 0, .int .i64 l.length, .int .i64 3]) ∧ Below W.heap.size W w' := by
  have hl9 := len_intText n
  have h := implI16_c A k c _ W hr hk (by rw [← hk, List.length_append]; omega) hG
  have e := rdI_int n l h0 h1
  unfold rdI16 at h
  rw [e, if_pos (by show 32767 < n ∨ n < -32768; omega)] at h
  exact h

theorem wI32_yes (n : Int) (l : List Int) (A : Option Addr) (k c : Nat) (W : World) (h0 : -9223372036854775808 ≤ n) (h1 : n ≤ 9223372036854775807) (hv : -2147483648 ≤ n ∧ n ≤ 2147483647) (hl : l.length ≤ 131072) (hr : Rd W A (intText n ++ l)) (hk : (intText n ++ l).length = k) (hG : Glob W) :
    Calls Tryd.prog 17 #[.slice A k c, .int .i64 32] W fun e w' => e = .returned (.tuple #[.int .i64 n, .int .i64 l.length, .int .i64 0]) ∧ Below W.heap.size W w' := by
  have hl9 := len_intText n
  have h := implI32_c A k c _ W hr hk (by rw [← hk, List.length_append]; omega) hG
  have e := rdI_int n l h0 h1
  unfold rdI32 at h
  rw [e, if_neg (by show ¬ (2147483647 < n ∨ n < -2147483648); omega)] at h
  exact h

theorem wI32_no (n : Int) (l : List Int) (A : Option Addr) (k c : Nat) (W : World) (h0 : -9223372036854775808 ≤ n) (h1 : n ≤ 9223372036854775807) (hv : 2147483647 < n ∨ n < -2147483648) (hl : l.length ≤ 131072) (hr : Rd W A (intText n ++ l)) (hk : (intText n ++ l).length = k) (hG : Glob W) :
    Calls Tryd.prog 17 #[.slice A k c, .int .i64 32] W fun e w' => e = .returned (.tuple #[.int .i64 0, .int .i64 l.length, .int .i64 3]) ∧ Below W.heap.size W w' := by
  have hl9 := len_intText n
  have h := implI32_c A k c _ W hr hk (by rw [← hk, List.length_append]; omega) hG
  have e := rdI_int n l h0 h1
  unfold rdI32 at h
  rw [e, if_pos (by show 2147483647 < n ∨ n < -2147483648; omega)] at h
  exact h

theorem wI64_yes (n : Int) (l : List Int) (A : Option Addr) (k c : Nat) (W : World) (h0 : -9223372036854775808 ≤ n) (h1 : n ≤ 9223372036854775807) (hl : l.length ≤ 131072) (hr : Rd W A (intText n ++ l)) (hk : (intText n ++ l).length = k) (hG : Glob W) :
    Calls Tryd.prog 17 #[.slice A k c, .int .i64 64] W fun e w' => e = .returned (.tuple #[.int .i64 n, .int .i64 l.length, .int .i64 0]) ∧ Below W.heap.size W w' := by
  have hl9 := len_intText n
  have h := implI64_c A k c _ W hr hk (by rw [← hk, List.length_append]; omega) hG
  have e := rdI_int n l h0 h1
  rw [e] at h
  exact h

set_option maxHeartbeats 8000000 in
set_option maxRecDepth 100000 in
theorem fnIntText_c (n : Int) (A : Option Addr) (m c : Nat) (l : List Int) (w : World) (hn : -9223372036854775808 ≤ n ∧ n ≤ 9223372036854775807) (hr : Rd w A l) (hm : l.length = m) (hmc : m ≤ c) (hx : c ≤ maxLen) (hG : Glob w) :
    Calls Tryd.prog 3 #[.int .i64 n, .slice A m c] w fun e w' => e = .returned (.bool true) ∧ Below w.heap.size w w' := by
  obtain ⟨n0, n1⟩ := hn
  have HM : Hid (l.length = m) := hm
  have HG : Hid (Glob w) := hG
  clear hm hG
  by_cases h1 : 2147483647 < m
  · go_enter Tryd.func3, Tryd.ntmps3
    go_wp2_with fail
    go_ret
    exact ⟨rfl, Below.refl _ _⟩
  by_cases h2 : 131072 < m
  · go_enter Tryd.func3, Tryd.ntmps3
    go_wp2_with fail
    go_ret
    exact ⟨rfl, Below.refl _ _⟩
  have h3 : m ≤ 131072 := by omega
  clear h1 h2
  have hl9 := len_intText n
  have hlenA : ([] : List Int).length + (intText n).length ≤ 1000000000000 := by simp; omega
  have hlenB : (intText n).length + l.length ≤ 1000000000000 := by rw [HM.out]; omega
  have hl3 : l.length ≤ 131072 := by rw [HM.out]; exact h3
  have HL := Lib.hid hl3
  clear hl3
  have hby := byts_intText n
  have hbyl : Byts (intText n ++ l) := hby.append hr.1
  go_enter Tryd.func3, Tryd.ntmps3
  go_wp2_with fail
  ((with_reducible refine (implIW_c _ _ n0 n1).mono ?_); rintro e w1 ⟨v1, rfl, hown1, hb1⟩)
  go_wp2_with fail
  ((with_reducible refine (intText_c _ _ n0 n1).mono ?_); rintro e w2 ⟨v2, rfl, hown2, hb2⟩)
  have hown1' := hown1.mono hb2
  obtain ⟨A1, c1, rfl, -, -, hr1⟩ := hown1'.open_ hby
  obtain ⟨A2, c2, rfl, -, -, hr2⟩ := hown2.open_ hby
  have b2 := below_step hb1 hb2
  go_wp2_with fail
  ((with_reducible refine (same_c _ _ _ _ _ _ _ hr1 hr2 rfl).mono ?_); rintro e w3 ⟨rfl, rfl⟩)
  have hrl := hr.mono b2
  have HG2 : Hid (Glob w2) := HG.out.mono b2
  clear hr2 hown2 hown1 hown1' hb1 hb2 hr HG
  go_wp2_with fail

  have hlt2 := b2.size
  go_loopw [26] (fun i wr => ∃ j : Nat, j ≤ 4 ∧ i = .int .i64 j ∧ Below (w2.alloc (.cells #[.int .i64 8, .int .i64 16, .int .i64 32, .int .i64 64] 3)).heap.size (w2.alloc (.cells #[.int .i64 8, .int .i64 16, .int .i64 32, .int .i64 64] 3)) wr) (fun i _ => (4 - intOf i).toNat)
  case atStart => exact ⟨0, by omega, rfl, Below.refl _ _⟩
  case round =>
    obtain ⟨j, hj, rfl, hwr⟩ := hrel
    have hz := hwr.size
    have hend : Below w.heap.size w wr := below_via b2 hwr
    have hrA : Rd wr A1 (intText n) := (hr1.alloc _).mono hwr
    have hrL : Rd wr A l := (hrl.alloc _).mono hwr
    have HGr : Hid (Glob wr) := (HG2.out.alloc _).mono hwr
    have hc0 : wr.cell? ⟨w2.heap.size, 0, none⟩ = some (.int .i64 8) := (hwr.cell (p := ⟨w2.heap.size, 0, none⟩) (by simp)).trans (by simp)
    have hc1 : wr.cell? ⟨w2.heap.size, 1, none⟩ = some (.int .i64 16) := (hwr.cell (p := ⟨w2.heap.size, 1, none⟩) (by simp)).trans (by simp)
    have hc2 : wr.cell? ⟨w2.heap.size, 2, none⟩ = some (.int .i64 32) := (hwr.cell (p := ⟨w2.heap.size, 2, none⟩) (by simp)).trans (by simp)
    have hc3 : wr.cell? ⟨w2.heap.size, 3, none⟩ = some (.int .i64 64) := (hwr.cell (p := ⟨w2.heap.size, 3, none⟩) (by simp)).trans (by simp)
    clear hr1 hrl HG2
    have hjj : j = 4 ∨ j = 0 ∨ j = 1 ∨ j = 2 ∨ j = 3 := by omega
    rcases hjj with rfl | rfl | rfl | rfl | rfl
    · go_wp2_with fail
      go_ret
      exact ⟨rfl, hend⟩
    · by_cases hv : -128 ≤ n ∧ n ≤ 127
      · obtain ⟨hv1, hv2⟩ := hv
        go_wp2_with (first | (at_builtin; refine app_own rfl _ _ rfl wr.heap.size _ [] rfl (own_lit wr [] #[] 0 rfl rfl (by omega)) A1 (intText n).length c1 (intText n) rfl (hrA.alloc _) rfl hlenA (by simp) ?_; intro v4 w4 hown4 hb4; have k4 : Below wr.heap.size wr w4 := ((Below.refl _ _).alloc (Nat.le_refl _) _).trans hb4) | (at_builtin; refine app_own rfl _ _ rfl wr.heap.size _ (intText n) rfl hown4 A m c l rfl (hrL.mono k4) HM.out hlenB k4.size ?_; intro v5 w5 hown5 hb5))
        have k5 := k4.trans hb5
        obtain ⟨A5, c5, rfl, -, -, hr5⟩ := hown5.open_ hbyl
        ((with_reducible refine (wI8_yes n l _ _ _ _ n0 n1 ⟨hv1, hv2⟩ HL.out hr5 rfl (HGr.out.mono k5)).mono ?_); rintro e w6 ⟨rfl, hb6⟩)
        try rw [HM.out]
        have k6 : Below wr.heap.size wr w6 := k5.trans (hb6.mono k5.size)
        have k7 := hwr.trans (k6.mono hz)
        go_wp2_with fail
        ((with_reducible refine (fits8_yes _ _ (by omega) (by omega)).mono ?_); rintro e w7 ⟨rfl, rfl⟩)
        go_wp2_with fail
        go_roundw
        case rel => exact ⟨0 + 1, by omega, by go_num, k7⟩
        case measure => simp [intOf]
      by_cases hv1 : 127 < n
      · clear hv
        go_wp2_with (first | (at_builtin; refine app_own rfl _ _ rfl wr.heap.size _ [] rfl (own_lit wr [] #[] 0 rfl rfl (by omega)) A1 (intText n).length c1 (intText n) rfl (hrA.alloc _) rfl hlenA (by simp) ?_; intro v4 w4 hown4 hb4; have k4 : Below wr.heap.size wr w4 := ((Below.refl _ _).alloc (Nat.le_refl _) _).trans hb4) | (at_builtin; refine app_own rfl _ _ rfl wr.heap.size _ (intText n) rfl hown4 A m c l rfl (hrL.mono k4) HM.out hlenB k4.size ?_; intro v5 w5 hown5 hb5))
        have k5 := k4.trans hb5
        obtain ⟨A5, c5, rfl, -, -, hr5⟩ := hown5.open_ hbyl
        ((with_reducible refine (wI8_no n l _ _ _ _ n0 n1 (Or.inl hv1) HL.out hr5 rfl (HGr.out.mono k5)).mono ?_); rintro e w6 ⟨rfl, hb6⟩)
        try rw [HM.out]
        have k6 : Below wr.heap.size wr w6 := k5.trans (hb6.mono k5.size)
        have k7 := hwr.trans (k6.mono hz)
        go_wp2_with fail
        ((with_reducible refine (fits8_high _ _ (by omega) (by omega)).mono ?_); rintro e w7 ⟨rfl, rfl⟩)
        go_wp2_with fail
        go_roundw
        case rel => exact ⟨0 + 1, by omega, by go_num, k7⟩
        case measure => simp [intOf]
      · have hv2 : n < -128 := by omega
        clear hv hv1
        go_wp2_with (first | (at_builtin; refine app_own rfl _ _ rfl wr.heap.size _ [] rfl (own_lit wr [] #[] 0 rfl rfl (by omega)) A1 (intText n).length c1 (intText n) rfl (hrA.alloc _) rfl hlenA (by simp) ?_; intro v4 w4 hown4 hb4; have k4 : Below wr.heap.size wr w4 := ((Below.refl _ _).alloc (Nat.le_refl _) _).trans hb4) | (at_builtin; refine app_own rfl _ _ rfl wr.heap.size _ (intText n) rfl hown4 A m c l rfl (hrL.mono k4) HM.out hlenB k4.size ?_; intro v5 w5 hown5 hb5))
        have k5 := k4.trans hb5
        obtain ⟨A5, c5, rfl, -, -, hr5⟩ := hown5.open_ hbyl
        ((with_reducible refine (wI8_no n l _ _ _ _ n0 n1 (Or.inr hv2) HL.out hr5 rfl (HGr.out.mono k5)).mono ?_); rintro e w6 ⟨rfl, hb6⟩)
        try rw [HM.out]
        have k6 : Below wr.heap.size wr w6 := k5.trans (hb6.mono k5.size)
        have k7 := hwr.trans (k6.mono hz)
        go_wp2_with fail
        ((with_reducible refine (fits8_low _ _ (by omega)).mono ?_); rintro e w7 ⟨rfl, rfl⟩)
        go_wp2_with fail
        go_roundw
        case rel => exact ⟨0 + 1, by omega, by go_num, k7⟩
        case measure => simp [intOf]
    · by_cases hv : -32768 ≤ n ∧ n ≤ 32767
      · obtain ⟨hv1, hv2⟩ := hv
        go_wp2_with (first | (at_builtin; refine app_own rfl _ _ rfl wr.heap.size _ [] rfl (own_lit wr [] #[] 0 rfl rfl (by omega)) A1 (intText n).length c1 (intText n) rfl (hrA.alloc _) rfl hlenA (by simp) ?_; intro v4 w4 hown4 hb4; have k4 : Below wr.heap.size wr w4 := ((Below.refl _ _).alloc (Nat.le_refl _) _).trans hb4) | (at_builtin; refine app_own rfl _ _ rfl wr.heap.size _ (intText n) rfl hown4 A m c l rfl (hrL.mono k4) HM.out hlenB k4.size ?_; intro v5 w5 hown5 hb5))
        have k5 := k4.trans hb5
        obtain ⟨A5, c5, rfl, -, -, hr5⟩ := hown5.open_ hbyl
        ((with_reducible refine (wI16_yes n l _ _ _ _ n0 n1 ⟨hv1, hv2⟩ HL.out hr5 rfl (HGr.out.mono k5)).mono ?_); rintro e w6 ⟨rfl, hb6⟩)
        try rw [HM.out]
        have k6 : Below wr.heap.size wr w6 := k5.trans (hb6.mono k5.size)
        have k7 := hwr.trans (k6.mono hz)
        go_wp2_with fail
        ((with_reducible refine (fits16_yes _ _ (by omega) (by omega)).mono ?_); rintro e w7 ⟨rfl, rfl⟩)
        go_wp2_with fail
        go_roundw
        case rel => exact ⟨1 + 1, by omega, by go_num, k7⟩
        case measure => simp [intOf]
      by_cases hv1 : 32767 < n
      · clear hv
        go_wp2_with (first | (at_builtin; refine app_own rfl _ _ rfl wr.heap.size _ [] rfl (own_lit wr [] #[] 0 rfl rfl (by omega)) A1 (intText n).length c1 (intText n) rfl (hrA.alloc _) rfl hlenA (by simp) ?_; intro v4 w4 hown4 hb4; have k4 : Below wr.heap.size wr w4 := ((Below.refl _ _).alloc (Nat.le_refl _) _).trans hb4) | (at_builtin; refine app_own rfl _ _ rfl wr.heap.size _ (intText n) rfl hown4 A m c l rfl (hrL.mono k4) HM.out hlenB k4.size ?_; intro v5 w5 hown5 hb5))
        have k5 := k4.trans hb5
        obtain ⟨A5, c5, rfl, -, -, hr5⟩ := hown5.open_ hbyl
        ((with_reducible refine (wI16_no n l _ _ _ _ n0 n1 (Or.inl hv1) HL.out hr5 rfl (HGr.out.mono k5)).mono ?_); rintro e w6 ⟨rfl, hb6⟩)
        try rw [HM.out]
        have k6 : Below wr.heap.size wr w6 := k5.trans (hb6.mono k5.size)
        have k7 := hwr.trans (k6.mono hz)
        go_wp2_with fail
        ((with_reducible refine (fits16_high _ _ (by omega) (by omega)).mono ?_); rintro e w7 ⟨rfl, rfl⟩)
        go_wp2_with fail
        go_roundw
        case rel => exact ⟨1 + 1, by omega, by go_num, k7⟩
        case measure => simp [intOf]
      · have hv2 : n < -32768 := by omega
        clear hv hv1
        go_wp2_with (first | (at_builtin; refine app_own rfl _ _ rfl wr.heap.size _ [] rfl (own_lit wr [] #[] 0 rfl rfl (by omega)) A1 (intText n).length c1 (intText n) rfl (hrA.alloc _) rfl hlenA (by simp) ?_; intro v4 w4 hown4 hb4; have k4 : Below wr.heap.size wr w4 := ((Below.refl _ _).alloc (Nat.le_refl _) _).trans hb4) | (at_builtin; refine app_own rfl _ _ rfl wr.heap.size _ (intText n) rfl hown4 A m c l rfl (hrL.mono k4) HM.out hlenB k4.size ?_; intro v5 w5 hown5 hb5))
        have k5 := k4.trans hb5
        obtain ⟨A5, c5, rfl, -, -, hr5⟩ := hown5.open_ hbyl
        ((with_reducible refine (wI16_no n l _ _ _ _ n0 n1 (Or.inr hv2) HL.out hr5 rfl (HGr.out.mono k5)).mono ?_); rintro e w6 ⟨rfl, hb6⟩)
        try rw [HM.out]
        have k6 : Below wr.heap.size wr w6 := k5.trans (hb6.mono k5.size)
        have k7 := hwr.trans (k6.mono hz)
        go_wp2_with fail
        ((with_reducible refine (fits16_low _ _ (by omega)).mono ?_); rintro e w7 ⟨rfl, rfl⟩)
        go_wp2_with fail
        go_roundw
        case rel => exact ⟨1 + 1, by omega, by go_num, k7⟩
        case measure => simp [intOf]
    · by_cases hv : -2147483648 ≤ n ∧ n ≤ 2147483647
      · obtain ⟨hv1, hv2⟩ := hv
        go_wp2_with (first | (at_builtin; refine app_own rfl _ _ rfl wr.heap.size _ [] rfl (own_lit wr [] #[] 0 rfl rfl (by omega)) A1 (intText n).length c1 (intText n) rfl (hrA.alloc _) rfl hlenA (by simp) ?_; intro v4 w4 hown4 hb4; have k4 : Below wr.heap.size wr w4 := ((Below.refl _ _).alloc (Nat.le_refl _) _).trans hb4) | (at_builtin; refine app_own rfl _ _ rfl wr.heap.size _ (intText n) rfl hown4 A m c l rfl (hrL.mono k4) HM.out hlenB k4.size ?_; intro v5 w5 hown5 hb5))
        have k5 := k4.trans hb5
        obtain ⟨A5, c5, rfl, -, -, hr5⟩ := hown5.open_ hbyl
        ((with_reducible refine (wI32_yes n l _ _ _ _ n0 n1 ⟨hv1, hv2⟩ HL.out hr5 rfl (HGr.out.mono k5)).mono ?_); rintro e w6 ⟨rfl, hb6⟩)
        try rw [HM.out]
        have k6 : Below wr.heap.size wr w6 := k5.trans (hb6.mono k5.size)
        have k7 := hwr.trans (k6.mono hz)
        go_wp2_with fail
        ((with_reducible refine (fits32_yes _ _ (by omega) (by omega)).mono ?_); rintro e w7 ⟨rfl, rfl⟩)
        go_wp2_with fail
        go_roundw
        case rel => exact ⟨2 + 1, by omega, by go_num, k7⟩
        case measure => simp [intOf]
      by_cases hv1 : 2147483647 < n
      · clear hv
        go_wp2_with (first | (at_builtin; refine app_own rfl _ _ rfl wr.heap.size _ [] rfl (own_lit wr [] #[] 0 rfl rfl (by omega)) A1 (intText n).length c1 (intText n) rfl (hrA.alloc _) rfl hlenA (by simp) ?_; intro v4 w4 hown4 hb4; have k4 : Below wr.heap.size wr w4 := ((Below.refl _ _).alloc (Nat.le_refl _) _).trans hb4) | (at_builtin; refine app_own rfl _ _ rfl wr.heap.size _ (intText n) rfl hown4 A m c l rfl (hrL.mono k4) HM.out hlenB k4.size ?_; intro v5 w5 hown5 hb5))
        have k5 := k4.trans hb5
        obtain ⟨A5, c5, rfl, -, -, hr5⟩ := hown5.open_ hbyl
        ((with_reducible refine (wI32_no n l _ _ _ _ n0 n1 (Or.inl hv1) HL.out hr5 rfl (HGr.out.mono k5)).mono ?_); rintro e w6 ⟨rfl, hb6⟩)
        try rw [HM.out]
        have k6 : Below wr.heap.size wr w6 := k5.trans (hb6.mono k5.size)
        have k7 := hwr.trans (k6.mono hz)
        go_wp2_with fail
        ((with_reducible refine (fits32_high _ _ (by omega) (by omega)).mono ?_); rintro e w7 ⟨rfl, rfl⟩)
        go_wp2_with fail
        go_roundw
        case rel => exact ⟨2 + 1, by omega, by go_num, k7⟩
        case measure => simp [intOf]
      · have hv2 : n < -2147483648 := by omega
        clear hv hv1
        go_wp2_with (first | (at_builtin; refine app_own rfl _ _ rfl wr.heap.size _ [] rfl (own_lit wr [] #[] 0 rfl rfl (by omega)) A1 (intText n).length c1 (intText n) rfl (hrA.alloc _) rfl hlenA (by simp) ?_; intro v4 w4 hown4 hb4; have k4 : Below wr.heap.size wr w4 := ((Below.refl _ _).alloc (Nat.le_refl _) _).trans hb4) | (at_builtin; refine app_own rfl _ _ rfl wr.heap.size _ (intText n) rfl hown4 A m c l rfl (hrL.mono k4) HM.out hlenB k4.size ?_; intro v5 w5 hown5 hb5))
        have k5 := k4.trans hb5
        obtain ⟨A5, c5, rfl, -, -, hr5⟩ := hown5.open_ hbyl
        ((with_reducible refine (wI32_no n l _ _ _ _ n0 n1 (Or.inr hv2) HL.out hr5 rfl (HGr.out.mono k5)).mono ?_); rintro e w6 ⟨rfl, hb6⟩)
        try rw [HM.out]
        have k6 : Below wr.heap.size wr w6 := k5.trans (hb6.mono k5.size)
        have k7 := hwr.trans (k6.mono hz)
        go_wp2_with fail
        ((with_reducible refine (fits32_low _ _ (by omega)).mono ?_); rintro e w7 ⟨rfl, rfl⟩)
        go_wp2_with fail
        go_roundw
        case rel => exact ⟨2 + 1, by omega, by go_num, k7⟩
        case measure => simp [intOf]
    · go_wp2_with (first | (at_builtin; refine app_own rfl _ _ rfl wr.heap.size _ [] rfl (own_lit wr [] #[] 0 rfl rfl (by omega)) A1 (intText n).length c1 (intText n) rfl (hrA.alloc _) rfl hlenA (by simp) ?_; intro v4 w4 hown4 hb4; have k4 : Below wr.heap.size wr w4 := ((Below.refl _ _).alloc (Nat.le_refl _) _).trans hb4) | (at_builtin; refine app_own rfl _ _ rfl wr.heap.size _ (intText n) rfl hown4 A m c l rfl (hrL.mono k4) HM.out hlenB k4.size ?_; intro v5 w5 hown5 hb5))
      have k5 := k4.trans hb5
      obtain ⟨A5, c5, rfl, -, -, hr5⟩ := hown5.open_ hbyl
      ((with_reducible refine (wI64_yes n l _ _ _ _ n0 n1 HL.out hr5 rfl (HGr.out.mono k5)).mono ?_); rintro e w6 ⟨rfl, hb6⟩)
      try rw [HM.out]
      have k6 : Below wr.heap.size wr w6 := k5.trans (hb6.mono k5.size)
      have k7 := hwr.trans (k6.mono hz)
      go_wp2_with fail
      ((with_reducible refine (fits64_yes _ _).mono ?_); rintro e w7 ⟨rfl, rfl⟩)
      go_wp2_with fail
      go_roundw
      case rel => exact ⟨3 + 1, by omega, by go_num, k7⟩
      case measure => simp [intOf]
end Go.Proofs.YtpmdlbbgljcloaaDoor
