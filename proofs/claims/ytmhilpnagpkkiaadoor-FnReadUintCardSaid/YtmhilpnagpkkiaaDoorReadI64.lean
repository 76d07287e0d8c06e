/- msgp's ReadInt64Bytes at any bytes, and the readers of 8, 16 and 32 bits. Conditions: the slice reads as bytes; the two sentinels' variables hold what the program lays in them. -/
import Derived.Test.YtmhilpnagpkkiaaDoorReadI64L
import Derived.Test.YtmhilpnagpkkiaaDoorSame
namespace Go.Proofs.YtmhilpnagpkkiaaDoor
open Go Go.RowKit Go.Lib
set_option linter.unusedVariables false

/-- The value, what is left, and the error. -/
def rdI64 (l : List Int) : Int × Nat × Er :=
  if l.length = 0 then (0, 0, .short) else
  if at_ l 0 < 128 then (at_ l 0, l.length - 1, .ok) else
  if 224 ≤ at_ l 0 then (s8 (at_ l 0), l.length - 1, .ok) else
  if at_ l 0 = 204 then (if l.length < 2 then (0, 0, .short) else (at_ l 1, l.length - 2, .ok)) else
  if at_ l 0 = 205 then (if l.length < 3 then (0, 0, .short) else (be2 l 1, l.length - 3, .ok)) else
  if at_ l 0 = 206 then (if l.length < 5 then (0, 0, .short) else (be4 l 1, l.length - 5, .ok)) else
  if at_ l 0 = 207 then (if l.length < 9 then (0, 0, .short) else if be8 l 1 ≤ 9223372036854775807 then (be8 l 1, l.length - 9, .ok) else (0, 0, .uover (be8 l 1) 64)) else
  if at_ l 0 = 208 then (if l.length < 2 then (0, 0, .short) else (s8 (at_ l 1), l.length - 2, .ok)) else
  if at_ l 0 = 209 then (if l.length < 3 then (0, 0, .short) else (s16 (be2 l 1), l.length - 3, .ok)) else
  if at_ l 0 = 210 then (if l.length < 5 then (0, 0, .short) else (s32 (be4 l 1), l.length - 5, .ok)) else
  if at_ l 0 = 211 then (if l.length < 9 then (0, 0, .short) else (s64 (be8 l 1), l.length - 9, .ok)) else
  (0, 0, bp 8 (at_ l 0))

set_option maxHeartbeats 1000000 in
set_option maxRecDepth 100000 in
theorem ri_empty (A : Option Addr) (c : Nat) (w : World) (hG : Glob w) : Calls Tryd.prog 42 #[.slice A 0 c] w (Ret3 w (.int .i64 0) 0 .short) := by
  obtain ⟨gs, gr⟩ := hG
  go_enter Tryd.func42, Tryd.ntmps42
  go_wp2_with fail
  all_goals try (go_quiet (fail); go_wp2_with fail)
  all_goals
    go_ret3
    exact ⟨_, _, rfl, by first | exact Below.refl _ _ | exact below_drewN (Below.refl _ _) _⟩

theorem readI64_c (A : Option Addr) (n c : Nat) (l : List Int) (w : World) (hr : Rd w A l) (hn : l.length = n) (hnc : n ≤ c) (hm : c ≤ maxLen) (hG : Glob w) :
    Calls Tryd.prog 42 #[.slice A n c] w (Ret3 w (.int .i64 (rdI64 l).1) (rdI64 l).2.1 (rdI64 l).2.2) := by
  have hm' : c ≤ 9223372036854775807 := by simp only [maxLen] at hm; omega
  have HN : Hid (l.length = n) := hn
  unfold rdI64
  rw [hn]
  rcases Nat.eq_zero_or_pos n with rfl | hpos
  · exact ri_empty A c w hG
  obtain ⟨g, o, rfl, hg, -, hc⟩ := hr.open_ (by omega)
  have c0 := hc 0 (by omega)
  rw [Nat.add_zero] at c0
  have hb := hr.1.at_ 0
  rw [if_neg (by omega)]
  by_cases h1 : at_ l 0 < 128
  · rw [if_pos h1]; exact ri_fixint g o n c l w hr HN hnc hm' hg hG hpos _ hb.1 h1 c0
  rw [if_neg h1]
  by_cases h2 : 224 ≤ at_ l 0
  · rw [if_pos h2]; exact ri_nfixint g o n c l w hr HN hnc hm' hg hG hpos _ h2 hb.2 c0
  rw [if_neg h2]
  by_cases e204 : at_ l 0 = 204
  · rw [if_pos e204]
    rw [e204] at c0
    by_cases hs : n < 2
    · rw [if_pos hs]; exact ri_204_short g o n c l w hr HN hnc hm' hg hG hpos hs c0
    rw [if_neg hs]
    exact ri_204_whole g o n c l w hr HN hnc hm' hg hG (by omega) c0
  rw [if_neg e204]
  by_cases e205 : at_ l 0 = 205
  · rw [if_pos e205]
    rw [e205] at c0
    by_cases hs : n < 3
    · rw [if_pos hs]; exact ri_205_short g o n c l w hr HN hnc hm' hg hG hpos hs c0
    rw [if_neg hs]
    exact ri_205_whole g o n c l w hr HN hnc hm' hg hG (by omega) c0
  rw [if_neg e205]
  by_cases e206 : at_ l 0 = 206
  · rw [if_pos e206]
    rw [e206] at c0
    by_cases hs : n < 5
    · rw [if_pos hs]; exact ri_206_short g o n c l w hr HN hnc hm' hg hG hpos hs c0
    rw [if_neg hs]
    exact ri_206_whole g o n c l w hr HN hnc hm' hg hG (by omega) c0
  rw [if_neg e206]
  by_cases e207 : at_ l 0 = 207
  · rw [if_pos e207]
    rw [e207] at c0
    by_cases hs : n < 9
    · rw [if_pos hs]; exact ri_207_short g o n c l w hr HN hnc hm' hg hG hpos hs c0
    rw [if_neg hs]
    by_cases hv : be8 l 1 ≤ 9223372036854775807
    · rw [if_pos hv]; exact ri_207_whole g o n c l w hr HN hnc hm' hg hG (by omega) c0 hv
    · rw [if_neg hv]; exact ri_207_over g o n c l w hr HN hnc hm' hg hG (by omega) c0 (by omega)
  rw [if_neg e207]
  by_cases e208 : at_ l 0 = 208
  · rw [if_pos e208]
    rw [e208] at c0
    by_cases hs : n < 2
    · rw [if_pos hs]; exact ri_208_short g o n c l w hr HN hnc hm' hg hG hpos hs c0
    rw [if_neg hs]
    exact ri_208_whole g o n c l w hr HN hnc hm' hg hG (by omega) c0
  rw [if_neg e208]
  by_cases e209 : at_ l 0 = 209
  · rw [if_pos e209]
    rw [e209] at c0
    by_cases hs : n < 3
    · rw [if_pos hs]; exact ri_209_short g o n c l w hr HN hnc hm' hg hG hpos hs c0
    rw [if_neg hs]
    exact ri_209_whole g o n c l w hr HN hnc hm' hg hG (by omega) c0
  rw [if_neg e209]
  by_cases e210 : at_ l 0 = 210
  · rw [if_pos e210]
    rw [e210] at c0
    by_cases hs : n < 5
    · rw [if_pos hs]; exact ri_210_short g o n c l w hr HN hnc hm' hg hG hpos hs c0
    rw [if_neg hs]
    exact ri_210_whole g o n c l w hr HN hnc hm' hg hG (by omega) c0
  rw [if_neg e210]
  by_cases e211 : at_ l 0 = 211
  · rw [if_pos e211]
    rw [e211] at c0
    by_cases hs : n < 9
    · rw [if_pos hs]; exact ri_211_short g o n c l w hr HN hnc hm' hg hG hpos hs c0
    rw [if_neg hs]
    exact ri_211_whole g o n c l w hr HN hnc hm' hg hG (by omega) c0
  rw [if_neg e211]
  by_cases h3 : at_ l 0 < 204
  · exact ri_low g o n c l w hr HN hnc hm' hg hG hpos _ (by omega) h3 c0
  · exact ri_high g o n c l w hr HN hnc hm' hg hG hpos _ (by omega) (by omega) c0

/-- The value, what is left, and the error, in 8 bits. -/
def rdI8 (l : List Int) : Int × Nat × Er := if 127 < (rdI64 l).1 ∨ (rdI64 l).1 < -128 then (0, (rdI64 l).2.1, .iover (rdI64 l).1 8) else rdI64 l
/-- The value, what is left, and the error, in 16 bits. -/
def rdI16 (l : List Int) : Int × Nat × Er := if 32767 < (rdI64 l).1 ∨ (rdI64 l).1 < -32768 then (0, (rdI64 l).2.1, .iover (rdI64 l).1 16) else rdI64 l
/-- The value, what is left, and the error, in 32 bits. -/
def rdI32 (l : List Int) : Int × Nat × Er := if 2147483647 < (rdI64 l).1 ∨ (rdI64 l).1 < -2147483648 then (0, (rdI64 l).2.1, .iover (rdI64 l).1 32) else rdI64 l

def InRI (r : Int × Nat × Er) : Prop := -9223372036854775808 ≤ r.1 ∧ r.1 ≤ 9223372036854775807
theorem inRI_ite {p : Prop} [Decidable p] {a b : Int × Nat × Er} (ha : p → InRI a) (hb : ¬ p → InRI b) : InRI (if p then a else b) := by
  split
  · exact ha ‹_›
  · exact hb ‹_›
theorem inRI_mk {x : Int} {k : Nat} {r : Er} (h : -9223372036854775808 ≤ x ∧ x ≤ 9223372036854775807) : InRI (x, k, r) := h
theorem rdI64_range (l : List Int) (hb : Byts l) : InRI (rdI64 l) := by
  have a0 := hb.at_ 0
  have a1 := hb.at_ 1
  have a2 := be2_range hb 1
  have a4 := be4_range hb 1
  have a8 := be8_range hb 1
  have q0 := s8_range (at_ l 0)
  have q1 := s8_range (at_ l 1)
  have q2 := s16_range (be2 l 1)
  have q4 := s32_range (be4 l 1)
  have q8 := s64_range (be8 l 1)
  unfold rdI64
  repeat' first | (refine inRI_mk ?_; omega) | (refine inRI_ite ?_ ?_ <;> intro _)

set_option maxHeartbeats 1000000 in
set_option maxRecDepth 100000 in
theorem readI8_c (A : Option Addr) (n c : Nat) (l : List Int) (w : World) (hr : Rd w A l) (hn : l.length = n) (hnc : n ≤ c) (hm : c ≤ maxLen) (hG : Glob w) :
    Calls Tryd.prog 39 #[.slice A n c] w (Ret3 w (.int .i8 (rdI8 l).1) (rdI8 l).2.1 (rdI8 l).2.2) := by
  have hcall := readI64_c A n c l w hr hn hnc hm hG
  have hrg := rdI64_range l hr.1
  unfold rdI8
  generalize rdI64 l = R at hcall hrg ⊢
  obtain ⟨x, k, r⟩ := R
  obtain ⟨x0, x1⟩ := hrg
  simp only at hcall x0 x1
  simp only []
  clear hr hn hnc hm hG
  by_cases h1 : 127 < x
  · rw [if_pos (Or.inl h1)]
    go_enter Tryd.func39, Tryd.ntmps39
    go_wp2_with fail
    ((with_reducible refine hcall.mono ?_); rintro e w1 ⟨A1, c1, rfl, hb1⟩)
    go_wp2_with fail
    go_ret3
    exact ⟨_, _, rfl, hb1⟩
  by_cases h2 : x < -128
  · rw [if_pos (Or.inr h2)]
    go_enter Tryd.func39, Tryd.ntmps39
    go_wp2_with fail
    ((with_reducible refine hcall.mono ?_); rintro e w1 ⟨A1, c1, rfl, hb1⟩)
    go_wp2_with fail
    go_ret3
    exact ⟨_, _, rfl, hb1⟩
  · rw [if_neg (by omega)]
    have h3 : x ≤ 127 := by omega
    have h4 : -128 ≤ x := by omega
    go_enter Tryd.func39, Tryd.ntmps39
    go_wp2_with fail
    ((with_reducible refine hcall.mono ?_); rintro e w1 ⟨A1, c1, rfl, hb1⟩)
    go_wp2_with fail
    go_ret3
    exact ⟨_, _, rfl, hb1⟩

set_option maxHeartbeats 1000000 in
set_option maxRecDepth 100000 in
theorem readI16_c (A : Option Addr) (n c : Nat) (l : List Int) (w : World) (hr : Rd w A l) (hn : l.length = n) (hnc : n ≤ c) (hm : c ≤ maxLen) (hG : Glob w) :
    Calls Tryd.prog 40 #[.slice A n c] w (Ret3 w (.int .i16 (rdI16 l).1) (rdI16 l).2.1 (rdI16 l).2.2) := by
  have hcall := readI64_c A n c l w hr hn hnc hm hG
  have hrg := rdI64_range l hr.1
  unfold rdI16
  generalize rdI64 l = R at hcall hrg ⊢
  obtain ⟨x, k, r⟩ := R
  obtain ⟨x0, x1⟩ := hrg
  simp only at hcall x0 x1
  simp only []
  clear hr hn hnc hm hG
  by_cases h1 : 32767 < x
  · rw [if_pos (Or.inl h1)]
    go_enter Tryd.func40, Tryd.ntmps40
    go_wp2_with fail
    ((with_reducible refine hcall.mono ?_); rintro e w1 ⟨A1, c1, rfl, hb1⟩)
    go_wp2_with fail
    go_ret3
    exact ⟨_, _, rfl, hb1⟩
  by_cases h2 : x < -32768
  · rw [if_pos (Or.inr h2)]
    go_enter Tryd.func40, Tryd.ntmps40
    go_wp2_with fail
    ((with_reducible refine hcall.mono ?_); rintro e w1 ⟨A1, c1, rfl, hb1⟩)
    go_wp2_with fail
    go_ret3
    exact ⟨_, _, rfl, hb1⟩
  · rw [if_neg (by omega)]
    have h3 : x ≤ 32767 := by omega
    have h4 : -32768 ≤ x := by omega
    go_enter Tryd.func40, Tryd.ntmps40
    go_wp2_with fail
    ((with_reducible refine hcall.mono ?_); rintro e w1 ⟨A1, c1, rfl, hb1⟩)
    go_wp2_with fail
    go_ret3
    exact ⟨_, _, rfl, hb1⟩

set_option maxHeartbeats 1000000 in
set_option maxRecDepth 100000 in
theorem readI32_c (A : Option Addr) (n c : Nat) (l : List Int) (w : World) (hr : Rd w A l) (hn : l.length = n) (hnc : n ≤ c) (hm : c ≤ maxLen) (hG : Glob w) :
    Calls Tryd.prog 41 #[.slice A n c] w (Ret3 w (.int .i32 (rdI32 l).1) (rdI32 l).2.1 (rdI32 l).2.2) := by
  have hcall := readI64_c A n c l w hr hn hnc hm hG
  have hrg := rdI64_range l hr.1
  unfold rdI32
  generalize rdI64 l = R at hcall hrg ⊢
  obtain ⟨x, k, r⟩ := R
  obtain ⟨x0, x1⟩ := hrg
  simp only at hcall x0 x1
  simp only []
  clear hr hn hnc hm hG
  by_cases h1 : 2147483647 < x
  · rw [if_pos (Or.inl h1)]
    go_enter Tryd.func41, Tryd.ntmps41
    go_wp2_with fail
    ((with_reducible refine hcall.mono ?_); rintro e w1 ⟨A1, c1, rfl, hb1⟩)
    go_wp2_with fail
    go_ret3
    exact ⟨_, _, rfl, hb1⟩
  by_cases h2 : x < -2147483648
  · rw [if_pos (Or.inr h2)]
    go_enter Tryd.func41, Tryd.ntmps41
    go_wp2_with fail
    ((with_reducible refine hcall.mono ?_); rintro e w1 ⟨A1, c1, rfl, hb1⟩)
    go_wp2_with fail
    go_ret3
    exact ⟨_, _, rfl, hb1⟩
  · rw [if_neg (by omega)]
    have h3 : x ≤ 2147483647 := by omega
    have h4 : -2147483648 ≤ x := by omega
    go_enter Tryd.func41, Tryd.ntmps41
    go_wp2_with fail
    ((with_reducible refine hcall.mono ?_); rintro e w1 ⟨A1, c1, rfl, hb1⟩)
    go_wp2_with fail
    go_ret3
    exact ⟨_, _, rfl, hb1⟩

end Go.Proofs.YtmhilpnagpkkiaaDoor
