/- msgp's ReadUint64Bytes at any bytes, and the readers of 8, 16 and 32 bits. Conditions: the slice reads as bytes; the two sentinels' variables hold what the program lays in them. -/
import Derived.Test.YtmhilpnagpkkiaaDoorReadU64L
import Derived.Test.YtmhilpnagpkkiaaDoorSame
namespace Go.Proofs.YtmhilpnagpkkiaaDoor
open Go Go.RowKit Go.Lib
set_option linter.unusedVariables false

/-- The value, what is left, and the error. -/
def rdU64 (l : List Int) : Int × Nat × Er :=
  if l.length = 0 then (0, 0, .short) else
  if at_ l 0 < 128 then (at_ l 0, l.length - 1, .ok) else
  if 224 ≤ at_ l 0 then (0, 0, .below (s8 (at_ l 0))) else
  if at_ l 0 = 204 then (if l.length < 2 then (0, 0, .short) else (at_ l 1, l.length - 2, .ok)) else
  if at_ l 0 = 205 then (if l.length < 3 then (0, 0, .short) else (be2 l 1, l.length - 3, .ok)) else
  if at_ l 0 = 206 then (if l.length < 5 then (0, 0, .short) else (be4 l 1, l.length - 5, .ok)) else
  if at_ l 0 = 207 then (if l.length < 9 then (0, 0, .short) else (be8 l 1, l.length - 9, .ok)) else
  if at_ l 0 = 208 then (if l.length < 2 then (0, 0, .short) else if at_ l 1 < 128 then (at_ l 1, l.length - 2, .ok) else (0, 0, .below (s8 (at_ l 1)))) else
  if at_ l 0 = 209 then (if l.length < 3 then (0, 0, .short) else if be2 l 1 < 32768 then (be2 l 1, l.length - 3, .ok) else (0, 0, .below (s16 (be2 l 1)))) else
  if at_ l 0 = 210 then (if l.length < 5 then (0, 0, .short) else if be4 l 1 < 2147483648 then (be4 l 1, l.length - 5, .ok) else (0, 0, .below (s32 (be4 l 1)))) else
  if at_ l 0 = 211 then (if l.length < 9 then (0, 0, .short) else if be8 l 1 < 9223372036854775808 then (be8 l 1, l.length - 9, .ok) else (0, 0, .below (s64 (be8 l 1)))) else
  (0, 0, bp 9 (at_ l 0))

set_option maxHeartbeats 1000000 in
set_option maxRecDepth 100000 in
theorem ru_empty (A : Option Addr) (c : Nat) (w : World) (hG : Glob w) : Calls Tryd.prog 46 #[.slice A 0 c] w (Ret3 w (.int .u64 0) 0 .short) := by
  obtain ⟨gs, gr⟩ := hG
  go_enter Tryd.func46, Tryd.ntmps46
  go_wp2_with fail
  all_goals try (go_quiet (fail); go_wp2_with fail)
  all_goals
    go_ret3
    exact ⟨_, _, rfl, by first | exact Below.refl _ _ | exact below_drewN (Below.refl _ _) _⟩

theorem readU64_c (A : Option Addr) (n c : Nat) (l : List Int) (w : World) (hr : Rd w A l) (hn : l.length = n) (hnc : n ≤ c) (hm : c ≤ maxLen) (hG : Glob w) :
    Calls Tryd.prog 46 #[.slice A n c] w (Ret3 w (.int .u64 (rdU64 l).1) (rdU64 l).2.1 (rdU64 l).2.2) := by
  have hm' : c ≤ 9223372036854775807 := by simp only [maxLen] at hm; omega
  have HN : Hid (l.length = n) := hn
  unfold rdU64
  rw [hn]
  rcases Nat.eq_zero_or_pos n with rfl | hpos
  · exact ru_empty A c w hG
  obtain ⟨g, o, rfl, hg, -, hc⟩ := hr.open_ (by omega)
  have c0 := hc 0 (by omega)
  rw [Nat.add_zero] at c0
  have hb := hr.1.at_ 0
  rw [if_neg (by omega)]
  by_cases h1 : at_ l 0 < 128
  · rw [if_pos h1]; exact ru_fixint g o n c l w hr HN hnc hm' hg hG hpos _ hb.1 h1 c0
  rw [if_neg h1]
  by_cases h2 : 224 ≤ at_ l 0
  · rw [if_pos h2]; exact ru_nfixint g o n c l w hr HN hnc hm' hg hG hpos _ h2 hb.2 c0
  rw [if_neg h2]
  by_cases e204 : at_ l 0 = 204
  · rw [if_pos e204]
    rw [e204] at c0
    by_cases hs : n < 2
    · rw [if_pos hs]; exact ru_204_short g o n c l w hr HN hnc hm' hg hG hpos hs c0
    rw [if_neg hs]
    exact ru_204_whole g o n c l w hr HN hnc hm' hg hG (by omega) c0
  rw [if_neg e204]
  by_cases e205 : at_ l 0 = 205
  · rw [if_pos e205]
    rw [e205] at c0
    by_cases hs : n < 3
    · rw [if_pos hs]; exact ru_205_short g o n c l w hr HN hnc hm' hg hG hpos hs c0
    rw [if_neg hs]
    exact ru_205_whole g o n c l w hr HN hnc hm' hg hG (by omega) c0
  rw [if_neg e205]
  by_cases e206 : at_ l 0 = 206
  · rw [if_pos e206]
    rw [e206] at c0
    by_cases hs : n < 5
    · rw [if_pos hs]; exact ru_206_short g o n c l w hr HN hnc hm' hg hG hpos hs c0
    rw [if_neg hs]
    exact ru_206_whole g o n c l w hr HN hnc hm' hg hG (by omega) c0
  rw [if_neg e206]
  by_cases e207 : at_ l 0 = 207
  · rw [if_pos e207]
    rw [e207] at c0
    by_cases hs : n < 9
    · rw [if_pos hs]; exact ru_207_short g o n c l w hr HN hnc hm' hg hG hpos hs c0
    rw [if_neg hs]
    exact ru_207_whole g o n c l w hr HN hnc hm' hg hG (by omega) c0
  rw [if_neg e207]
  by_cases e208 : at_ l 0 = 208
  · rw [if_pos e208]
    rw [e208] at c0
    by_cases hs : n < 2
    · rw [if_pos hs]; exact ru_208_short g o n c l w hr HN hnc hm' hg hG hpos hs c0
    rw [if_neg hs]
    by_cases hv : at_ l 1 < 128
    · rw [if_pos hv]; exact ru_208_whole g o n c l w hr HN hnc hm' hg hG (by omega) c0 hv
    · rw [if_neg hv]; exact ru_208_neg g o n c l w hr HN hnc hm' hg hG (by omega) c0 (by omega)
  rw [if_neg e208]
  by_cases e209 : at_ l 0 = 209
  · rw [if_pos e209]
    rw [e209] at c0
    by_cases hs : n < 3
    · rw [if_pos hs]; exact ru_209_short g o n c l w hr HN hnc hm' hg hG hpos hs c0
    rw [if_neg hs]
    by_cases hv : be2 l 1 < 32768
    · rw [if_pos hv]; exact ru_209_whole g o n c l w hr HN hnc hm' hg hG (by omega) c0 hv
    · rw [if_neg hv]; exact ru_209_neg g o n c l w hr HN hnc hm' hg hG (by omega) c0 (by omega)
  rw [if_neg e209]
  by_cases e210 : at_ l 0 = 210
  · rw [if_pos e210]
    rw [e210] at c0
    by_cases hs : n < 5
    · rw [if_pos hs]; exact ru_210_short g o n c l w hr HN hnc hm' hg hG hpos hs c0
    rw [if_neg hs]
    by_cases hv : be4 l 1 < 2147483648
    · rw [if_pos hv]; exact ru_210_whole g o n c l w hr HN hnc hm' hg hG (by omega) c0 hv
    · rw [if_neg hv]; exact ru_210_neg g o n c l w hr HN hnc hm' hg hG (by omega) c0 (by omega)
  rw [if_neg e210]
  by_cases e211 : at_ l 0 = 211
  · rw [if_pos e211]
    rw [e211] at c0
    by_cases hs : n < 9
    · rw [if_pos hs]; exact ru_211_short g o n c l w hr HN hnc hm' hg hG hpos hs c0
    rw [if_neg hs]
    by_cases hv : be8 l 1 < 9223372036854775808
    · rw [if_pos hv]; exact ru_211_whole g o n c l w hr HN hnc hm' hg hG (by omega) c0 hv
    · rw [if_neg hv]; exact ru_211_neg g o n c l w hr HN hnc hm' hg hG (by omega) c0 (by omega)
  rw [if_neg e211]
  by_cases h3 : at_ l 0 < 204
  · exact ru_low g o n c l w hr HN hnc hm' hg hG hpos _ (by omega) h3 c0
  · exact ru_high g o n c l w hr HN hnc hm' hg hG hpos _ (by omega) (by omega) c0

/-- The value, what is left, and the error, in 8 bits. -/
def rdU8 (l : List Int) : Int × Nat × Er := if 255 < (rdU64 l).1 then (0, 0, .uover (rdU64 l).1 8) else rdU64 l
/-- The value, what is left, and the error, in 16 bits. -/
def rdU16 (l : List Int) : Int × Nat × Er := if 65535 < (rdU64 l).1 then (0, 0, .uover (rdU64 l).1 16) else rdU64 l
/-- The value, what is left, and the error, in 32 bits. -/
def rdU32 (l : List Int) : Int × Nat × Er := if 4294967295 < (rdU64 l).1 then (0, 0, .uover (rdU64 l).1 32) else rdU64 l

def InRU (r : Int × Nat × Er) : Prop := 0 ≤ r.1 ∧ r.1 ≤ 18446744073709551615
theorem inRU_ite {p : Prop} [Decidable p] {a b : Int × Nat × Er} (ha : p → InRU a) (hb : ¬ p → InRU b) : InRU (if p then a else b) := by
  split
  · exact ha ‹_›
  · exact hb ‹_›
theorem inRU_mk {x : Int} {k : Nat} {r : Er} (h : 0 ≤ x ∧ x ≤ 18446744073709551615) : InRU (x, k, r) := h
theorem rdU64_range (l : List Int) (hb : Byts l) : InRU (rdU64 l) := by
  have a0 := hb.at_ 0
  have a1 := hb.at_ 1
  have a2 := be2_range hb 1
  have a4 := be4_range hb 1
  have a8 := be8_range hb 1
  unfold rdU64
  repeat' first | (refine inRU_mk ?_; omega) | (refine inRU_ite ?_ ?_ <;> intro _)

set_option maxHeartbeats 1000000 in
set_option maxRecDepth 100000 in
theorem readU8_c (A : Option Addr) (n c : Nat) (l : List Int) (w : World) (hr : Rd w A l) (hn : l.length = n) (hnc : n ≤ c) (hm : c ≤ maxLen) (hG : Glob w) :
    Calls Tryd.prog 43 #[.slice A n c] w (Ret3 w (.int .u8 (rdU8 l).1) (rdU8 l).2.1 (rdU8 l).2.2) := by
  have hcall := readU64_c A n c l w hr hn hnc hm hG
  have hrg := rdU64_range l hr.1
  unfold rdU8
  generalize rdU64 l = R at hcall hrg ⊢
  obtain ⟨x, k, r⟩ := R
  obtain ⟨x0, x1⟩ := hrg
  simp only at hcall x0 x1
  simp only []
  clear hr hn hnc hm hG
  by_cases h1 : 255 < x
  · rw [if_pos h1]
    go_enter Tryd.func43, Tryd.ntmps43
    go_wp2_with fail
    ((with_reducible refine hcall.mono ?_); rintro e w1 ⟨A1, c1, rfl, hb1⟩)
    go_wp2_with fail
    go_ret3
    exact ⟨_, _, rfl, hb1⟩
  · rw [if_neg h1]
    have h3 : x ≤ 255 := by omega
    go_enter Tryd.func43, Tryd.ntmps43
    go_wp2_with fail
    ((with_reducible refine hcall.mono ?_); rintro e w1 ⟨A1, c1, rfl, hb1⟩)
    go_wp2_with fail
    go_ret3
    exact ⟨_, _, rfl, hb1⟩

set_option maxHeartbeats 1000000 in
set_option maxRecDepth 100000 in
theorem readU16_c (A : Option Addr) (n c : Nat) (l : List Int) (w : World) (hr : Rd w A l) (hn : l.length = n) (hnc : n ≤ c) (hm : c ≤ maxLen) (hG : Glob w) :
    Calls Tryd.prog 44 #[.slice A n c] w (Ret3 w (.int .u16 (rdU16 l).1) (rdU16 l).2.1 (rdU16 l).2.2) := by
  have hcall := readU64_c A n c l w hr hn hnc hm hG
  have hrg := rdU64_range l hr.1
  unfold rdU16
  generalize rdU64 l = R at hcall hrg ⊢
  obtain ⟨x, k, r⟩ := R
  obtain ⟨x0, x1⟩ := hrg
  simp only at hcall x0 x1
  simp only []
  clear hr hn hnc hm hG
  by_cases h1 : 65535 < x
  · rw [if_pos h1]
    go_enter Tryd.func44, Tryd.ntmps44
    go_wp2_with fail
    ((with_reducible refine hcall.mono ?_); rintro e w1 ⟨A1, c1, rfl, hb1⟩)
    go_wp2_with fail
    go_ret3
    exact ⟨_, _, rfl, hb1⟩
  · rw [if_neg h1]
    have h3 : x ≤ 65535 := by omega
    go_enter Tryd.func44, Tryd.ntmps44
    go_wp2_with fail
    ((with_reducible refine hcall.mono ?_); rintro e w1 ⟨A1, c1, rfl, hb1⟩)
    go_wp2_with fail
    go_ret3
    exact ⟨_, _, rfl, hb1⟩

set_option maxHeartbeats 1000000 in
set_option maxRecDepth 100000 in
theorem readU32_c (A : Option Addr) (n c : Nat) (l : List Int) (w : World) (hr : Rd w A l) (hn : l.length = n) (hnc : n ≤ c) (hm : c ≤ maxLen) (hG : Glob w) :
    Calls Tryd.prog 45 #[.slice A n c] w (Ret3 w (.int .u32 (rdU32 l).1) (rdU32 l).2.1 (rdU32 l).2.2) := by
  have hcall := readU64_c A n c l w hr hn hnc hm hG
  have hrg := rdU64_range l hr.1
  unfold rdU32
  generalize rdU64 l = R at hcall hrg ⊢
  obtain ⟨x, k, r⟩ := R
  obtain ⟨x0, x1⟩ := hrg
  simp only at hcall x0 x1
  simp only []
  clear hr hn hnc hm hG
  by_cases h1 : 4294967295 < x
  · rw [if_pos h1]
    go_enter Tryd.func45, Tryd.ntmps45
    go_wp2_with fail
    ((with_reducible refine hcall.mono ?_); rintro e w1 ⟨A1, c1, rfl, hb1⟩)
    go_wp2_with fail
    go_ret3
    exact ⟨_, _, rfl, hb1⟩
  · rw [if_neg h1]
    have h3 : x ≤ 4294967295 := by omega
    go_enter Tryd.func45, Tryd.ntmps45
    go_wp2_with fail
    ((with_reducible refine hcall.mono ?_); rintro e w1 ⟨A1, c1, rfl, hb1⟩)
    go_wp2_with fail
    go_ret3
    exact ⟨_, _, rfl, hb1⟩

end Go.Proofs.YtmhilpnagpkkiaaDoor
