/- What the reference tells of a number's first bytes, beside what the package's two readers answer, in plain Lean: no program is in sight. Conditions: none. -/
import Derived.Test.YtmhilpnagpkkiaaDoorReadI64
import Derived.Test.YtmhilpnagpkkiaaDoorReadU64
import Derived.Test.YtmhilpnagpkkiaaDoorFails
namespace Go.Proofs.YtmhilpnagpkkiaaDoor
open Go
set_option linter.unusedVariables false

/-- Neither of the kinds of numbers. -/
def NoNum (h : Hd) : Prop := h.kind ≠ 3 ∧ h.kind ≠ 4
theorem noNum_ite {p : Prop} [Decidable p] {a b : Hd} (ha : p → NoNum a) (hb : ¬ p → NoNum b) : NoNum (if p then a else b) := by
  split
  · exact ha ‹_›
  · exact hb ‹_›
theorem noNum_mk {k x len t s : Int} {sh : Bool} (h : k ≠ 3 ∧ k ≠ 4) : NoNum (Hd.mk k x len t s sh) := h
theorem headBig_noNum (l : List Int) (c : Int) (h : c < 204 ∨ 211 < c) : NoNum (headBig l c) := by
  unfold headBig
  repeat' (first | exact noNum_mk (by decide) | (refine noNum_ite ?_ ?_ <;> intro _) | (exfalso; omega))

/-- The reference at a first byte from 196 to 223. -/
theorem headOf_big (l : List Int) (h0 : ¬ l.length = 0) (h1 : 196 ≤ at_ l 0) (h2 : at_ l 0 < 224) : headOf l = headBig l (at_ l 0) := by
  rw [headOf, if_neg h0, if_neg (by omega), if_neg (by omega), if_neg (by omega), if_neg (by omega), if_neg (by omega), if_neg (by omega), if_neg (by omega), if_neg (by omega)]

theorem headOf_noNum (l : List Int) (h0 : ¬ l.length = 0) (h1 : 128 ≤ at_ l 0) (h2 : at_ l 0 < 224) (h3 : at_ l 0 < 204 ∨ 211 < at_ l 0) : NoNum (headOf l) := by
  by_cases g : 196 ≤ at_ l 0
  · rw [headOf_big l h0 g h2]
    exact headBig_noNum l _ h3
  · unfold headOf
    rw [if_neg h0]
    repeat' (first | exact noNum_mk (by decide) | (refine noNum_ite ?_ ?_ <;> intro _) | (exfalso; omega))
theorem headOf_193 (l : List Int) (h0 : ¬ l.length = 0) (h : at_ l 0 = 193) : (headOf l).kind = 0 := by
  rw [headOf, if_neg h0, h]; rfl

/-- A wrong first byte's code is right. -/
def RightI (n : Nat) (k code : Int) : Prop := code ≠ 0 ∧ (0 < n ∨ code = 1) ∧ (n < 16 ∨ k = 0 ∨ code = 2)
theorem right_bp (l : List Int) (m : Int) (hl : ¬ l.length = 0) (hb : 0 ≤ at_ l 0 ∧ at_ l 0 < 256) : RightI l.length (headOf l).kind (bp m (at_ l 0)).code := by
  unfold RightI bp
  by_cases h : bty (at_ l 0) = 0
  · rw [if_pos h]
    have := headOf_193 l hl (bty_zero _ hb.1 hb.2 h)
    exact ⟨by simp [Er.code], .inl (by omega), .inr (.inl this)⟩
  · rw [if_neg h]
    exact ⟨by simp [Er.code], .inl (by omega), .inr (.inr rfl)⟩

/-- The numbers with a sign: what is told and what is read. -/
def PlainI (n : Nat) (h : Hd) (R : Int × Nat × Er) : Prop :=
  (h.kind ≠ 3 ∧ h.kind ≠ 4 ∧ ∃ r, R = (0, 0, r) ∧ RightI n h.kind r.code) ∨
  ((h.kind = 3 ∨ h.kind = 4) ∧ h.short = true ∧ R = (0, 0, .short)) ∨
  (h.kind = 4 ∧ h.short = false ∧ 9223372036854775808 ≤ h.number ∧ h.number < 18446744073709551616 ∧ ∃ r, R = (0, 0, r) ∧ r.code = 3) ∨
  ((h.kind = 3 ∨ h.kind = 4) ∧ h.short = false ∧ (h.kind = 4 → h.number < 9223372036854775808) ∧ 0 ≤ h.number ∧ h.number < 18446744073709551616 ∧ ∃ k : Nat, R = (s64 h.number, k, .ok) ∧ (k : Int) = n - h.size ∧ 0 ≤ h.size)

theorem s64_small {x : Int} (h0 : 0 ≤ x) (h1 : x < 9223372036854775808) : s64 x = x := by rw [s64_eq h0 (by omega), if_pos h1]
theorem s64_sgn1 {x : Int} (h0 : 0 ≤ x) (h1 : x < 256) : 0 ≤ sgn x 1 ∧ sgn x 1 < 18446744073709551616 ∧ s64 (sgn x 1) = s8 x := by
  rw [s8_eq h0 h1]
  simp only [sgn, if_true]
  by_cases h : x < 128
  · rw [if_pos h, if_pos h]; exact ⟨by omega, by omega, s64_small h0 (by omega)⟩
  · rw [if_neg h, if_neg h]; refine ⟨by omega, by omega, ?_⟩; rw [s64_eq (by omega) (by omega), if_neg (by omega)]; omega
theorem s64_sgn2 {x : Int} (h0 : 0 ≤ x) (h1 : x < 65536) : 0 ≤ sgn x 2 ∧ sgn x 2 < 18446744073709551616 ∧ s64 (sgn x 2) = s16 x := by
  rw [s16_eq h0 h1]
  simp only [sgn, Int.reduceEq, if_true, if_false]
  by_cases h : x < 32768
  · rw [if_pos h, if_pos h]; exact ⟨by omega, by omega, s64_small h0 (by omega)⟩
  · rw [if_neg h, if_neg h]; refine ⟨by omega, by omega, ?_⟩; rw [s64_eq (by omega) (by omega), if_neg (by omega)]; omega
theorem s64_sgn4 {x : Int} (h0 : 0 ≤ x) (h1 : x < 4294967296) : 0 ≤ sgn x 4 ∧ sgn x 4 < 18446744073709551616 ∧ s64 (sgn x 4) = s32 x := by
  rw [s32_eq h0 h1]
  simp only [sgn, Int.reduceEq, if_true, if_false]
  by_cases h : x < 2147483648
  · rw [if_pos h, if_pos h]; exact ⟨by omega, by omega, s64_small h0 (by omega)⟩
  · rw [if_neg h, if_neg h]; refine ⟨by omega, by omega, ?_⟩; rw [s64_eq (by omega) (by omega), if_neg (by omega)]; omega
theorem sgn8 (x : Int) : sgn x 8 = x := by simp [sgn]

theorem plainI (l : List Int) (hb : Byts l) : PlainI l.length (headOf l) (rdI64 l) := by
  by_cases h0 : l.length = 0
  · refine .inl ?_
    have e : headOf l = ⟨0, 0, 0, 0, 0, true⟩ := by rw [headOf, if_pos h0]
    rw [e]
    refine ⟨by decide, by decide, .short, by rw [rdI64, if_pos h0], by simp [Er.code], .inr rfl, .inl (by omega)⟩
  have hc := hb.at_ 0
  have b1 := hb.at_ 1
  have b2 := be2_range hb 1
  have b4 := be4_range hb 1
  have b8 := be8_range hb 1
  by_cases h1 : at_ l 0 < 128
  · refine .inr (.inr (.inr ?_))
    rw [headOf, if_neg h0, if_pos h1, rdI64, if_neg h0, if_pos h1]
    exact ⟨.inr rfl, rfl, fun _ => by simp only []; omega, hc.1, by simp only []; omega, l.length - 1, by rw [s64_small hc.1 (by omega)], by simp only []; omega⟩
  by_cases h2 : 224 ≤ at_ l 0
  · refine .inr (.inr (.inr ?_))
    rw [headOf, if_neg h0, if_neg h1, if_neg (by omega), if_neg (by omega), if_neg (by omega), if_pos h2, rdI64, if_neg h0, if_neg h1, if_pos h2]
    refine ⟨.inl rfl, rfl, fun h => absurd h (show ¬ (3 : Int) = 4 by decide), by simp only []; omega, by simp only []; omega, l.length - 1, ?_, by simp only []; omega⟩
    simp only []
    rw [s8_eq hc.1 hc.2, s64_eq (by omega) (by omega), if_neg (by omega), if_neg (by omega)]
    rw [show at_ l 0 - 256 = at_ l 0 + 18446744073709551360 - 18446744073709551616 by omega]
  have hbig : 196 ≤ at_ l 0 → headOf l = headBig l (at_ l 0) := fun h => headOf_big l h0 h (by omega)
  by_cases e204 : at_ l 0 = 204
  · have hh := hbig (by omega)
    rw [e204] at hh
    have hr : rdI64 l = rdI64 l := rfl
    conv at hr => rhs; unfold rdI64
    rw [e204] at hr
    by_cases hs : l.length < 2
    · refine .inr (.inl ?_)
      simp only [headBig, Int.reduceEq, if_true, if_false, if_pos hs] at hh
      simp only [h0, Int.reduceLT, Int.reduceLE, Int.reduceEq, if_true, if_false, if_pos hs] at hr
      rw [hh]
      exact ⟨.inr rfl, rfl, hr⟩
    simp only [headBig, Int.reduceEq, if_true, if_false, if_neg hs] at hh
    simp only [h0, Int.reduceLT, Int.reduceLE, Int.reduceEq, if_true, if_false, if_neg hs] at hr
    rw [hh]
    exact .inr (.inr (.inr ⟨.inr rfl, rfl, fun _ => by simp only []; omega, b1.1, by simp only []; omega, l.length - 2, by rw [hr, s64_small b1.1 (by omega)], by simp only []; omega⟩))
  by_cases e205 : at_ l 0 = 205
  · have hh := hbig (by omega)
    rw [e205] at hh
    have hr : rdI64 l = rdI64 l := rfl
    conv at hr => rhs; unfold rdI64
    rw [e205] at hr
    by_cases hs : l.length < 3
    · refine .inr (.inl ?_)
      simp only [headBig, Int.reduceEq, if_true, if_false, if_pos hs] at hh
      simp only [h0, Int.reduceLT, Int.reduceLE, Int.reduceEq, if_true, if_false, if_pos hs] at hr
      rw [hh]
      exact ⟨.inr rfl, rfl, hr⟩
    simp only [headBig, Int.reduceEq, if_true, if_false, if_neg hs] at hh
    simp only [h0, Int.reduceLT, Int.reduceLE, Int.reduceEq, if_true, if_false, if_neg hs] at hr
    rw [hh]
    exact .inr (.inr (.inr ⟨.inr rfl, rfl, fun _ => by simp only []; omega, b2.1, by simp only []; omega, l.length - 3, by rw [hr, s64_small b2.1 (by omega)], by simp only []; omega⟩))
  by_cases e206 : at_ l 0 = 206
  · have hh := hbig (by omega)
    rw [e206] at hh
    have hr : rdI64 l = rdI64 l := rfl
    conv at hr => rhs; unfold rdI64
    rw [e206] at hr
    by_cases hs : l.length < 5
    · refine .inr (.inl ?_)
      simp only [headBig, Int.reduceEq, if_true, if_false, if_pos hs] at hh
      simp only [h0, Int.reduceLT, Int.reduceLE, Int.reduceEq, if_true, if_false, if_pos hs] at hr
      rw [hh]
      exact ⟨.inr rfl, rfl, hr⟩
    simp only [headBig, Int.reduceEq, if_true, if_false, if_neg hs] at hh
    simp only [h0, Int.reduceLT, Int.reduceLE, Int.reduceEq, if_true, if_false, if_neg hs] at hr
    rw [hh]
    exact .inr (.inr (.inr ⟨.inr rfl, rfl, fun _ => by simp only []; omega, b4.1, by simp only []; omega, l.length - 5, by rw [hr, s64_small b4.1 (by omega)], by simp only []; omega⟩))
  by_cases e207 : at_ l 0 = 207
  · have hh := hbig (by omega)
    rw [e207] at hh
    have hr : rdI64 l = rdI64 l := rfl
    conv at hr => rhs; unfold rdI64
    rw [e207] at hr
    by_cases hs : l.length < 9
    · refine .inr (.inl ?_)
      simp only [headBig, Int.reduceEq, if_true, if_false, if_pos hs] at hh
      simp only [h0, Int.reduceLT, Int.reduceLE, Int.reduceEq, if_true, if_false, if_pos hs] at hr
      rw [hh]
      exact ⟨.inr rfl, rfl, hr⟩
    simp only [headBig, Int.reduceEq, if_true, if_false, if_neg hs] at hh
    simp only [h0, Int.reduceLT, Int.reduceLE, Int.reduceEq, if_true, if_false, if_neg hs] at hr
    rw [hh]
    by_cases hv : be8 l 1 ≤ 9223372036854775807
    · rw [if_pos hv] at hr
      exact .inr (.inr (.inr ⟨.inr rfl, rfl, fun _ => by simp only []; omega, b8.1, b8.2, l.length - 9, by rw [hr, s64_small b8.1 (by omega)], by simp only []; omega⟩))
    · rw [if_neg hv] at hr
      exact .inr (.inr (.inl ⟨rfl, rfl, by simp only []; omega, b8.2, _, hr, rfl⟩))
  by_cases e208 : at_ l 0 = 208
  · have hh := hbig (by omega)
    rw [e208] at hh
    have hr : rdI64 l = rdI64 l := rfl
    conv at hr => rhs; unfold rdI64
    rw [e208] at hr
    by_cases hs : l.length < 2
    · refine .inr (.inl ?_)
      simp only [headBig, Int.reduceEq, if_true, if_false, if_pos hs] at hh
      simp only [h0, Int.reduceLT, Int.reduceLE, Int.reduceEq, if_true, if_false, if_pos hs] at hr
      rw [hh]
      exact ⟨.inl rfl, rfl, hr⟩
    simp only [headBig, Int.reduceEq, if_true, if_false, if_neg hs] at hh
    simp only [h0, Int.reduceLT, Int.reduceLE, Int.reduceEq, if_true, if_false, if_neg hs] at hr
    rw [hh]
    obtain ⟨q0, q1, q2⟩ := s64_sgn1 b1.1 b1.2
    exact .inr (.inr (.inr ⟨.inl rfl, rfl, fun h => absurd h (show ¬ (3 : Int) = 4 by decide), q0, q1, l.length - 2, by rw [hr, q2], by simp only []; omega⟩))
  by_cases e209 : at_ l 0 = 209
  · have hh := hbig (by omega)
    rw [e209] at hh
    have hr : rdI64 l = rdI64 l := rfl
    conv at hr => rhs; unfold rdI64
    rw [e209] at hr
    by_cases hs : l.length < 3
    · refine .inr (.inl ?_)
      simp only [headBig, Int.reduceEq, if_true, if_false, if_pos hs] at hh
      simp only [h0, Int.reduceLT, Int.reduceLE, Int.reduceEq, if_true, if_false, if_pos hs] at hr
      rw [hh]
      exact ⟨.inl rfl, rfl, hr⟩
    simp only [headBig, Int.reduceEq, if_true, if_false, if_neg hs] at hh
    simp only [h0, Int.reduceLT, Int.reduceLE, Int.reduceEq, if_true, if_false, if_neg hs] at hr
    rw [hh]
    obtain ⟨q0, q1, q2⟩ := s64_sgn2 b2.1 b2.2
    exact .inr (.inr (.inr ⟨.inl rfl, rfl, fun h => absurd h (show ¬ (3 : Int) = 4 by decide), q0, q1, l.length - 3, by rw [hr, q2], by simp only []; omega⟩))
  by_cases e210 : at_ l 0 = 210
  · have hh := hbig (by omega)
    rw [e210] at hh
    have hr : rdI64 l = rdI64 l := rfl
    conv at hr => rhs; unfold rdI64
    rw [e210] at hr
    by_cases hs : l.length < 5
    · refine .inr (.inl ?_)
      simp only [headBig, Int.reduceEq, if_true, if_false, if_pos hs] at hh
      simp only [h0, Int.reduceLT, Int.reduceLE, Int.reduceEq, if_true, if_false, if_pos hs] at hr
      rw [hh]
      exact ⟨.inl rfl, rfl, hr⟩
    simp only [headBig, Int.reduceEq, if_true, if_false, if_neg hs] at hh
    simp only [h0, Int.reduceLT, Int.reduceLE, Int.reduceEq, if_true, if_false, if_neg hs] at hr
    rw [hh]
    obtain ⟨q0, q1, q2⟩ := s64_sgn4 b4.1 b4.2
    exact .inr (.inr (.inr ⟨.inl rfl, rfl, fun h => absurd h (show ¬ (3 : Int) = 4 by decide), q0, q1, l.length - 5, by rw [hr, q2], by simp only []; omega⟩))
  by_cases e211 : at_ l 0 = 211
  · have hh := hbig (by omega)
    rw [e211] at hh
    have hr : rdI64 l = rdI64 l := rfl
    conv at hr => rhs; unfold rdI64
    rw [e211] at hr
    by_cases hs : l.length < 9
    · refine .inr (.inl ?_)
      simp only [headBig, Int.reduceEq, if_true, if_false, if_pos hs] at hh
      simp only [h0, Int.reduceLT, Int.reduceLE, Int.reduceEq, if_true, if_false, if_pos hs] at hr
      rw [hh]
      exact ⟨.inl rfl, rfl, hr⟩
    simp only [headBig, Int.reduceEq, if_true, if_false, if_neg hs] at hh
    simp only [h0, Int.reduceLT, Int.reduceLE, Int.reduceEq, if_true, if_false, if_neg hs] at hr
    rw [hh]
    rw [sgn8]
    exact .inr (.inr (.inr ⟨.inl rfl, rfl, fun h => absurd h (show ¬ (3 : Int) = 4 by decide), b8.1, b8.2, l.length - 9, hr, by simp only []; omega⟩))
  · refine .inl ?_
    have hk := headOf_noNum l h0 (by omega) (by omega) (by omega)
    exact ⟨hk.1, hk.2, _, by rw [rdI64, if_neg h0, if_neg h1, if_neg h2, if_neg e204, if_neg e205, if_neg e206, if_neg e207, if_neg e208, if_neg e209, if_neg e210, if_neg e211], right_bp l 8 h0 hc⟩
/-- The numbers without a sign: what is told and what is read. -/
def PlainU (n : Nat) (h : Hd) (R : Int × Nat × Er) : Prop :=
  (h.kind ≠ 3 ∧ h.kind ≠ 4 ∧ ∃ r, R = (0, 0, r) ∧ RightI n h.kind r.code) ∨
  ((h.kind = 3 ∨ h.kind = 4) ∧ h.short = true ∧ R = (0, 0, .short)) ∨
  (h.kind = 3 ∧ h.short = false ∧ 9223372036854775808 ≤ h.number ∧ h.number < 18446744073709551616 ∧ ∃ r, R = (0, 0, r) ∧ r.code = 5) ∨
  ((h.kind = 3 ∨ h.kind = 4) ∧ h.short = false ∧ (h.kind = 3 → h.number < 9223372036854775808) ∧ 0 ≤ h.number ∧ h.number < 18446744073709551616 ∧ ∃ k : Nat, R = (h.number, k, .ok) ∧ (k : Int) = n - h.size ∧ 0 ≤ h.size)

theorem sgn1 (x : Int) : sgn x 1 = if x < 128 then x else x + 18446744073709551360 := by simp [sgn]
theorem sgn2 (x : Int) : sgn x 2 = if x < 32768 then x else x + 18446744073709486080 := by simp [sgn]
theorem sgn4 (x : Int) : sgn x 4 = if x < 2147483648 then x else x + 18446744069414584320 := by simp [sgn]

theorem plainU (l : List Int) (hb : Byts l) : PlainU l.length (headOf l) (rdU64 l) := by
  by_cases h0 : l.length = 0
  · refine .inl ?_
    have e : headOf l = ⟨0, 0, 0, 0, 0, true⟩ := by rw [headOf, if_pos h0]
    rw [e]
    refine ⟨by decide, by decide, .short, by rw [rdU64, if_pos h0], by simp [Er.code], .inr rfl, .inl (by omega)⟩
  have hc := hb.at_ 0
  have b1 := hb.at_ 1
  have b2 := be2_range hb 1
  have b4 := be4_range hb 1
  have b8 := be8_range hb 1
  by_cases h1 : at_ l 0 < 128
  · refine .inr (.inr (.inr ?_))
    rw [headOf, if_neg h0, if_pos h1, rdU64, if_neg h0, if_pos h1]
    exact ⟨.inr rfl, rfl, fun _ => by simp only []; omega, hc.1, by simp only []; omega, l.length - 1, rfl, by simp only []; omega⟩
  by_cases h2 : 224 ≤ at_ l 0
  · refine .inr (.inr (.inl ?_))
    rw [headOf, if_neg h0, if_neg h1, if_neg (by omega), if_neg (by omega), if_neg (by omega), if_pos h2, rdU64, if_neg h0, if_neg h1, if_pos h2]
    exact ⟨rfl, rfl, by simp only []; omega, by simp only []; omega, _, rfl, rfl⟩
  have hbig : 196 ≤ at_ l 0 → headOf l = headBig l (at_ l 0) := fun h => headOf_big l h0 h (by omega)
  by_cases e204 : at_ l 0 = 204
  · have hh := hbig (by omega)
    rw [e204] at hh
    have hr : rdU64 l = rdU64 l := rfl
    conv at hr => rhs; unfold rdU64
    rw [e204] at hr
    by_cases hs : l.length < 2
    · refine .inr (.inl ?_)
      simp only [headBig, Int.reduceEq, if_true, if_false, if_pos hs] at hh
      simp only [h0, Int.reduceLT, Int.reduceLE, Int.reduceEq, if_true, if_false, if_pos hs] at hr
      rw [hh]
      exact ⟨.inr rfl, rfl, hr⟩
    simp only [headBig, Int.reduceEq, if_true, if_false, if_neg hs] at hh
    simp only [h0, Int.reduceLT, Int.reduceLE, Int.reduceEq, if_true, if_false, if_neg hs] at hr
    rw [hh]
    exact .inr (.inr (.inr ⟨.inr rfl, rfl, fun h => absurd h (show ¬ (4 : Int) = 3 by decide), b1.1, by simp only []; omega, l.length - 2, hr, by simp only []; omega⟩))
  by_cases e205 : at_ l 0 = 205
  · have hh := hbig (by omega)
    rw [e205] at hh
    have hr : rdU64 l = rdU64 l := rfl
    conv at hr => rhs; unfold rdU64
    rw [e205] at hr
    by_cases hs : l.length < 3
    · refine .inr (.inl ?_)
      simp only [headBig, Int.reduceEq, if_true, if_false, if_pos hs] at hh
      simp only [h0, Int.reduceLT, Int.reduceLE, Int.reduceEq, if_true, if_false, if_pos hs] at hr
      rw [hh]
      exact ⟨.inr rfl, rfl, hr⟩
    simp only [headBig, Int.reduceEq, if_true, if_false, if_neg hs] at hh
    simp only [h0, Int.reduceLT, Int.reduceLE, Int.reduceEq, if_true, if_false, if_neg hs] at hr
    rw [hh]
    exact .inr (.inr (.inr ⟨.inr rfl, rfl, fun h => absurd h (show ¬ (4 : Int) = 3 by decide), b2.1, by simp only []; omega, l.length - 3, hr, by simp only []; omega⟩))
  by_cases e206 : at_ l 0 = 206
  · have hh := hbig (by omega)
    rw [e206] at hh
    have hr : rdU64 l = rdU64 l := rfl
    conv at hr => rhs; unfold rdU64
    rw [e206] at hr
    by_cases hs : l.length < 5
    · refine .inr (.inl ?_)
      simp only [headBig, Int.reduceEq, if_true, if_false, if_pos hs] at hh
      simp only [h0, Int.reduceLT, Int.reduceLE, Int.reduceEq, if_true, if_false, if_pos hs] at hr
      rw [hh]
      exact ⟨.inr rfl, rfl, hr⟩
    simp only [headBig, Int.reduceEq, if_true, if_false, if_neg hs] at hh
    simp only [h0, Int.reduceLT, Int.reduceLE, Int.reduceEq, if_true, if_false, if_neg hs] at hr
    rw [hh]
    exact .inr (.inr (.inr ⟨.inr rfl, rfl, fun h => absurd h (show ¬ (4 : Int) = 3 by decide), b4.1, by simp only []; omega, l.length - 5, hr, by simp only []; omega⟩))
  by_cases e207 : at_ l 0 = 207
  · have hh := hbig (by omega)
    rw [e207] at hh
    have hr : rdU64 l = rdU64 l := rfl
    conv at hr => rhs; unfold rdU64
    rw [e207] at hr
    by_cases hs : l.length < 9
    · refine .inr (.inl ?_)
      simp only [headBig, Int.reduceEq, if_true, if_false, if_pos hs] at hh
      simp only [h0, Int.reduceLT, Int.reduceLE, Int.reduceEq, if_true, if_false, if_pos hs] at hr
      rw [hh]
      exact ⟨.inr rfl, rfl, hr⟩
    simp only [headBig, Int.reduceEq, if_true, if_false, if_neg hs] at hh
    simp only [h0, Int.reduceLT, Int.reduceLE, Int.reduceEq, if_true, if_false, if_neg hs] at hr
    rw [hh]
    exact .inr (.inr (.inr ⟨.inr rfl, rfl, fun h => absurd h (show ¬ (4 : Int) = 3 by decide), b8.1, by simp only []; omega, l.length - 9, hr, by simp only []; omega⟩))
  by_cases e208 : at_ l 0 = 208
  · have hh := hbig (by omega)
    rw [e208] at hh
    have hr : rdU64 l = rdU64 l := rfl
    conv at hr => rhs; unfold rdU64
    rw [e208] at hr
    by_cases hs : l.length < 2
    · refine .inr (.inl ?_)
      simp only [headBig, Int.reduceEq, if_true, if_false, if_pos hs] at hh
      simp only [h0, Int.reduceLT, Int.reduceLE, Int.reduceEq, if_true, if_false, if_pos hs] at hr
      rw [hh]
      exact ⟨.inl rfl, rfl, hr⟩
    simp only [headBig, Int.reduceEq, if_true, if_false, if_neg hs] at hh
    simp only [h0, Int.reduceLT, Int.reduceLE, Int.reduceEq, if_true, if_false, if_neg hs] at hr
    rw [hh]
    rw [sgn1]
    by_cases hv : at_ l 1 < 128
    · rw [if_pos hv] at hr ⊢
      exact .inr (.inr (.inr ⟨.inl rfl, rfl, fun _ => by simp only []; omega, b1.1, by simp only []; omega, l.length - 2, hr, by simp only []; omega⟩))
    · rw [if_neg hv] at hr ⊢
      exact .inr (.inr (.inl ⟨rfl, rfl, by simp only []; omega, by simp only []; omega, _, hr, rfl⟩))
  by_cases e209 : at_ l 0 = 209
  · have hh := hbig (by omega)
    rw [e209] at hh
    have hr : rdU64 l = rdU64 l := rfl
    conv at hr => rhs; unfold rdU64
    rw [e209] at hr
    by_cases hs : l.length < 3
    · refine .inr (.inl ?_)
      simp only [headBig, Int.reduceEq, if_true, if_false, if_pos hs] at hh
      simp only [h0, Int.reduceLT, Int.reduceLE, Int.reduceEq, if_true, if_false, if_pos hs] at hr
      rw [hh]
      exact ⟨.inl rfl, rfl, hr⟩
    simp only [headBig, Int.reduceEq, if_true, if_false, if_neg hs] at hh
    simp only [h0, Int.reduceLT, Int.reduceLE, Int.reduceEq, if_true, if_false, if_neg hs] at hr
    rw [hh]
    rw [sgn2]
    by_cases hv : be2 l 1 < 32768
    · rw [if_pos hv] at hr ⊢
      exact .inr (.inr (.inr ⟨.inl rfl, rfl, fun _ => by simp only []; omega, b2.1, by simp only []; omega, l.length - 3, hr, by simp only []; omega⟩))
    · rw [if_neg hv] at hr ⊢
      exact .inr (.inr (.inl ⟨rfl, rfl, by simp only []; omega, by simp only []; omega, _, hr, rfl⟩))
  by_cases e210 : at_ l 0 = 210
  · have hh := hbig (by omega)
    rw [e210] at hh
    have hr : rdU64 l = rdU64 l := rfl
    conv at hr => rhs; unfold rdU64
    rw [e210] at hr
    by_cases hs : l.length < 5
    · refine .inr (.inl ?_)
      simp only [headBig, Int.reduceEq, if_true, if_false, if_pos hs] at hh
      simp only [h0, Int.reduceLT, Int.reduceLE, Int.reduceEq, if_true, if_false, if_pos hs] at hr
      rw [hh]
      exact ⟨.inl rfl, rfl, hr⟩
    simp only [headBig, Int.reduceEq, if_true, if_false, if_neg hs] at hh
    simp only [h0, Int.reduceLT, Int.reduceLE, Int.reduceEq, if_true, if_false, if_neg hs] at hr
    rw [hh]
    rw [sgn4]
    by_cases hv : be4 l 1 < 2147483648
    · rw [if_pos hv] at hr ⊢
      exact .inr (.inr (.inr ⟨.inl rfl, rfl, fun _ => by simp only []; omega, b4.1, by simp only []; omega, l.length - 5, hr, by simp only []; omega⟩))
    · rw [if_neg hv] at hr ⊢
      exact .inr (.inr (.inl ⟨rfl, rfl, by simp only []; omega, by simp only []; omega, _, hr, rfl⟩))
  by_cases e211 : at_ l 0 = 211
  · have hh := hbig (by omega)
    rw [e211] at hh
    have hr : rdU64 l = rdU64 l := rfl
    conv at hr => rhs; unfold rdU64
    rw [e211] at hr
    by_cases hs : l.length < 9
    · refine .inr (.inl ?_)
      simp only [headBig, Int.reduceEq, if_true, if_false, if_pos hs] at hh
      simp only [h0, Int.reduceLT, Int.reduceLE, Int.reduceEq, if_true, if_false, if_pos hs] at hr
      rw [hh]
      exact ⟨.inl rfl, rfl, hr⟩
    simp only [headBig, Int.reduceEq, if_true, if_false, if_neg hs] at hh
    simp only [h0, Int.reduceLT, Int.reduceLE, Int.reduceEq, if_true, if_false, if_neg hs] at hr
    rw [hh]
    rw [sgn8]
    by_cases hv : be8 l 1 < 9223372036854775808
    · rw [if_pos hv] at hr
      exact .inr (.inr (.inr ⟨.inl rfl, rfl, fun _ => by simp only []; omega, b8.1, by simp only []; omega, l.length - 9, hr, by simp only []; omega⟩))
    · rw [if_neg hv] at hr
      exact .inr (.inr (.inl ⟨rfl, rfl, by simp only []; omega, by simp only []; omega, _, hr, rfl⟩))
  · refine .inl ?_
    have hk := headOf_noNum l h0 (by omega) (by omega) (by omega)
    exact ⟨hk.1, hk.2, _, by rw [rdU64, if_neg h0, if_neg h1, if_neg h2, if_neg e204, if_neg e205, if_neg e206, if_neg e207, if_neg e208, if_neg e209, if_neg e210, if_neg e211], right_bp l 9 h0 hc⟩

/-- In 8, 16 and 32 bits. -/
theorem narrowI8 (l : List Int) {k : Nat} {x : Int} {r : Er} (h : rdI64 l = (x, k, r)) : rdI8 l = if 127 < x ∨ x < -128 then (0, k, .iover x 8) else (x, k, r) := by rw [rdI8, h]
theorem narrowI16 (l : List Int) {k : Nat} {x : Int} {r : Er} (h : rdI64 l = (x, k, r)) : rdI16 l = if 32767 < x ∨ x < -32768 then (0, k, .iover x 16) else (x, k, r) := by rw [rdI16, h]
theorem narrowI32 (l : List Int) {k : Nat} {x : Int} {r : Er} (h : rdI64 l = (x, k, r)) : rdI32 l = if 2147483647 < x ∨ x < -2147483648 then (0, k, .iover x 32) else (x, k, r) := by rw [rdI32, h]
theorem narrowU8 (l : List Int) {k : Nat} {x : Int} {r : Er} (h : rdU64 l = (x, k, r)) : rdU8 l = if 255 < x then (0, 0, .uover x 8) else (x, k, r) := by rw [rdU8, h]
theorem narrowU16 (l : List Int) {k : Nat} {x : Int} {r : Er} (h : rdU64 l = (x, k, r)) : rdU16 l = if 65535 < x then (0, 0, .uover x 16) else (x, k, r) := by rw [rdU16, h]
theorem narrowU32 (l : List Int) {k : Nat} {x : Int} {r : Er} (h : rdU64 l = (x, k, r)) : rdU32 l = if 4294967295 < x then (0, 0, .uover x 32) else (x, k, r) := by rw [rdU32, h]
end Go.Proofs.YtmhilpnagpkkiaaDoor
