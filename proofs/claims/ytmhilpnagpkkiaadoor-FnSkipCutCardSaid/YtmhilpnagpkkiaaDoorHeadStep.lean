/- What the reference tells of an object's first bytes, beside what the package's getSize answers. No program is in sight. Conditions: none. -/
import Derived.Test.YtmhilpnagpkkiaaDoorSkipPlain
import Derived.Test.YtmhilpnagpkkiaaDoorKindPlain
namespace Go.Proofs.YtmhilpnagpkkiaaDoor
open Go
set_option linter.unusedVariables false

def totOf (h : Hd) : Nat := if h.kind = 7 ∨ h.kind = 8 ∨ h.kind = 11 then (h.size + h.length).toNat else h.size.toNat
def manyOf (h : Hd) : Nat := if h.kind = 9 then h.length.toNat else if h.kind = 10 then (2 * h.length).toNat else 0

/-- What the head tells fits what the step is. -/
def HS (l : List Int) (h : Hd) : Prop :=
  ((h.short = true ∨ h.kind = 0) ∧ ∃ r, step l = .error r) ∨
  (h.short = false ∧ 1 ≤ h.kind ∧ h.kind ≤ 11 ∧ 1 ≤ h.size ∧ h.size ≤ l.length ∧ 0 ≤ h.length ∧ h.length ≤ 4294967295 ∧ ((totOf h ≤ l.length ∧ step l = .ok (totOf h, manyOf h)) ∨ (l.length < totOf h ∧ step l = .error .short)))

theorem step_of_ok {l : List Int} {a b : Int} (h : gsz l = (a, b, .ok)) : step l = if (l.length : Int) < a then .error .short else .ok (a.toNat, b.toNat) := by
  unfold step; rw [h]; rfl
theorem hs_right {l : List Int} {k x len t s a b : Int} (hg : gsz l = (a, b, .ok)) (hk : 1 ≤ k ∧ k ≤ 11) (hs : 1 ≤ s ∧ s ≤ l.length) (hl : 0 ≤ len ∧ len ≤ 4294967295)
    (ha : a = if k = 7 ∨ k = 8 ∨ k = 11 then s + len else s) (hb : b = if k = 9 then len else if k = 10 then 2 * len else 0) : HS l ⟨k, x, len, t, s, false⟩ := by
  refine .inr ⟨rfl, hk.1, hk.2, hs.1, hs.2, hl.1, hl.2, ?_⟩
  have e1 : totOf ⟨k, x, len, t, s, false⟩ = a.toNat := by
    rw [ha]; unfold totOf; simp only []; split <;> rfl
  have e2 : manyOf ⟨k, x, len, t, s, false⟩ = b.toNat := by
    rw [hb]; unfold manyOf; simp only []; split
    · rfl
    · split <;> rfl
  have a0 : 0 ≤ a := by rw [ha]; split <;> omega
  rw [e1, e2, step_of_ok hg]
  by_cases h : (l.length : Int) < a
  · right; rw [if_pos h]; exact ⟨by omega, rfl⟩
  · left; rw [if_neg h]; exact ⟨by omega, rfl⟩
theorem hs_short {l : List Int} {k a b : Int} (hg : gsz l = (a, b, .ok)) (h : (l.length : Int) < a) : HS l ⟨k, 0, 0, 0, 0, true⟩ :=
  .inl ⟨.inl rfl, .short, by rw [step_of_ok hg, if_pos h]⟩
theorem hs_err {l : List Int} {k : Int} {r : Er} (hg : gsz l = (0, 0, r)) (hr : r.code ≠ 0) : HS l ⟨k, 0, 0, 0, 0, true⟩ :=
  .inl ⟨.inl rfl, r, by unfold step; rw [hg, if_pos hr]⟩
theorem gsz_of {l : List Int} {s m : Int} (h0 : ¬ l.length = 0) (hs : bsz (at_ l 0) = s) (hm : bex (at_ l 0) = m) (s0 : ¬ s = 0) : gsz l =
    if 0 ≤ m then (s, m, .ok) else if (l.length : Int) < s then (0, 0, .short) else
    if m = -1 then (s + at_ l 1, 0, .ok) else if m = -2 then (s + be2 l 1, 0, .ok) else if m = -3 then (s + be4 l 1, 0, .ok) else
    if m = -4 then (s, 2 * be2 l 1, .ok) else if m = -5 then (s, 2 * be4 l 1, .ok) else if m = -6 then (s, be2 l 1, .ok) else (s, be4 l 1, .ok) := by
  subst hs; subst hm
  unfold gsz
  rw [if_neg h0, if_neg s0]


theorem hs_196 (l : List Int) (hb : Byts l) (h0 : ¬ l.length = 0) (h : at_ l 0 = 196) : HS l (headOf l) := by
  have a1 := hb.at_ 1
  have a2 := be2_range hb 1
  have a4 := be4_range hb 1
  have g := gsz_of (s := 2) (m := -1) h0 (by rw [h]; rfl) (by rw [h]; rfl) (by decide)
  rw [headOf_bigK l h0 (by omega) (by omega), h]
  by_cases hs : l.length < 2
  · simp only [headBig, hs, if_true, if_false, Int.reduceEq]
    rw [if_neg (by decide), if_pos (by omega)] at g
    exact hs_err g (by decide)
  · simp only [headBig, hs, if_true, if_false, Int.reduceEq]
    rw [if_neg (by decide), if_neg (by omega)] at g
    simp only [Int.reduceEq, Int.reduceNeg, if_true, if_false] at g
    exact hs_right g (by decide) (by omega) (by omega) (by simp) (by simp)

theorem hs_197 (l : List Int) (hb : Byts l) (h0 : ¬ l.length = 0) (h : at_ l 0 = 197) : HS l (headOf l) := by
  have a1 := hb.at_ 1
  have a2 := be2_range hb 1
  have a4 := be4_range hb 1
  have g := gsz_of (s := 3) (m := -2) h0 (by rw [h]; rfl) (by rw [h]; rfl) (by decide)
  rw [headOf_bigK l h0 (by omega) (by omega), h]
  by_cases hs : l.length < 3
  · simp only [headBig, hs, if_true, if_false, Int.reduceEq]
    rw [if_neg (by decide), if_pos (by omega)] at g
    exact hs_err g (by decide)
  · simp only [headBig, hs, if_true, if_false, Int.reduceEq]
    rw [if_neg (by decide), if_neg (by omega)] at g
    simp only [Int.reduceEq, Int.reduceNeg, if_true, if_false] at g
    exact hs_right g (by decide) (by omega) (by omega) (by simp) (by simp)

theorem hs_198 (l : List Int) (hb : Byts l) (h0 : ¬ l.length = 0) (h : at_ l 0 = 198) : HS l (headOf l) := by
  have a1 := hb.at_ 1
  have a2 := be2_range hb 1
  have a4 := be4_range hb 1
  have g := gsz_of (s := 5) (m := -3) h0 (by rw [h]; rfl) (by rw [h]; rfl) (by decide)
  rw [headOf_bigK l h0 (by omega) (by omega), h]
  by_cases hs : l.length < 5
  · simp only [headBig, hs, if_true, if_false, Int.reduceEq]
    rw [if_neg (by decide), if_pos (by omega)] at g
    exact hs_err g (by decide)
  · simp only [headBig, hs, if_true, if_false, Int.reduceEq]
    rw [if_neg (by decide), if_neg (by omega)] at g
    simp only [Int.reduceEq, Int.reduceNeg, if_true, if_false] at g
    exact hs_right g (by decide) (by omega) (by omega) (by simp) (by simp)

theorem hs_199 (l : List Int) (hb : Byts l) (h0 : ¬ l.length = 0) (h : at_ l 0 = 199) : HS l (headOf l) := by
  have a1 := hb.at_ 1
  have a2 := be2_range hb 1
  have a4 := be4_range hb 1
  have g := gsz_of (s := 3) (m := -1) h0 (by rw [h]; rfl) (by rw [h]; rfl) (by decide)
  rw [headOf_bigK l h0 (by omega) (by omega), h]
  by_cases hs : l.length < 3
  · simp only [headBig, hs, if_true, if_false, Int.reduceEq]
    rw [if_neg (by decide), if_pos (by omega)] at g
    exact hs_err g (by decide)
  · simp only [headBig, hs, if_true, if_false, Int.reduceEq]
    rw [if_neg (by decide), if_neg (by omega)] at g
    simp only [Int.reduceEq, Int.reduceNeg, if_true, if_false] at g
    exact hs_right g (by decide) (by omega) (by omega) (by simp) (by simp)

theorem hs_200 (l : List Int) (hb : Byts l) (h0 : ¬ l.length = 0) (h : at_ l 0 = 200) : HS l (headOf l) := by
  have a1 := hb.at_ 1
  have a2 := be2_range hb 1
  have a4 := be4_range hb 1
  have g := gsz_of (s := 4) (m := -2) h0 (by rw [h]; rfl) (by rw [h]; rfl) (by decide)
  rw [headOf_bigK l h0 (by omega) (by omega), h]
  by_cases hs : l.length < 4
  · simp only [headBig, hs, if_true, if_false, Int.reduceEq]
    rw [if_neg (by decide), if_pos (by omega)] at g
    exact hs_err g (by decide)
  · simp only [headBig, hs, if_true, if_false, Int.reduceEq]
    rw [if_neg (by decide), if_neg (by omega)] at g
    simp only [Int.reduceEq, Int.reduceNeg, if_true, if_false] at g
    exact hs_right g (by decide) (by omega) (by omega) (by simp) (by simp)

theorem hs_201 (l : List Int) (hb : Byts l) (h0 : ¬ l.length = 0) (h : at_ l 0 = 201) : HS l (headOf l) := by
  have a1 := hb.at_ 1
  have a2 := be2_range hb 1
  have a4 := be4_range hb 1
  have g := gsz_of (s := 6) (m := -3) h0 (by rw [h]; rfl) (by rw [h]; rfl) (by decide)
  rw [headOf_bigK l h0 (by omega) (by omega), h]
  by_cases hs : l.length < 6
  · simp only [headBig, hs, if_true, if_false, Int.reduceEq]
    rw [if_neg (by decide), if_pos (by omega)] at g
    exact hs_err g (by decide)
  · simp only [headBig, hs, if_true, if_false, Int.reduceEq]
    rw [if_neg (by decide), if_neg (by omega)] at g
    simp only [Int.reduceEq, Int.reduceNeg, if_true, if_false] at g
    exact hs_right g (by decide) (by omega) (by omega) (by simp) (by simp)

theorem hs_202 (l : List Int) (hb : Byts l) (h0 : ¬ l.length = 0) (h : at_ l 0 = 202) : HS l (headOf l) := by
  have a1 := hb.at_ 1
  have a2 := be2_range hb 1
  have a4 := be4_range hb 1
  have g := gsz_of (s := 5) (m := 0) h0 (by rw [h]; rfl) (by rw [h]; rfl) (by decide)
  rw [headOf_bigK l h0 (by omega) (by omega), h]
  by_cases hs : l.length < 5
  · simp only [headBig, hs, if_true, if_false, Int.reduceEq]
    rw [if_pos (by decide)] at g
    exact hs_short g (by omega)
  · simp only [headBig, hs, if_true, if_false, Int.reduceEq]
    rw [if_pos (by decide)] at g
    exact hs_right g (by decide) (by omega) (by omega) (by simp) (by simp)

theorem hs_203 (l : List Int) (hb : Byts l) (h0 : ¬ l.length = 0) (h : at_ l 0 = 203) : HS l (headOf l) := by
  have a1 := hb.at_ 1
  have a2 := be2_range hb 1
  have a4 := be4_range hb 1
  have g := gsz_of (s := 9) (m := 0) h0 (by rw [h]; rfl) (by rw [h]; rfl) (by decide)
  rw [headOf_bigK l h0 (by omega) (by omega), h]
  by_cases hs : l.length < 9
  · simp only [headBig, hs, if_true, if_false, Int.reduceEq]
    rw [if_pos (by decide)] at g
    exact hs_short g (by omega)
  · simp only [headBig, hs, if_true, if_false, Int.reduceEq]
    rw [if_pos (by decide)] at g
    exact hs_right g (by decide) (by omega) (by omega) (by simp) (by simp)

theorem hs_204 (l : List Int) (hb : Byts l) (h0 : ¬ l.length = 0) (h : at_ l 0 = 204) : HS l (headOf l) := by
  have a1 := hb.at_ 1
  have a2 := be2_range hb 1
  have a4 := be4_range hb 1
  have g := gsz_of (s := 2) (m := 0) h0 (by rw [h]; rfl) (by rw [h]; rfl) (by decide)
  rw [headOf_bigK l h0 (by omega) (by omega), h]
  by_cases hs : l.length < 2
  · simp only [headBig, hs, if_true, if_false, Int.reduceEq]
    rw [if_pos (by decide)] at g
    exact hs_short g (by omega)
  · simp only [headBig, hs, if_true, if_false, Int.reduceEq]
    rw [if_pos (by decide)] at g
    exact hs_right g (by decide) (by omega) (by omega) (by simp) (by simp)

theorem hs_205 (l : List Int) (hb : Byts l) (h0 : ¬ l.length = 0) (h : at_ l 0 = 205) : HS l (headOf l) := by
  have a1 := hb.at_ 1
  have a2 := be2_range hb 1
  have a4 := be4_range hb 1
  have g := gsz_of (s := 3) (m := 0) h0 (by rw [h]; rfl) (by rw [h]; rfl) (by decide)
  rw [headOf_bigK l h0 (by omega) (by omega), h]
  by_cases hs : l.length < 3
  · simp only [headBig, hs, if_true, if_false, Int.reduceEq]
    rw [if_pos (by decide)] at g
    exact hs_short g (by omega)
  · simp only [headBig, hs, if_true, if_false, Int.reduceEq]
    rw [if_pos (by decide)] at g
    exact hs_right g (by decide) (by omega) (by omega) (by simp) (by simp)

theorem hs_206 (l : List Int) (hb : Byts l) (h0 : ¬ l.length = 0) (h : at_ l 0 = 206) : HS l (headOf l) := by
  have a1 := hb.at_ 1
  have a2 := be2_range hb 1
  have a4 := be4_range hb 1
  have g := gsz_of (s := 5) (m := 0) h0 (by rw [h]; rfl) (by rw [h]; rfl) (by decide)
  rw [headOf_bigK l h0 (by omega) (by omega), h]
  by_cases hs : l.length < 5
  · simp only [headBig, hs, if_true, if_false, Int.reduceEq]
    rw [if_pos (by decide)] at g
    exact hs_short g (by omega)
  · simp only [headBig, hs, if_true, if_false, Int.reduceEq]
    rw [if_pos (by decide)] at g
    exact hs_right g (by decide) (by omega) (by omega) (by simp) (by simp)

theorem hs_207 (l : List Int) (hb : Byts l) (h0 : ¬ l.length = 0) (h : at_ l 0 = 207) : HS l (headOf l) := by
  have a1 := hb.at_ 1
  have a2 := be2_range hb 1
  have a4 := be4_range hb 1
  have g := gsz_of (s := 9) (m := 0) h0 (by rw [h]; rfl) (by rw [h]; rfl) (by decide)
  rw [headOf_bigK l h0 (by omega) (by omega), h]
  by_cases hs : l.length < 9
  · simp only [headBig, hs, if_true, if_false, Int.reduceEq]
    rw [if_pos (by decide)] at g
    exact hs_short g (by omega)
  · simp only [headBig, hs, if_true, if_false, Int.reduceEq]
    rw [if_pos (by decide)] at g
    exact hs_right g (by decide) (by omega) (by omega) (by simp) (by simp)

theorem hs_208 (l : List Int) (hb : Byts l) (h0 : ¬ l.length = 0) (h : at_ l 0 = 208) : HS l (headOf l) := by
  have a1 := hb.at_ 1
  have a2 := be2_range hb 1
  have a4 := be4_range hb 1
  have g := gsz_of (s := 2) (m := 0) h0 (by rw [h]; rfl) (by rw [h]; rfl) (by decide)
  rw [headOf_bigK l h0 (by omega) (by omega), h]
  by_cases hs : l.length < 2
  · simp only [headBig, hs, if_true, if_false, Int.reduceEq]
    rw [if_pos (by decide)] at g
    exact hs_short g (by omega)
  · simp only [headBig, hs, if_true, if_false, Int.reduceEq]
    rw [if_pos (by decide)] at g
    exact hs_right g (by decide) (by omega) (by omega) (by simp) (by simp)

theorem hs_209 (l : List Int) (hb : Byts l) (h0 : ¬ l.length = 0) (h : at_ l 0 = 209) : HS l (headOf l) := by
  have a1 := hb.at_ 1
  have a2 := be2_range hb 1
  have a4 := be4_range hb 1
  have g := gsz_of (s := 3) (m := 0) h0 (by rw [h]; rfl) (by rw [h]; rfl) (by decide)
  rw [headOf_bigK l h0 (by omega) (by omega), h]
  by_cases hs : l.length < 3
  · simp only [headBig, hs, if_true, if_false, Int.reduceEq]
    rw [if_pos (by decide)] at g
    exact hs_short g (by omega)
  · simp only [headBig, hs, if_true, if_false, Int.reduceEq]
    rw [if_pos (by decide)] at g
    exact hs_right g (by decide) (by omega) (by omega) (by simp) (by simp)

theorem hs_210 (l : List Int) (hb : Byts l) (h0 : ¬ l.length = 0) (h : at_ l 0 = 210) : HS l (headOf l) := by
  have a1 := hb.at_ 1
  have a2 := be2_range hb 1
  have a4 := be4_range hb 1
  have g := gsz_of (s := 5) (m := 0) h0 (by rw [h]; rfl) (by rw [h]; rfl) (by decide)
  rw [headOf_bigK l h0 (by omega) (by omega), h]
  by_cases hs : l.length < 5
  · simp only [headBig, hs, if_true, if_false, Int.reduceEq]
    rw [if_pos (by decide)] at g
    exact hs_short g (by omega)
  · simp only [headBig, hs, if_true, if_false, Int.reduceEq]
    rw [if_pos (by decide)] at g
    exact hs_right g (by decide) (by omega) (by omega) (by simp) (by simp)

theorem hs_211 (l : List Int) (hb : Byts l) (h0 : ¬ l.length = 0) (h : at_ l 0 = 211) : HS l (headOf l) := by
  have a1 := hb.at_ 1
  have a2 := be2_range hb 1
  have a4 := be4_range hb 1
  have g := gsz_of (s := 9) (m := 0) h0 (by rw [h]; rfl) (by rw [h]; rfl) (by decide)
  rw [headOf_bigK l h0 (by omega) (by omega), h]
  by_cases hs : l.length < 9
  · simp only [headBig, hs, if_true, if_false, Int.reduceEq]
    rw [if_pos (by decide)] at g
    exact hs_short g (by omega)
  · simp only [headBig, hs, if_true, if_false, Int.reduceEq]
    rw [if_pos (by decide)] at g
    exact hs_right g (by decide) (by omega) (by omega) (by simp) (by simp)

theorem hs_212 (l : List Int) (hb : Byts l) (h0 : ¬ l.length = 0) (h : at_ l 0 = 212) : HS l (headOf l) := by
  have a1 := hb.at_ 1
  have a2 := be2_range hb 1
  have a4 := be4_range hb 1
  have g := gsz_of (s := 3) (m := 0) h0 (by rw [h]; rfl) (by rw [h]; rfl) (by decide)
  rw [headOf_bigK l h0 (by omega) (by omega), h]
  by_cases hs : l.length < 2
  · simp only [headBig, hs, if_true, if_false, Int.reduceEq]
    rw [if_pos (by decide)] at g
    exact hs_short g (by omega)
  · simp only [headBig, hs, if_true, if_false, Int.reduceEq]
    rw [if_pos (by decide)] at g
    exact hs_right g (by decide) (by omega) (by omega) (by simp) (by simp)

theorem hs_213 (l : List Int) (hb : Byts l) (h0 : ¬ l.length = 0) (h : at_ l 0 = 213) : HS l (headOf l) := by
  have a1 := hb.at_ 1
  have a2 := be2_range hb 1
  have a4 := be4_range hb 1
  have g := gsz_of (s := 4) (m := 0) h0 (by rw [h]; rfl) (by rw [h]; rfl) (by decide)
  rw [headOf_bigK l h0 (by omega) (by omega), h]
  by_cases hs : l.length < 2
  · simp only [headBig, hs, if_true, if_false, Int.reduceEq]
    rw [if_pos (by decide)] at g
    exact hs_short g (by omega)
  · simp only [headBig, hs, if_true, if_false, Int.reduceEq]
    rw [if_pos (by decide)] at g
    exact hs_right g (by decide) (by omega) (by omega) (by simp) (by simp)

theorem hs_214 (l : List Int) (hb : Byts l) (h0 : ¬ l.length = 0) (h : at_ l 0 = 214) : HS l (headOf l) := by
  have a1 := hb.at_ 1
  have a2 := be2_range hb 1
  have a4 := be4_range hb 1
  have g := gsz_of (s := 6) (m := 0) h0 (by rw [h]; rfl) (by rw [h]; rfl) (by decide)
  rw [headOf_bigK l h0 (by omega) (by omega), h]
  by_cases hs : l.length < 2
  · simp only [headBig, hs, if_true, if_false, Int.reduceEq]
    rw [if_pos (by decide)] at g
    exact hs_short g (by omega)
  · simp only [headBig, hs, if_true, if_false, Int.reduceEq]
    rw [if_pos (by decide)] at g
    exact hs_right g (by decide) (by omega) (by omega) (by simp) (by simp)

theorem hs_215 (l : List Int) (hb : Byts l) (h0 : ¬ l.length = 0) (h : at_ l 0 = 215) : HS l (headOf l) := by
  have a1 := hb.at_ 1
  have a2 := be2_range hb 1
  have a4 := be4_range hb 1
  have g := gsz_of (s := 10) (m := 0) h0 (by rw [h]; rfl) (by rw [h]; rfl) (by decide)
  rw [headOf_bigK l h0 (by omega) (by omega), h]
  by_cases hs : l.length < 2
  · simp only [headBig, hs, if_true, if_false, Int.reduceEq]
    rw [if_pos (by decide)] at g
    exact hs_short g (by omega)
  · simp only [headBig, hs, if_true, if_false, Int.reduceEq]
    rw [if_pos (by decide)] at g
    exact hs_right g (by decide) (by omega) (by omega) (by simp) (by simp)

theorem hs_216 (l : List Int) (hb : Byts l) (h0 : ¬ l.length = 0) (h : at_ l 0 = 216) : HS l (headOf l) := by
  have a1 := hb.at_ 1
  have a2 := be2_range hb 1
  have a4 := be4_range hb 1
  have g := gsz_of (s := 18) (m := 0) h0 (by rw [h]; rfl) (by rw [h]; rfl) (by decide)
  rw [headOf_bigK l h0 (by omega) (by omega), h]
  by_cases hs : l.length < 2
  · simp only [headBig, hs, if_true, if_false, Int.reduceEq]
    rw [if_pos (by decide)] at g
    exact hs_short g (by omega)
  · simp only [headBig, hs, if_true, if_false, Int.reduceEq]
    rw [if_pos (by decide)] at g
    exact hs_right g (by decide) (by omega) (by omega) (by simp) (by simp)

theorem hs_217 (l : List Int) (hb : Byts l) (h0 : ¬ l.length = 0) (h : at_ l 0 = 217) : HS l (headOf l) := by
  have a1 := hb.at_ 1
  have a2 := be2_range hb 1
  have a4 := be4_range hb 1
  have g := gsz_of (s := 2) (m := -1) h0 (by rw [h]; rfl) (by rw [h]; rfl) (by decide)
  rw [headOf_bigK l h0 (by omega) (by omega), h]
  by_cases hs : l.length < 2
  · simp only [headBig, hs, if_true, if_false, Int.reduceEq]
    rw [if_neg (by decide), if_pos (by omega)] at g
    exact hs_err g (by decide)
  · simp only [headBig, hs, if_true, if_false, Int.reduceEq]
    rw [if_neg (by decide), if_neg (by omega)] at g
    simp only [Int.reduceEq, Int.reduceNeg, if_true, if_false] at g
    exact hs_right g (by decide) (by omega) (by omega) (by simp) (by simp)

theorem hs_218 (l : List Int) (hb : Byts l) (h0 : ¬ l.length = 0) (h : at_ l 0 = 218) : HS l (headOf l) := by
  have a1 := hb.at_ 1
  have a2 := be2_range hb 1
  have a4 := be4_range hb 1
  have g := gsz_of (s := 3) (m := -2) h0 (by rw [h]; rfl) (by rw [h]; rfl) (by decide)
  rw [headOf_bigK l h0 (by omega) (by omega), h]
  by_cases hs : l.length < 3
  · simp only [headBig, hs, if_true, if_false, Int.reduceEq]
    rw [if_neg (by decide), if_pos (by omega)] at g
    exact hs_err g (by decide)
  · simp only [headBig, hs, if_true, if_false, Int.reduceEq]
    rw [if_neg (by decide), if_neg (by omega)] at g
    simp only [Int.reduceEq, Int.reduceNeg, if_true, if_false] at g
    exact hs_right g (by decide) (by omega) (by omega) (by simp) (by simp)

theorem hs_219 (l : List Int) (hb : Byts l) (h0 : ¬ l.length = 0) (h : at_ l 0 = 219) : HS l (headOf l) := by
  have a1 := hb.at_ 1
  have a2 := be2_range hb 1
  have a4 := be4_range hb 1
  have g := gsz_of (s := 5) (m := -3) h0 (by rw [h]; rfl) (by rw [h]; rfl) (by decide)
  rw [headOf_bigK l h0 (by omega) (by omega), h]
  by_cases hs : l.length < 5
  · simp only [headBig, hs, if_true, if_false, Int.reduceEq]
    rw [if_neg (by decide), if_pos (by omega)] at g
    exact hs_err g (by decide)
  · simp only [headBig, hs, if_true, if_false, Int.reduceEq]
    rw [if_neg (by decide), if_neg (by omega)] at g
    simp only [Int.reduceEq, Int.reduceNeg, if_true, if_false] at g
    exact hs_right g (by decide) (by omega) (by omega) (by simp) (by simp)

theorem hs_220 (l : List Int) (hb : Byts l) (h0 : ¬ l.length = 0) (h : at_ l 0 = 220) : HS l (headOf l) := by
  have a1 := hb.at_ 1
  have a2 := be2_range hb 1
  have a4 := be4_range hb 1
  have g := gsz_of (s := 3) (m := -6) h0 (by rw [h]; rfl) (by rw [h]; rfl) (by decide)
  rw [headOf_bigK l h0 (by omega) (by omega), h]
  by_cases hs : l.length < 3
  · simp only [headBig, hs, if_true, if_false, Int.reduceEq]
    rw [if_neg (by decide), if_pos (by omega)] at g
    exact hs_err g (by decide)
  · simp only [headBig, hs, if_true, if_false, Int.reduceEq]
    rw [if_neg (by decide), if_neg (by omega)] at g
    simp only [Int.reduceEq, Int.reduceNeg, if_true, if_false] at g
    exact hs_right g (by decide) (by omega) (by omega) (by simp) (by simp)

theorem hs_221 (l : List Int) (hb : Byts l) (h0 : ¬ l.length = 0) (h : at_ l 0 = 221) : HS l (headOf l) := by
  have a1 := hb.at_ 1
  have a2 := be2_range hb 1
  have a4 := be4_range hb 1
  have g := gsz_of (s := 5) (m := -7) h0 (by rw [h]; rfl) (by rw [h]; rfl) (by decide)
  rw [headOf_bigK l h0 (by omega) (by omega), h]
  by_cases hs : l.length < 5
  · simp only [headBig, hs, if_true, if_false, Int.reduceEq]
    rw [if_neg (by decide), if_pos (by omega)] at g
    exact hs_err g (by decide)
  · simp only [headBig, hs, if_true, if_false, Int.reduceEq]
    rw [if_neg (by decide), if_neg (by omega)] at g
    simp only [Int.reduceEq, Int.reduceNeg, if_false] at g
    exact hs_right g (by decide) (by omega) (by omega) (by simp) (by simp)

theorem hs_222 (l : List Int) (hb : Byts l) (h0 : ¬ l.length = 0) (h : at_ l 0 = 222) : HS l (headOf l) := by
  have a1 := hb.at_ 1
  have a2 := be2_range hb 1
  have a4 := be4_range hb 1
  have g := gsz_of (s := 3) (m := -4) h0 (by rw [h]; rfl) (by rw [h]; rfl) (by decide)
  rw [headOf_bigK l h0 (by omega) (by omega), h]
  by_cases hs : l.length < 3
  · simp only [headBig, hs, if_true, if_false, Int.reduceEq]
    rw [if_neg (by decide), if_pos (by omega)] at g
    exact hs_err g (by decide)
  · simp only [headBig, hs, if_true, if_false, Int.reduceEq]
    rw [if_neg (by decide), if_neg (by omega)] at g
    simp only [Int.reduceEq, Int.reduceNeg, if_true, if_false] at g
    exact hs_right g (by decide) (by omega) (by omega) (by simp) (by simp)

theorem hs_223 (l : List Int) (hb : Byts l) (h0 : ¬ l.length = 0) (h : at_ l 0 = 223) : HS l (headOf l) := by
  have a1 := hb.at_ 1
  have a2 := be2_range hb 1
  have a4 := be4_range hb 1
  have g := gsz_of (s := 5) (m := -5) h0 (by rw [h]; rfl) (by rw [h]; rfl) (by decide)
  rw [headOf_bigK l h0 (by omega) (by omega), h]
  by_cases hs : l.length < 5
  · simp only [headBig, hs, if_true, if_false, Int.reduceEq]
    rw [if_neg (by decide), if_pos (by omega)] at g
    exact hs_err g (by decide)
  · simp only [headBig, hs, if_true, if_false, Int.reduceEq]
    rw [if_neg (by decide), if_neg (by omega)] at g
    simp only [Int.reduceEq, Int.reduceNeg, if_true, if_false] at g
    exact hs_right g (by decide) (by omega) (by omega) (by simp) (by simp)

theorem bsz_193 : bsz 193 = 0 := by rfl
theorem rng_lt128 (c : Int) (h0 : 0 ≤ c) (h1 : c < 128) : bsz c = 1 ∧ bex c = 0 := by
  unfold bsz bex; exact ⟨by rw [if_pos (by omega)], by rw [if_pos (by omega)]⟩
theorem rng_map (c : Int) (h0 : 128 ≤ c) (h1 : c < 144) : bsz c = 1 ∧ bex c = 2 * (c % 16) := by
  unfold bsz bex; exact ⟨by rw [if_pos (by omega)], by rw [if_neg (by omega), if_pos (by omega)]⟩
theorem rng_arr (c : Int) (h0 : 144 ≤ c) (h1 : c < 160) : bsz c = 1 ∧ bex c = c % 16 := by
  unfold bsz bex; exact ⟨by rw [if_pos (by omega)], by rw [if_neg (by omega), if_neg (by omega), if_pos (by omega)]⟩
theorem rng_all : ∀ y : Fin 256, (160 ≤ y.val ∧ y.val < 192 → bsz (y.val : Int) = 1 + (y.val : Int) % 32 ∧ bex (y.val : Int) = 0) ∧ (224 ≤ y.val → bsz (y.val : Int) = 1 ∧ bex (y.val : Int) = 0) := by decide +kernel
theorem rng_str (c : Int) (h0 : 160 ≤ c) (h1 : c < 192) : bsz c = 1 + c % 32 ∧ bex c = 0 := by
  have := (rng_all ⟨c.toNat, by omega⟩).1
  simp only at this
  rw [show ((c.toNat : Nat) : Int) = c from Int.toNat_of_nonneg (by omega)] at this
  exact this ⟨by omega, by omega⟩
theorem rng_nfix (c : Int) (h0 : 224 ≤ c) (h1 : c < 256) : bsz c = 1 ∧ bex c = 0 := by
  have := (rng_all ⟨c.toNat, by omega⟩).2
  simp only at this
  rw [show ((c.toNat : Nat) : Int) = c from Int.toNat_of_nonneg (by omega)] at this
  exact this (by omega)

theorem head_step (l : List Int) (hb : Byts l) : HS l (headOf l) := by
  have hc := hb.at_ 0
  by_cases h0 : l.length = 0
  · rw [headOf, if_pos h0]
    exact hs_err (r := .short) (by unfold gsz; rw [if_pos h0]) (by decide)
  have hp : 1 ≤ (l.length : Int) := by omega
  by_cases c1 : at_ l 0 < 128
  · obtain ⟨e1, e2⟩ := rng_lt128 _ hc.1 c1
    have g := gsz_of h0 e1 e2 (by decide)
    rw [if_pos (by omega)] at g
    rw [headOf, if_neg h0, if_pos c1]
    exact hs_right g (by decide) (by omega) (by decide) (by simp) (by simp)
  by_cases c2 : at_ l 0 < 144
  · obtain ⟨e1, e2⟩ := rng_map _ (by omega) c2
    have g := gsz_of h0 e1 e2 (by decide)
    rw [if_pos (by omega)] at g
    rw [headOf, if_neg h0, if_neg c1, if_pos c2]
    exact hs_right g (by decide) (by omega) (by omega) (by simp) (by simp)
  by_cases c3 : at_ l 0 < 160
  · obtain ⟨e1, e2⟩ := rng_arr _ (by omega) c3
    have g := gsz_of h0 e1 e2 (by decide)
    rw [if_pos (by omega)] at g
    rw [headOf, if_neg h0, if_neg c1, if_neg c2, if_pos c3]
    exact hs_right g (by decide) (by omega) (by omega) (by simp) (by simp)
  by_cases c4 : at_ l 0 < 192
  · obtain ⟨e1, e2⟩ := rng_str _ (by omega) c4
    have g := gsz_of h0 e1 e2 (by omega)
    rw [if_pos (by omega)] at g
    rw [headOf, if_neg h0, if_neg c1, if_neg c2, if_neg c3, if_pos c4]
    exact hs_right g (by decide) (by omega) (by omega) (by simp) (by simp)
  by_cases c5 : 224 ≤ at_ l 0
  · obtain ⟨e1, e2⟩ := rng_nfix _ c5 hc.2
    have g := gsz_of h0 e1 e2 (by decide)
    rw [if_pos (by omega)] at g
    rw [headOf, if_neg h0, if_neg c1, if_neg c2, if_neg c3, if_neg c4, if_pos c5]
    exact hs_right g (by decide) (by omega) (by decide) (by simp) (by simp)
  by_cases c6 : at_ l 0 = 192
  · have g := gsz_of (s := 1) (m := 0) h0 (by rw [c6]; rfl) (by rw [c6]; rfl) (by decide)
    rw [if_pos (by omega)] at g
    rw [headOf, if_neg h0, if_neg c1, if_neg c2, if_neg c3, if_neg c4, if_neg c5, if_pos c6]
    exact hs_right g (by decide) (by omega) (by decide) (by simp) (by simp)
  by_cases c7 : at_ l 0 = 193
  · have e : gsz l = (0, 0, .pre 193) := by unfold gsz; rw [if_neg h0, c7, if_pos bsz_193]
    rw [headOf, if_neg h0, if_neg c1, if_neg c2, if_neg c3, if_neg c4, if_neg c5, if_neg c6, if_pos c7]
    exact .inl ⟨.inr rfl, .pre 193, by unfold step; rw [e, if_pos (by decide)]⟩
  by_cases c8 : at_ l 0 < 196
  · have hq : at_ l 0 = 194 ∨ at_ l 0 = 195 := by omega
    have g := gsz_of (s := 1) (m := 0) h0 (by rcases hq with q | q <;> (rw [q]; rfl)) (by rcases hq with q | q <;> (rw [q]; rfl)) (by decide)
    rw [if_pos (by omega)] at g
    rw [headOf, if_neg h0, if_neg c1, if_neg c2, if_neg c3, if_neg c4, if_neg c5, if_neg c6, if_neg c7, if_pos c8]
    exact hs_right g (by decide) (by omega) (by decide) (by simp) (by simp)
  have hq : at_ l 0 = 196 ∨ at_ l 0 = 197 ∨ at_ l 0 = 198 ∨ at_ l 0 = 199 ∨ at_ l 0 = 200 ∨ at_ l 0 = 201 ∨ at_ l 0 = 202 ∨ at_ l 0 = 203 ∨ at_ l 0 = 204 ∨ at_ l 0 = 205 ∨ at_ l 0 = 206 ∨ at_ l 0 = 207 ∨ at_ l 0 = 208 ∨ at_ l 0 = 209 ∨ at_ l 0 = 210 ∨ at_ l 0 = 211 ∨ at_ l 0 = 212 ∨ at_ l 0 = 213 ∨ at_ l 0 = 214 ∨ at_ l 0 = 215 ∨ at_ l 0 = 216 ∨ at_ l 0 = 217 ∨ at_ l 0 = 218 ∨ at_ l 0 = 219 ∨ at_ l 0 = 220 ∨ at_ l 0 = 221 ∨ at_ l 0 = 222 ∨ at_ l 0 = 223 := by omega
  rcases hq with h | h | h | h | h | h | h | h | h | h | h | h | h | h | h | h | h | h | h | h | h | h | h | h | h | h | h | h
  · exact hs_196 l hb h0 h
  · exact hs_197 l hb h0 h
  · exact hs_198 l hb h0 h
  · exact hs_199 l hb h0 h
  · exact hs_200 l hb h0 h
  · exact hs_201 l hb h0 h
  · exact hs_202 l hb h0 h
  · exact hs_203 l hb h0 h
  · exact hs_204 l hb h0 h
  · exact hs_205 l hb h0 h
  · exact hs_206 l hb h0 h
  · exact hs_207 l hb h0 h
  · exact hs_208 l hb h0 h
  · exact hs_209 l hb h0 h
  · exact hs_210 l hb h0 h
  · exact hs_211 l hb h0 h
  · exact hs_212 l hb h0 h
  · exact hs_213 l hb h0 h
  · exact hs_214 l hb h0 h
  · exact hs_215 l hb h0 h
  · exact hs_216 l hb h0 h
  · exact hs_217 l hb h0 h
  · exact hs_218 l hb h0 h
  · exact hs_219 l hb h0 h
  · exact hs_220 l hb h0 h
  · exact hs_221 l hb h0 h
  · exact hs_222 l hb h0 h
  · exact hs_223 l hb h0 h
end Go.Proofs.YtmhilpnagpkkiaaDoor
