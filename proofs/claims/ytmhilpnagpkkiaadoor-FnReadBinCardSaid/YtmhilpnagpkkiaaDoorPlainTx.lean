/- What the reference tells of a text's, or of bytes' own, first bytes, beside what the package's readers answer. No program is in sight. Conditions: none. -/
import Derived.Test.YtmhilpnagpkkiaaDoorTextR
import Derived.Test.YtmhilpnagpkkiaaDoorBinR
import Derived.Test.YtmhilpnagpkkiaaDoorFails
import Derived.Test.YtmhilpnagpkkiaaDoorKindPlain
namespace Go.Proofs.YtmhilpnagpkkiaaDoor
open Go
set_option linter.unusedVariables false

/-- What is told and what is read, of one kind K. -/
def PlainTx (K : Int) (l : List Int) (h : Hd) (R : List Int × Nat × Er) : Prop :=
  (h.kind ≠ K ∧ ∃ r, R = ([], 0, r) ∧ failsB l.length h.kind r.code = true) ∨
  (h.kind = K ∧ h.short = true ∧ R = ([], 0, .short)) ∨
  (h.kind = K ∧ h.short = false ∧ ∃ s m : Nat, h.size = s ∧ h.length = m ∧ s ≤ l.length ∧ m ≤ 4294967295 ∧ ((l.length < s + m ∧ R = ([], 0, .short)) ∨ (s + m ≤ l.length ∧ R = ((l.drop s).take m, l.length - s - m, .ok))))

theorem plain_body (K : Int) (l : List Int) (x : Int) (s : Nat) (h0 : 0 ≤ x) (h1 : x ≤ 4294967295) (hs : s ≤ l.length) : PlainTx K l ⟨K, 0, x, 0, s, false⟩ (bodyOf l (s, x, .ok)) := by
  refine .inr (.inr ⟨rfl, rfl, s, x.toNat, rfl, by show x = _; omega, hs, by omega, ?_⟩)
  by_cases hv : (l.length : Int) - s < x
  · exact .inl ⟨by omega, bodyOf_short l s x hv⟩
  · exact .inr ⟨by omega, bodyOf_ok l s x hv⟩
theorem plain_none (K : Int) (l : List Int) : PlainTx K l ⟨K, 0, 0, 0, 0, true⟩ (bodyOf l (0, 0, .short)) :=
  .inr (.inl ⟨rfl, rfl, bodyOf_err l 0 0 .short (by decide)⟩)

theorem plainStr (l : List Int) (hb : Byts l) : PlainTx 7 l (headOf l) (rdStr l) := by
  unfold rdStr strH
  by_cases h0 : l.length = 0
  · rw [if_pos h0, bodyOf_err _ _ _ _ (by decide)]
    refine .inl ⟨?_, .short, rfl, ?_⟩
    · rw [headOf, if_pos h0]; decide
    · rw [h0]; exact fails_none _
  have hc := hb.at_ 0
  have a1 := hb.at_ 1
  have a2 := be2_range hb 1
  have a4 := be4_range hb 1
  rw [if_neg h0]
  by_cases h1 : 160 ≤ at_ l 0 ∧ at_ l 0 < 192
  · have e : headOf l = ⟨7, 0, at_ l 0 % 32, 0, 1, false⟩ := by rw [headOf, if_neg h0, if_neg (by omega), if_neg (by omega), if_neg (by omega), if_pos (by omega)]
    rw [e, if_pos h1]
    exact plain_body 7 l _ 1 (by omega) (by omega) (by omega)
  rw [if_neg h1]
  by_cases h217 : at_ l 0 = 217
  · rw [if_pos h217, headOf_bigK l h0 (by omega) (by omega), h217]
    by_cases hs : l.length < 2
    · simp only [headBig, hs, if_true, if_false, Int.reduceEq]; exact plain_none 7 l
    · simp only [headBig, hs, if_true, if_false, Int.reduceEq]; exact plain_body 7 l _ 2 (by omega) (by omega) (by omega)
  rw [if_neg h217]
  by_cases h218 : at_ l 0 = 218
  · rw [if_pos h218, headOf_bigK l h0 (by omega) (by omega), h218]
    by_cases hs : l.length < 3
    · simp only [headBig, hs, if_true, if_false, Int.reduceEq]; exact plain_none 7 l
    · simp only [headBig, hs, if_true, if_false, Int.reduceEq]; exact plain_body 7 l _ 3 (by omega) (by omega) (by omega)
  rw [if_neg h218]
  by_cases h219 : at_ l 0 = 219
  · rw [if_pos h219, headOf_bigK l h0 (by omega) (by omega), h219]
    by_cases hs : l.length < 5
    · simp only [headBig, hs, if_true, if_false, Int.reduceEq]; exact plain_none 7 l
    · simp only [headBig, hs, if_true, if_false, Int.reduceEq]; exact plain_body 7 l _ 5 (by omega) (by omega) (by omega)
  rw [if_neg h219, bodyOf_err _ _ _ _ (by simp [Er.code])]
  refine .inl ⟨headOf_not 7 l h0 (Or.inl ⟨rfl, by omega, by omega⟩), _, rfl, ?_⟩
  unfold failsB
  have hp : 0 < l.length := by omega
  simp [Er.code, hp]

theorem plainBin (l : List Int) (hb : Byts l) : PlainTx 8 l (headOf l) (rdBin l) := by
  unfold rdBin binH
  by_cases h0 : l.length = 0
  · rw [if_pos h0, bodyOf_err _ _ _ _ (by decide)]
    refine .inl ⟨?_, .short, rfl, ?_⟩
    · rw [headOf, if_pos h0]; decide
    · rw [h0]; exact fails_none _
  have hc := hb.at_ 0
  have a1 := hb.at_ 1
  have a2 := be2_range hb 1
  have a4 := be4_range hb 1
  rw [if_neg h0]
  by_cases h217 : at_ l 0 = 196
  · rw [if_pos h217, headOf_bigK l h0 (by omega) (by omega), h217]
    by_cases hs : l.length < 2
    · simp only [headBig, hs, if_true, if_false, Int.reduceEq]; exact plain_none 8 l
    · simp only [headBig, hs, if_true, if_false, Int.reduceEq]; exact plain_body 8 l _ 2 (by omega) (by omega) (by omega)
  rw [if_neg h217]
  by_cases h218 : at_ l 0 = 197
  · rw [if_pos h218, headOf_bigK l h0 (by omega) (by omega), h218]
    by_cases hs : l.length < 3
    · simp only [headBig, hs, if_true, if_false, Int.reduceEq]; exact plain_none 8 l
    · simp only [headBig, hs, if_true, if_false, Int.reduceEq]; exact plain_body 8 l _ 3 (by omega) (by omega) (by omega)
  rw [if_neg h218]
  by_cases h219 : at_ l 0 = 198
  · rw [if_pos h219, headOf_bigK l h0 (by omega) (by omega), h219]
    by_cases hs : l.length < 5
    · simp only [headBig, hs, if_true, if_false, Int.reduceEq]; exact plain_none 8 l
    · simp only [headBig, hs, if_true, if_false, Int.reduceEq]; exact plain_body 8 l _ 5 (by omega) (by omega) (by omega)
  rw [if_neg h219, bodyOf_err _ _ _ _ (by unfold bp; split <;> simp [Er.code])]
  exact .inl ⟨headOf_not 8 l h0 (Or.inr (Or.inl ⟨rfl, by omega⟩)), _, rfl, fails_bp l 2 _ (by omega) hc fun h => by rw [headOf, if_neg h0, h]; rfl⟩
end Go.Proofs.YtmhilpnagpkkiaaDoor
