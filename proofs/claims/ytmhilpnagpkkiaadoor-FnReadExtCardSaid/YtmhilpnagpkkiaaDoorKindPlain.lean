/- What the reference tells of a first byte that is of no form of a kind: another kind. No program is in sight. Conditions: none. -/
import Derived.Test.YtmhilpnagpkkiaaDoorHeadDefs
namespace Go.Proofs.YtmhilpnagpkkiaaDoor
open Go
set_option linter.unusedVariables false

/-- The reference at a first byte from 196 to 223. -/
theorem headOf_bigK (l : List Int) (h0 : ¬ l.length = 0) (h1 : 196 ≤ at_ l 0) (h2 : at_ l 0 < 224) : headOf l = headBig l (at_ l 0) := by
  rw [headOf, if_neg h0, if_neg (by omega), if_neg (by omega), if_neg (by omega), if_neg (by omega), if_neg (by omega), if_neg (by omega), if_neg (by omega), if_neg (by omega)]

def NotK (K : Int) (h : Hd) : Prop := h.kind ≠ K
theorem notK_ite {K : Int} {p : Prop} [Decidable p] {a b : Hd} (ha : p → NotK K a) (hb : ¬ p → NotK K b) : NotK K (if p then a else b) := by
  split
  · exact ha ‹_›
  · exact hb ‹_›
theorem notK_mk {K k x len t s : Int} {sh : Bool} (h : k ≠ K) : NotK K (Hd.mk k x len t s sh) := h
/-- The first byte is of no form of the kind (texts 7, bytes 8, lists 9, pairs 10). -/
def OffK (K c : Int) : Prop := (K = 7 ∧ ¬ (160 ≤ c ∧ c < 192) ∧ ¬ (217 ≤ c ∧ c ≤ 219)) ∨ (K = 8 ∧ ¬ (196 ≤ c ∧ c ≤ 198)) ∨ (K = 9 ∧ ¬ (144 ≤ c ∧ c < 160) ∧ ¬ (220 ≤ c ∧ c ≤ 221)) ∨ (K = 10 ∧ ¬ (128 ≤ c ∧ c < 144) ∧ ¬ (222 ≤ c ∧ c ≤ 223))
theorem headBig_not (K : Int) (l : List Int) (c : Int) (h : OffK K c) : NotK K (headBig l c) := by
  unfold OffK at h
  unfold headBig
  repeat' (first | (refine notK_mk ?_; omega) | (refine notK_ite ?_ ?_ <;> intro _))
theorem headOf_not (K : Int) (l : List Int) (h0 : ¬ l.length = 0) (h : OffK K (at_ l 0)) : (headOf l).kind ≠ K := by
  have key : NotK K (headOf l) := by
    have h' := h
    unfold OffK at h
    unfold headOf
    rw [if_neg h0]
    repeat' (first | exact headBig_not K l _ h' | (refine notK_mk ?_; omega) | (refine notK_ite ?_ ?_ <;> intro _))
  exact key
end Go.Proofs.YtmhilpnagpkkiaaDoor
