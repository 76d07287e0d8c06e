/- What the reader answers on an extension as it is written: its type, its bytes, what is left. Plain. Conditions: at least one byte, at most 2^32 - 1; the type is an int8. -/
import Derived.Test.YtpmdlbbgljcloaaDoorExtR
import Derived.Test.YtpmdlbbgljcloaaDoorExtText
import Derived.Test.YtpmdlbbgljcloaaDoorHeadWr
namespace Go.Proofs.YtpmdlbbgljcloaaDoor
open Go
set_option linter.unusedVariables false

theorem s8_mod (t : Int) (ht : -128 ≤ t ∧ t ≤ 127) : s8 (t % 256) = t := by
  unfold s8; simp only [IntKind.wrap, IntKind.bits, IntKind.signed]; simp; split <;> omega
theorem bodyE_wr (h x r : List Int) (t : Int) (k m : Nat) (hk : h.length = k) (hm : x.length = m) : bodyE (h ++ x ++ r) t k m = .ok (t, x, r.length) := by
  subst hk; subst hm
  rw [bodyE_ok rfl (by simp; omega)]
  simp
  omega

theorem ext_at1 (n f t : Int) (r : List Int) : at_ ((f :: by1 n) ++ ([t] ++ r)) 2 = t := by simp [at_, by1]
theorem ext_at2 (n f t : Int) (r : List Int) : at_ ((f :: by2 n) ++ ([t] ++ r)) 3 = t := by simp [at_, by2]
theorem ext_at4 (n f t : Int) (r : List Int) : at_ ((f :: by4 n) ++ ([t] ++ r)) 5 = t := by simp [at_, by4]

theorem extR_wr (t : Int) (x r : List Int) (m : Nat) (ht : -128 ≤ t ∧ t ≤ 127) (hm : x.length = m) (h0 : 1 ≤ m) (h1 : m ≤ 4294967295) : extR (extHead m ++ [t % 256] ++ x ++ r) = .ok (t, x, r.length) := by
  have hs := s8_mod t ht
  have hx : 0 < x.length := by omega
  unfold extHead
  by_cases e1 : (m : Int) = 1
  · rw [if_pos e1]
    have hl : ¬ ([212] ++ [t % 256] ++ x ++ r : List Int).length < 3 := by simp; omega
    have a0 : at_ ([212] ++ [t % 256] ++ x ++ r : List Int) 0 = 212 := rfl
    have a1 : at_ ([212] ++ [t % 256] ++ x ++ r : List Int) 1 = t % 256 := rfl
    unfold extR
    rw [if_neg hl, a0, if_pos rfl, a1, hs]
    exact bodyE_wr _ x r t 2 1 rfl (by omega)
  rw [if_neg e1]
  by_cases e2 : (m : Int) = 2
  · rw [if_pos e2]
    have hl : ¬ ([213] ++ [t % 256] ++ x ++ r : List Int).length < 3 := by simp; omega
    have a0 : at_ ([213] ++ [t % 256] ++ x ++ r : List Int) 0 = 213 := rfl
    have a1 : at_ ([213] ++ [t % 256] ++ x ++ r : List Int) 1 = t % 256 := rfl
    unfold extR
    rw [if_neg hl, a0, if_neg (by decide), if_pos rfl, a1, hs]
    exact bodyE_wr _ x r t 2 2 rfl (by omega)
  rw [if_neg e2]
  by_cases e4 : (m : Int) = 4
  · rw [if_pos e4]
    have hl : ¬ ([214] ++ [t % 256] ++ x ++ r : List Int).length < 3 := by simp; omega
    have a0 : at_ ([214] ++ [t % 256] ++ x ++ r : List Int) 0 = 214 := rfl
    have a1 : at_ ([214] ++ [t % 256] ++ x ++ r : List Int) 1 = t % 256 := rfl
    unfold extR
    rw [if_neg hl, a0, if_neg (by decide), if_neg (by decide), if_pos rfl, a1, hs]
    exact bodyE_wr _ x r t 2 4 rfl (by omega)
  rw [if_neg e4]
  by_cases e8 : (m : Int) = 8
  · rw [if_pos e8]
    have hl : ¬ ([215] ++ [t % 256] ++ x ++ r : List Int).length < 3 := by simp; omega
    have a0 : at_ ([215] ++ [t % 256] ++ x ++ r : List Int) 0 = 215 := rfl
    have a1 : at_ ([215] ++ [t % 256] ++ x ++ r : List Int) 1 = t % 256 := rfl
    unfold extR
    rw [if_neg hl, a0, if_neg (by decide), if_neg (by decide), if_neg (by decide), if_pos rfl, a1, hs]
    exact bodyE_wr _ x r t 2 8 rfl (by omega)
  rw [if_neg e8]
  by_cases e16 : (m : Int) = 16
  · rw [if_pos e16]
    have hl : ¬ ([216] ++ [t % 256] ++ x ++ r : List Int).length < 3 := by simp; omega
    have a0 : at_ ([216] ++ [t % 256] ++ x ++ r : List Int) 0 = 216 := rfl
    have a1 : at_ ([216] ++ [t % 256] ++ x ++ r : List Int) 1 = t % 256 := rfl
    unfold extR
    rw [if_neg hl, a0, if_neg (by decide), if_neg (by decide), if_neg (by decide), if_neg (by decide), if_pos rfl, a1, hs]
    exact bodyE_wr _ x r t 2 16 rfl (by omega)
  rw [if_neg e16]
  by_cases c1 : (m : Int) ≤ 255
  · rw [if_pos c1]
    have E : (199 :: by1 (m : Int)) ++ [t % 256] ++ x ++ r = (199 :: by1 (m : Int)) ++ ([t % 256] ++ (x ++ r)) := by simp only [List.append_assoc]
    have hl : ¬ ((199 :: by1 (m : Int)) ++ [t % 256] ++ x ++ r : List Int).length < 3 := by simp [by1] <;> omega
    have a0 : at_ ((199 :: by1 (m : Int)) ++ [t % 256] ++ x ++ r) 0 = 199 := by rw [E, q_at0]
    have a1 : at_ ((199 :: by1 (m : Int)) ++ [t % 256] ++ x ++ r) 1 = m := by rw [E, q_at1]; omega
    have a2 : at_ ((199 :: by1 (m : Int)) ++ [t % 256] ++ x ++ r) 2 = t % 256 := by rw [E, ext_at1]
    unfold extR
    rw [if_neg hl, a0, if_neg (by decide), if_neg (by decide), if_neg (by decide), if_neg (by decide), if_neg (by decide), if_pos rfl, a1, a2, hs, Int.toNat_natCast]
    exact bodyE_wr _ x r t 3 m (by simp [by1]) hm
  rw [if_neg c1]
  by_cases c2 : (m : Int) ≤ 65535
  · rw [if_pos c2]
    have E : (200 :: by2 (m : Int)) ++ [t % 256] ++ x ++ r = (200 :: by2 (m : Int)) ++ ([t % 256] ++ (x ++ r)) := by simp only [List.append_assoc]
    have hl : ¬ ((200 :: by2 (m : Int)) ++ [t % 256] ++ x ++ r : List Int).length < 3 := by simp [by2] <;> omega
    have hl4 : ¬ ((200 :: by2 (m : Int)) ++ [t % 256] ++ x ++ r : List Int).length < 4 := by simp [by2] <;> omega
    have a0 : at_ ((200 :: by2 (m : Int)) ++ [t % 256] ++ x ++ r) 0 = 200 := by rw [E, q_at0]
    have a1 : be2 ((200 :: by2 (m : Int)) ++ [t % 256] ++ x ++ r) 1 = m := by rw [E, q_be2]; omega
    have a2 : at_ ((200 :: by2 (m : Int)) ++ [t % 256] ++ x ++ r) 3 = t % 256 := by rw [E, ext_at2]
    unfold extR
    rw [if_neg hl, a0, if_neg (by decide), if_neg (by decide), if_neg (by decide), if_neg (by decide), if_neg (by decide), if_neg (by decide), if_pos rfl, if_neg hl4, a1, a2, hs, Int.toNat_natCast]
    exact bodyE_wr _ x r t 4 m (by simp [by2]) hm
  · rw [if_neg c2]
    have E : (201 :: by4 (m : Int)) ++ [t % 256] ++ x ++ r = (201 :: by4 (m : Int)) ++ ([t % 256] ++ (x ++ r)) := by simp only [List.append_assoc]
    have hl : ¬ ((201 :: by4 (m : Int)) ++ [t % 256] ++ x ++ r : List Int).length < 3 := by simp [by4] <;> omega
    have hl4 : ¬ ((201 :: by4 (m : Int)) ++ [t % 256] ++ x ++ r : List Int).length < 6 := by simp [by4] <;> omega
    have a0 : at_ ((201 :: by4 (m : Int)) ++ [t % 256] ++ x ++ r) 0 = 201 := by rw [E, q_at0]
    have a1 : be4 ((201 :: by4 (m : Int)) ++ [t % 256] ++ x ++ r) 1 = m := by rw [E, q_be4]; omega
    have a2 : at_ ((201 :: by4 (m : Int)) ++ [t % 256] ++ x ++ r) 5 = t % 256 := by rw [E, ext_at4]
    unfold extR
    rw [if_neg hl, a0, if_neg (by decide), if_neg (by decide), if_neg (by decide), if_neg (by decide), if_neg (by decide), if_neg (by decide), if_neg (by decide), if_pos rfl, if_neg hl4, a1, a2, hs, Int.toNat_natCast]
    exact bodyE_wr _ x r t 6 m (by simp [by4]) hm
end Go.Proofs.YtpmdlbbgljcloaaDoor
