/- What stands ahead of texts, bytes, lists and pairs as it is written: bytes, at most five; and what the readers answer at it, whatever follows. No program is in sight. Conditions: a length is at most 2^32 - 1. -/
import Derived.Test.YtpmdlbbgljcloaaDoorPure
namespace Go.Proofs.YtpmdlbbgljcloaaDoor
open Go
set_option linter.unusedVariables false

theorem q_at1 (n f : Int) (r : List Int) : at_ ((f :: by1 n) ++ r) 1 = n % 256 := by simp [at_, by1]
theorem q_be2 (n f : Int) (r : List Int) : be2 ((f :: by2 n) ++ r) 1 = n % 65536 := by simp [be2, at_, by2]; omega
theorem q_be4 (n f : Int) (r : List Int) : be4 ((f :: by4 n) ++ r) 1 = n % 4294967296 := by simp [be4, be2, at_, by4]; omega
theorem q_len0 (f : Int) (r : List Int) : ([f] ++ r).length = r.length + 1 := by simp
theorem q_len1 (n f : Int) (r : List Int) : ((f :: by1 n) ++ r).length = r.length + 2 := by simp [by1]
theorem q_len2 (n f : Int) (r : List Int) : ((f :: by2 n) ++ r).length = r.length + 3 := by simp [by2]
theorem q_len4 (n f : Int) (r : List Int) : ((f :: by4 n) ++ r).length = r.length + 5 := by simp [by4]
theorem q_at0 (f : Int) (l r : List Int) : at_ ((f :: l) ++ r) 0 = f := rfl

theorem byts_textHead (n : Int) (h0 : 0 ≤ n) : Byts (textHead n) := by
  unfold textHead
  split
  · exact (Byts.nil.cons (by omega))
  split
  · exact (byts1 n).cons (by omega)
  split
  · exact (byts2 n).cons (by omega)
  · exact (byts4 n).cons (by omega)
theorem len_textHead (n : Int) : (textHead n).length ≤ 5 := by
  unfold textHead
  (repeat' split) <;> simp [by1, by2, by4]
theorem byts_binHead (n : Int) (h0 : 0 ≤ n) : Byts (binHead n) := by
  unfold binHead
  split
  · exact (byts1 n).cons (by omega)
  split
  · exact (byts2 n).cons (by omega)
  · exact (byts4 n).cons (by omega)
theorem len_binHead (n : Int) : (binHead n).length ≤ 5 := by
  unfold binHead
  (repeat' split) <;> simp [by1, by2, by4]
theorem byts_arrayHead (n : Int) (h0 : 0 ≤ n) : Byts (arrayHead n) := by
  unfold arrayHead
  split
  · exact (Byts.nil.cons (by omega))
  split
  · exact (byts2 n).cons (by omega)
  · exact (byts4 n).cons (by omega)
theorem len_arrayHead (n : Int) : (arrayHead n).length ≤ 5 := by
  unfold arrayHead
  (repeat' split) <;> simp [by2, by4]
theorem byts_mapHead (n : Int) (h0 : 0 ≤ n) : Byts (mapHead n) := by
  unfold mapHead
  split
  · exact (Byts.nil.cons (by omega))
  split
  · exact (byts2 n).cons (by omega)
  · exact (byts4 n).cons (by omega)
theorem len_mapHead (n : Int) : (mapHead n).length ≤ 5 := by
  unfold mapHead
  (repeat' split) <;> simp [by2, by4]
end Go.Proofs.YtpmdlbbgljcloaaDoor
