/- What the reference's HeadOf tells of the first bytes of an object, walked at every list of bytes. Conditions: the slice reads as bytes. -/
import Derived.Test.YtmhilpnagpkkiaaDoorNumber
namespace Go.Proofs.YtmhilpnagpkkiaaDoor
open Go Go.RowKit

/-- What the first bytes tell. -/
structure Hd where
  kind : Int
  number : Int
  length : Int
  typ : Int
  size : Int
  short : Bool

/-- .. as Go's value. -/
abbrev Hd.val (h : Hd) : Value := .agg #[.int .i64 h.kind, .int .u64 h.number, .int .i64 h.length, .int .i8 h.typ, .int .i64 h.size, .bool h.short]

theorem at_cut (l : List Int) (m j : Nat) (hj : j < m) : at_ ((l.drop 1).take m) j = at_ l (1 + j) := by
  unfold at_
  simp [List.getD_eq_getElem?_getD, hj, Nat.add_comm]
theorem numT_cut1 (l : List Int) : numT ((l.drop 1).take 1) 1 = at_ l 1 := by
  simp only [numT, at_cut l 1 0 (by omega), Nat.add_zero]; omega
theorem numT_cut2 (l : List Int) : numT ((l.drop 1).take 2) 2 = be2 l 1 := by
  simp only [numT, at_cut l 2 0 (by omega), at_cut l 2 1 (by omega), be2, Nat.add_zero, Nat.reduceAdd]; omega
theorem numT_cut4 (l : List Int) : numT ((l.drop 1).take 4) 4 = be4 l 1 := by
  simp only [numT, at_cut l 4 0 (by omega), at_cut l 4 1 (by omega), at_cut l 4 2 (by omega), at_cut l 4 3 (by omega), be4, be2, Nat.add_zero, Nat.reduceAdd]; omega
theorem numT_cut8 (l : List Int) : numT ((l.drop 1).take 8) 8 = be8 l 1 := by
  simp only [numT, at_cut l 8 0 (by omega), at_cut l 8 1 (by omega), at_cut l 8 2 (by omega), at_cut l 8 3 (by omega), at_cut l 8 4 (by omega), at_cut l 8 5 (by omega), at_cut l 8 6 (by omega), at_cut l 8 7 (by omega), be8, be4, be2, Nat.add_zero, Nat.reduceAdd]; omega

theorem number_1 (g o c : Nat) (l : List Int) (w : World) (hr : Rd w (some ⟨g, o, none⟩) l) (hn : 2 ≤ l.length) : Calls Tryd.prog 28 #[.slice (some ⟨g, o + 1, none⟩) 1 c] w fun e w' => e = .returned (.int .u64 (at_ l 1)) ∧ w = w' := by
  have := number_c _ 1 c _ w (hr.cutTake 1 1) (by simp; omega) (by omega)
  rw [numT_cut1] at this
  exact this
theorem number_2 (g o c : Nat) (l : List Int) (w : World) (hr : Rd w (some ⟨g, o, none⟩) l) (hn : 3 ≤ l.length) : Calls Tryd.prog 28 #[.slice (some ⟨g, o + 1, none⟩) 2 c] w fun e w' => e = .returned (.int .u64 (be2 l 1)) ∧ w = w' := by
  have := number_c _ 2 c _ w (hr.cutTake 1 2) (by simp; omega) (by omega)
  rw [numT_cut2] at this
  exact this
theorem number_4 (g o c : Nat) (l : List Int) (w : World) (hr : Rd w (some ⟨g, o, none⟩) l) (hn : 5 ≤ l.length) : Calls Tryd.prog 28 #[.slice (some ⟨g, o + 1, none⟩) 4 c] w fun e w' => e = .returned (.int .u64 (be4 l 1)) ∧ w = w' := by
  have := number_c _ 4 c _ w (hr.cutTake 1 4) (by simp; omega) (by omega)
  rw [numT_cut4] at this
  exact this
theorem number_8 (g o c : Nat) (l : List Int) (w : World) (hr : Rd w (some ⟨g, o, none⟩) l) (hn : 9 ≤ l.length) : Calls Tryd.prog 28 #[.slice (some ⟨g, o + 1, none⟩) 8 c] w fun e w' => e = .returned (.int .u64 (be8 l 1)) ∧ w = w' := by
  have := number_c _ 8 c _ w (hr.cutTake 1 8) (by simp; omega) (by omega)
  rw [numT_cut8] at this
  exact this
theorem number_0 (g o c : Nat) (w : World) : Calls Tryd.prog 28 #[.slice (some ⟨g, o, none⟩) 0 c] w fun e w' => e = .returned (.int .u64 0) ∧ w = w' :=
  number_c _ 0 c [] w (Rd.nil _ _) rfl (by omega)


/-- The forms with a first byte from 196 to 223. -/
def headBig (l : List Int) (c : Int) : Hd :=
  if c = 196 then (if l.length < 2 then ⟨8, 0, 0, 0, 0, true⟩ else ⟨8, 0, (at_ l 1), 0, 2, false⟩) else
  if c = 197 then (if l.length < 3 then ⟨8, 0, 0, 0, 0, true⟩ else ⟨8, 0, (be2 l 1), 0, 3, false⟩) else
  if c = 198 then (if l.length < 5 then ⟨8, 0, 0, 0, 0, true⟩ else ⟨8, 0, (be4 l 1), 0, 5, false⟩) else
  if c = 199 then (if l.length < 3 then ⟨11, 0, 0, 0, 0, true⟩ else ⟨11, 0, (at_ l 1), (s8 (at_ l 2)), 3, false⟩) else
  if c = 200 then (if l.length < 4 then ⟨11, 0, 0, 0, 0, true⟩ else ⟨11, 0, (be2 l 1), (s8 (at_ l 3)), 4, false⟩) else
  if c = 201 then (if l.length < 6 then ⟨11, 0, 0, 0, 0, true⟩ else ⟨11, 0, (be4 l 1), (s8 (at_ l 5)), 6, false⟩) else
  if c = 202 then (if l.length < 5 then ⟨5, 0, 0, 0, 0, true⟩ else ⟨5, (be4 l 1), 0, 0, 5, false⟩) else
  if c = 203 then (if l.length < 9 then ⟨6, 0, 0, 0, 0, true⟩ else ⟨6, (be8 l 1), 0, 0, 9, false⟩) else
  if c = 204 then (if l.length < 2 then ⟨4, 0, 0, 0, 0, true⟩ else ⟨4, (at_ l 1), 0, 0, 2, false⟩) else
  if c = 205 then (if l.length < 3 then ⟨4, 0, 0, 0, 0, true⟩ else ⟨4, (be2 l 1), 0, 0, 3, false⟩) else
  if c = 206 then (if l.length < 5 then ⟨4, 0, 0, 0, 0, true⟩ else ⟨4, (be4 l 1), 0, 0, 5, false⟩) else
  if c = 207 then (if l.length < 9 then ⟨4, 0, 0, 0, 0, true⟩ else ⟨4, (be8 l 1), 0, 0, 9, false⟩) else
  if c = 208 then (if l.length < 2 then ⟨3, 0, 0, 0, 0, true⟩ else ⟨3, (sgn (at_ l 1) 1), 0, 0, 2, false⟩) else
  if c = 209 then (if l.length < 3 then ⟨3, 0, 0, 0, 0, true⟩ else ⟨3, (sgn (be2 l 1) 2), 0, 0, 3, false⟩) else
  if c = 210 then (if l.length < 5 then ⟨3, 0, 0, 0, 0, true⟩ else ⟨3, (sgn (be4 l 1) 4), 0, 0, 5, false⟩) else
  if c = 211 then (if l.length < 9 then ⟨3, 0, 0, 0, 0, true⟩ else ⟨3, (sgn (be8 l 1) 8), 0, 0, 9, false⟩) else
  if c = 212 then (if l.length < 2 then ⟨11, 0, 0, 0, 0, true⟩ else ⟨11, 0, 1, (s8 (at_ l 1)), 2, false⟩) else
  if c = 213 then (if l.length < 2 then ⟨11, 0, 0, 0, 0, true⟩ else ⟨11, 0, 2, (s8 (at_ l 1)), 2, false⟩) else
  if c = 214 then (if l.length < 2 then ⟨11, 0, 0, 0, 0, true⟩ else ⟨11, 0, 4, (s8 (at_ l 1)), 2, false⟩) else
  if c = 215 then (if l.length < 2 then ⟨11, 0, 0, 0, 0, true⟩ else ⟨11, 0, 8, (s8 (at_ l 1)), 2, false⟩) else
  if c = 216 then (if l.length < 2 then ⟨11, 0, 0, 0, 0, true⟩ else ⟨11, 0, 16, (s8 (at_ l 1)), 2, false⟩) else
  if c = 217 then (if l.length < 2 then ⟨7, 0, 0, 0, 0, true⟩ else ⟨7, 0, (at_ l 1), 0, 2, false⟩) else
  if c = 218 then (if l.length < 3 then ⟨7, 0, 0, 0, 0, true⟩ else ⟨7, 0, (be2 l 1), 0, 3, false⟩) else
  if c = 219 then (if l.length < 5 then ⟨7, 0, 0, 0, 0, true⟩ else ⟨7, 0, (be4 l 1), 0, 5, false⟩) else
  if c = 220 then (if l.length < 3 then ⟨9, 0, 0, 0, 0, true⟩ else ⟨9, 0, (be2 l 1), 0, 3, false⟩) else
  if c = 221 then (if l.length < 5 then ⟨9, 0, 0, 0, 0, true⟩ else ⟨9, 0, (be4 l 1), 0, 5, false⟩) else
  if c = 222 then (if l.length < 3 then ⟨10, 0, 0, 0, 0, true⟩ else ⟨10, 0, (be2 l 1), 0, 3, false⟩) else
  if c = 223 then (if l.length < 5 then ⟨10, 0, 0, 0, 0, true⟩ else ⟨10, 0, (be4 l 1), 0, 5, false⟩) else
  ⟨0, 0, 0, 0, 0, true⟩
/-- What the first bytes tell. -/
def headOf (l : List Int) : Hd :=
  if l.length = 0 then ⟨0, 0, 0, 0, 0, true⟩
  else if at_ l 0 < 128 then ⟨4, at_ l 0, 0, 0, 1, false⟩
  else if at_ l 0 < 144 then ⟨10, 0, at_ l 0 % 16, 0, 1, false⟩
  else if at_ l 0 < 160 then ⟨9, 0, at_ l 0 % 16, 0, 1, false⟩
  else if at_ l 0 < 192 then ⟨7, 0, at_ l 0 % 32, 0, 1, false⟩
  else if 224 ≤ at_ l 0 then ⟨3, at_ l 0 + 18446744073709551360, 0, 0, 1, false⟩
  else if at_ l 0 = 192 then ⟨1, 0, 0, 0, 1, false⟩
  else if at_ l 0 = 193 then ⟨0, 0, 0, 0, 1, false⟩
  else if at_ l 0 < 196 then ⟨2, at_ l 0 - 194, 0, 0, 1, false⟩
  else headBig l (at_ l 0)

end Go.Proofs.YtmhilpnagpkkiaaDoor
