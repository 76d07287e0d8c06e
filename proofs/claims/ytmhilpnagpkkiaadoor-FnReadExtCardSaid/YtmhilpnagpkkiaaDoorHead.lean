/- The reference's HeadOf, walked, at every list of bytes: it tells what headOf says. Conditions: the slice reads as bytes. -/
import Derived.Test.YtmhilpnagpkkiaaDoorHeadL1
import Derived.Test.YtmhilpnagpkkiaaDoorHeadL2
import Derived.Test.YtmhilpnagpkkiaaDoorHeadL3
import Derived.Test.YtmhilpnagpkkiaaDoorHeadL4
namespace Go.Proofs.YtmhilpnagpkkiaaDoor
open Go Go.RowKit

theorem and15 (x : Int) (h0 : 0 ≤ x) (h1 : x < 256) : bits .and .u8 x 15 = x % 16 := by
  rw [u8_and x 15 h0 h1 (by omega) (by omega)]
  show ((x.toNat &&& 15 : Nat) : Int) = x % 16
  rw [nat_mask4]
  omega
theorem and31 (x : Int) (h0 : 0 ≤ x) (h1 : x < 256) : bits .and .u8 x 31 = x % 32 := by
  rw [u8_and x 31 h0 h1 (by omega) (by omega)]
  show ((x.toNat &&& 31 : Nat) : Int) = x % 32
  rw [nat_mask5]
  omega
set_option maxHeartbeats 1000000 in
set_option maxRecDepth 100000 in
theorem head_fixint (g o n c : Nat) (x : Int) (w : World) (_hg : g < w.heap.size) (hn1 : 1 ≤ n) (a0 : 0 ≤ x) (a1 : x < 128) (c0 : w.cell? ⟨g, o, none⟩ = some (.int .u8 x)) :
    Calls Tryd.prog 12 #[.slice (some ⟨g, o, none⟩) n c] w fun e w' => e = .returned (Hd.val ⟨4, x, 0, 0, 1, false⟩) ∧ Below w.heap.size w w' := by
  have e0 : ((n : Int) == 0) = false := by simp; omega
  have hA : ∀ (W : World) (o' : Obj) (j : Nat), g < W.heap.size → (W.alloc o').cell? ⟨g, j, none⟩ = W.cell? ⟨g, j, none⟩ := fun W o' j h => World.cell?_alloc_lt W o' ⟨g, j, none⟩ h
  go_enter Tryd.func12, Tryd.ntmps12
  go_wp2_with fail
  refine bodyPost_ret (v := Hd.val ⟨4, x, 0, 0, 1, false⟩) (by simp [results, Tryd.results12, go_sem]) rfl ⟨rfl, ?_⟩
  repeat (first | exact Below.refl _ _ | (refine Below.alloc ?_ (by simp <;> omega) _))
set_option maxHeartbeats 1000000 in
set_option maxRecDepth 100000 in
theorem head_fixmap (g o n c : Nat) (x : Int) (w : World) (_hg : g < w.heap.size) (hn1 : 1 ≤ n) (a0 : 128 ≤ x) (a1 : x < 144) (c0 : w.cell? ⟨g, o, none⟩ = some (.int .u8 x)) :
    Calls Tryd.prog 12 #[.slice (some ⟨g, o, none⟩) n c] w fun e w' => e = .returned (Hd.val ⟨10, 0, x % 16, 0, 1, false⟩) ∧ Below w.heap.size w w' := by
  have e0 : ((n : Int) == 0) = false := by simp; omega
  have hA : ∀ (W : World) (o' : Obj) (j : Nat), g < W.heap.size → (W.alloc o').cell? ⟨g, j, none⟩ = W.cell? ⟨g, j, none⟩ := fun W o' j h => World.cell?_alloc_lt W o' ⟨g, j, none⟩ h
  have ea := and15 x (by omega) (by omega)
  go_enter Tryd.func12, Tryd.ntmps12
  go_wp2_with fail
  refine bodyPost_ret (v := Hd.val ⟨10, 0, x % 16, 0, 1, false⟩) (by simp [results, Tryd.results12, go_sem]) rfl ⟨rfl, ?_⟩
  repeat (first | exact Below.refl _ _ | (refine Below.alloc ?_ (by simp <;> omega) _))
set_option maxHeartbeats 1000000 in
set_option maxRecDepth 100000 in
theorem head_fixarray (g o n c : Nat) (x : Int) (w : World) (_hg : g < w.heap.size) (hn1 : 1 ≤ n) (a0 : 144 ≤ x) (a1 : x < 160) (c0 : w.cell? ⟨g, o, none⟩ = some (.int .u8 x)) :
    Calls Tryd.prog 12 #[.slice (some ⟨g, o, none⟩) n c] w fun e w' => e = .returned (Hd.val ⟨9, 0, x % 16, 0, 1, false⟩) ∧ Below w.heap.size w w' := by
  have e0 : ((n : Int) == 0) = false := by simp; omega
  have hA : ∀ (W : World) (o' : Obj) (j : Nat), g < W.heap.size → (W.alloc o').cell? ⟨g, j, none⟩ = W.cell? ⟨g, j, none⟩ := fun W o' j h => World.cell?_alloc_lt W o' ⟨g, j, none⟩ h
  have ea := and15 x (by omega) (by omega)
  go_enter Tryd.func12, Tryd.ntmps12
  go_wp2_with fail
  refine bodyPost_ret (v := Hd.val ⟨9, 0, x % 16, 0, 1, false⟩) (by simp [results, Tryd.results12, go_sem]) rfl ⟨rfl, ?_⟩
  repeat (first | exact Below.refl _ _ | (refine Below.alloc ?_ (by simp <;> omega) _))
set_option maxHeartbeats 1000000 in
set_option maxRecDepth 100000 in
theorem head_fixstr (g o n c : Nat) (x : Int) (w : World) (_hg : g < w.heap.size) (hn1 : 1 ≤ n) (a0 : 160 ≤ x) (a1 : x < 192) (c0 : w.cell? ⟨g, o, none⟩ = some (.int .u8 x)) :
    Calls Tryd.prog 12 #[.slice (some ⟨g, o, none⟩) n c] w fun e w' => e = .returned (Hd.val ⟨7, 0, x % 32, 0, 1, false⟩) ∧ Below w.heap.size w w' := by
  have e0 : ((n : Int) == 0) = false := by simp; omega
  have hA : ∀ (W : World) (o' : Obj) (j : Nat), g < W.heap.size → (W.alloc o').cell? ⟨g, j, none⟩ = W.cell? ⟨g, j, none⟩ := fun W o' j h => World.cell?_alloc_lt W o' ⟨g, j, none⟩ h
  have ea := and31 x (by omega) (by omega)
  go_enter Tryd.func12, Tryd.ntmps12
  go_wp2_with fail
  refine bodyPost_ret (v := Hd.val ⟨7, 0, x % 32, 0, 1, false⟩) (by simp [results, Tryd.results12, go_sem]) rfl ⟨rfl, ?_⟩
  repeat (first | exact Below.refl _ _ | (refine Below.alloc ?_ (by simp <;> omega) _))
set_option maxHeartbeats 1000000 in
set_option maxRecDepth 100000 in
theorem head_nfixint (g o n c : Nat) (x : Int) (w : World) (_hg : g < w.heap.size) (hn1 : 1 ≤ n) (a0 : 224 ≤ x) (a1 : x < 256) (c0 : w.cell? ⟨g, o, none⟩ = some (.int .u8 x)) :
    Calls Tryd.prog 12 #[.slice (some ⟨g, o, none⟩) n c] w fun e w' => e = .returned (Hd.val ⟨3, x + 18446744073709551360, 0, 0, 1, false⟩) ∧ Below w.heap.size w w' := by
  have e0 : ((n : Int) == 0) = false := by simp; omega
  have hA : ∀ (W : World) (o' : Obj) (j : Nat), g < W.heap.size → (W.alloc o').cell? ⟨g, j, none⟩ = W.cell? ⟨g, j, none⟩ := fun W o' j h => World.cell?_alloc_lt W o' ⟨g, j, none⟩ h
  go_enter Tryd.func12, Tryd.ntmps12
  go_wp2_with fail
  ((with_reducible refine (signed_1_neg _ _ (by omega) (by omega)).mono ?_); rintro e w' ⟨rfl, rfl⟩)
  go_wp2_with fail
  refine bodyPost_ret (v := Hd.val ⟨3, x + 18446744073709551360, 0, 0, 1, false⟩) (by simp [results, Tryd.results12, go_sem]) rfl ⟨rfl, ?_⟩
  repeat (first | exact Below.refl _ _ | (refine Below.alloc ?_ (by simp <;> omega) _))
set_option maxHeartbeats 1000000 in
set_option maxRecDepth 100000 in
theorem head_192 (g o n c : Nat) (w : World) (_hg : g < w.heap.size) (hn1 : 1 ≤ n) (c0 : w.cell? ⟨g, o, none⟩ = some (.int .u8 192)) :
    Calls Tryd.prog 12 #[.slice (some ⟨g, o, none⟩) n c] w fun e w' => e = .returned (Hd.val ⟨1, 0, 0, 0, 1, false⟩) ∧ Below w.heap.size w w' := by
  have e0 : ((n : Int) == 0) = false := by simp; omega
  have hA : ∀ (W : World) (o' : Obj) (j : Nat), g < W.heap.size → (W.alloc o').cell? ⟨g, j, none⟩ = W.cell? ⟨g, j, none⟩ := fun W o' j h => World.cell?_alloc_lt W o' ⟨g, j, none⟩ h
  go_enter Tryd.func12, Tryd.ntmps12
  go_wp2_with fail
  refine bodyPost_ret (v := Hd.val ⟨1, 0, 0, 0, 1, false⟩) (by simp [results, Tryd.results12, go_sem]) rfl ⟨rfl, ?_⟩
  repeat (first | exact Below.refl _ _ | (refine Below.alloc ?_ (by simp <;> omega) _))
set_option maxHeartbeats 1000000 in
set_option maxRecDepth 100000 in
theorem head_193 (g o n c : Nat) (w : World) (_hg : g < w.heap.size) (hn1 : 1 ≤ n) (c0 : w.cell? ⟨g, o, none⟩ = some (.int .u8 193)) :
    Calls Tryd.prog 12 #[.slice (some ⟨g, o, none⟩) n c] w fun e w' => e = .returned (Hd.val ⟨0, 0, 0, 0, 1, false⟩) ∧ Below w.heap.size w w' := by
  have e0 : ((n : Int) == 0) = false := by simp; omega
  have hA : ∀ (W : World) (o' : Obj) (j : Nat), g < W.heap.size → (W.alloc o').cell? ⟨g, j, none⟩ = W.cell? ⟨g, j, none⟩ := fun W o' j h => World.cell?_alloc_lt W o' ⟨g, j, none⟩ h
  go_enter Tryd.func12, Tryd.ntmps12
  go_wp2_with fail
  refine bodyPost_ret (v := Hd.val ⟨0, 0, 0, 0, 1, false⟩) (by simp [results, Tryd.results12, go_sem]) rfl ⟨rfl, ?_⟩
  repeat (first | exact Below.refl _ _ | (refine Below.alloc ?_ (by simp <;> omega) _))
set_option maxHeartbeats 1000000 in
set_option maxRecDepth 100000 in
theorem head_194 (g o n c : Nat) (w : World) (_hg : g < w.heap.size) (hn1 : 1 ≤ n) (c0 : w.cell? ⟨g, o, none⟩ = some (.int .u8 194)) :
    Calls Tryd.prog 12 #[.slice (some ⟨g, o, none⟩) n c] w fun e w' => e = .returned (Hd.val ⟨2, 0, 0, 0, 1, false⟩) ∧ Below w.heap.size w w' := by
  have e0 : ((n : Int) == 0) = false := by simp; omega
  have hA : ∀ (W : World) (o' : Obj) (j : Nat), g < W.heap.size → (W.alloc o').cell? ⟨g, j, none⟩ = W.cell? ⟨g, j, none⟩ := fun W o' j h => World.cell?_alloc_lt W o' ⟨g, j, none⟩ h
  go_enter Tryd.func12, Tryd.ntmps12
  go_wp2_with fail
  refine bodyPost_ret (v := Hd.val ⟨2, 0, 0, 0, 1, false⟩) (by simp [results, Tryd.results12, go_sem]) rfl ⟨rfl, ?_⟩
  repeat (first | exact Below.refl _ _ | (refine Below.alloc ?_ (by simp <;> omega) _))
set_option maxHeartbeats 1000000 in
set_option maxRecDepth 100000 in
theorem head_195 (g o n c : Nat) (w : World) (_hg : g < w.heap.size) (hn1 : 1 ≤ n) (c0 : w.cell? ⟨g, o, none⟩ = some (.int .u8 195)) :
    Calls Tryd.prog 12 #[.slice (some ⟨g, o, none⟩) n c] w fun e w' => e = .returned (Hd.val ⟨2, 1, 0, 0, 1, false⟩) ∧ Below w.heap.size w w' := by
  have e0 : ((n : Int) == 0) = false := by simp; omega
  have hA : ∀ (W : World) (o' : Obj) (j : Nat), g < W.heap.size → (W.alloc o').cell? ⟨g, j, none⟩ = W.cell? ⟨g, j, none⟩ := fun W o' j h => World.cell?_alloc_lt W o' ⟨g, j, none⟩ h
  go_enter Tryd.func12, Tryd.ntmps12
  go_wp2_with fail
  refine bodyPost_ret (v := Hd.val ⟨2, 1, 0, 0, 1, false⟩) (by simp [results, Tryd.results12, go_sem]) rfl ⟨rfl, ?_⟩
  repeat (first | exact Below.refl _ _ | (refine Below.alloc ?_ (by simp <;> omega) _))
set_option maxHeartbeats 1000000 in
set_option maxRecDepth 100000 in
theorem head_empty (A : Option Addr) (c : Nat) (w : World) :
    Calls Tryd.prog 12 #[.slice A 0 c] w fun e w' => e = .returned (Hd.val ⟨0, 0, 0, 0, 0, true⟩) ∧ Below w.heap.size w w' := by
  go_enter Tryd.func12, Tryd.ntmps12
  go_wp2_with fail
  refine bodyPost_ret (v := Hd.val ⟨0, 0, 0, 0, 0, true⟩) (by simp [results, Tryd.results12, go_sem]) rfl ⟨rfl, ?_⟩
  repeat (first | exact Below.refl _ _ | (refine Below.alloc ?_ (by simp <;> omega) _))

theorem headOf_c (A : Option Addr) (n c : Nat) (l : List Int) (w : World) (hr : Rd w A l) (hn : l.length = n) (hnc : n ≤ c) (hm : c ≤ maxLen) :
    Calls Tryd.prog 12 #[.slice A n c] w fun e w' => e = .returned (headOf l).val ∧ Below w.heap.size w w' := by
  have hm' : c ≤ 9223372036854775807 := by simp only [maxLen] at hm; omega
  rcases Nat.eq_zero_or_pos n with rfl | hpos
  · have e : headOf l = ⟨0, 0, 0, 0, 0, true⟩ := by rw [headOf, if_pos hn]
    rw [e]
    exact head_empty A c w
  obtain ⟨g, o, rfl, hg, -, hc⟩ := hr.open_ (by omega)
  have c0 := hc 0 (by omega)
  rw [Nat.add_zero] at c0
  have hb := hr.1.at_ 0
  have hn0 : ¬ l.length = 0 := by omega
  unfold headOf
  rw [if_neg hn0]
  by_cases a1 : at_ l 0 < 128
  · rw [if_pos a1]; exact head_fixint g o n c _ w hg hpos hb.1 a1 c0
  rw [if_neg a1]
  by_cases a2 : at_ l 0 < 144
  · rw [if_pos a2]; exact head_fixmap g o n c _ w hg hpos (by omega) a2 c0
  rw [if_neg a2]
  by_cases a3 : at_ l 0 < 160
  · rw [if_pos a3]; exact head_fixarray g o n c _ w hg hpos (by omega) a3 c0
  rw [if_neg a3]
  by_cases a4 : at_ l 0 < 192
  · rw [if_pos a4]; exact head_fixstr g o n c _ w hg hpos (by omega) a4 c0
  rw [if_neg a4]
  by_cases a5 : 224 ≤ at_ l 0
  · rw [if_pos a5]; exact head_nfixint g o n c _ w hg hpos a5 hb.2 c0
  rw [if_neg a5]
  by_cases a6 : at_ l 0 = 192
  · rw [if_pos a6]; rw [a6] at c0; exact head_192 g o n c w hg hpos c0
  rw [if_neg a6]
  by_cases a7 : at_ l 0 = 193
  · rw [if_pos a7]; rw [a7] at c0; exact head_193 g o n c w hg hpos c0
  rw [if_neg a7]
  by_cases a8 : at_ l 0 < 196
  · rw [if_pos a8]
    by_cases a9 : at_ l 0 = 194
    · rw [a9] at c0 ⊢; exact head_194 g o n c w hg hpos c0
    · have a10 : at_ l 0 = 195 := by omega
      rw [a10] at c0 ⊢; exact head_195 g o n c w hg hpos c0
  rw [if_neg a8]
  have hcase : at_ l 0 = 196 ∨ at_ l 0 = 197 ∨ at_ l 0 = 198 ∨ at_ l 0 = 199 ∨ at_ l 0 = 200 ∨ at_ l 0 = 201 ∨ at_ l 0 = 202 ∨ at_ l 0 = 203 ∨ at_ l 0 = 204 ∨ at_ l 0 = 205 ∨ at_ l 0 = 206 ∨ at_ l 0 = 207 ∨ at_ l 0 = 208 ∨ at_ l 0 = 209 ∨ at_ l 0 = 210 ∨ at_ l 0 = 211 ∨ at_ l 0 = 212 ∨ at_ l 0 = 213 ∨ at_ l 0 = 214 ∨ at_ l 0 = 215 ∨ at_ l 0 = 216 ∨ at_ l 0 = 217 ∨ at_ l 0 = 218 ∨ at_ l 0 = 219 ∨ at_ l 0 = 220 ∨ at_ l 0 = 221 ∨ at_ l 0 = 222 ∨ at_ l 0 = 223 := by omega
  unfold headBig
  rcases hcase with e | e | e | e | e | e | e | e | e | e | e | e | e | e | e | e | e | e | e | e | e | e | e | e | e | e | e | e
  · rw [e] at c0 ⊢
    simp only [Int.reduceEq, if_false, if_true]
    by_cases hs : l.length < 2
    · rw [if_pos hs]; exact head_196_short g o n c w hnc hm' hg hpos (by omega) c0
    · rw [if_neg hs]; exact head_196_whole g o n c l w hr hn hnc hm' hg (by omega) c0
  · rw [e] at c0 ⊢
    simp only [Int.reduceEq, if_false, if_true]
    by_cases hs : l.length < 3
    · rw [if_pos hs]; exact head_197_short g o n c w hnc hm' hg hpos (by omega) c0
    · rw [if_neg hs]; exact head_197_whole g o n c l w hr hn hnc hm' hg (by omega) c0
  · rw [e] at c0 ⊢
    simp only [Int.reduceEq, if_false, if_true]
    by_cases hs : l.length < 5
    · rw [if_pos hs]; exact head_198_short g o n c w hnc hm' hg hpos (by omega) c0
    · rw [if_neg hs]; exact head_198_whole g o n c l w hr hn hnc hm' hg (by omega) c0
  · rw [e] at c0 ⊢
    simp only [Int.reduceEq, if_false, if_true]
    by_cases hs : l.length < 3
    · rw [if_pos hs]; exact head_199_short g o n c w hnc hm' hg hpos (by omega) c0
    · rw [if_neg hs]; exact head_199_whole g o n c l w hr hn hnc hm' hg (by omega) c0
  · rw [e] at c0 ⊢
    simp only [Int.reduceEq, if_false, if_true]
    by_cases hs : l.length < 4
    · rw [if_pos hs]; exact head_200_short g o n c w hnc hm' hg hpos (by omega) c0
    · rw [if_neg hs]; exact head_200_whole g o n c l w hr hn hnc hm' hg (by omega) c0
  · rw [e] at c0 ⊢
    simp only [Int.reduceEq, if_false, if_true]
    by_cases hs : l.length < 6
    · rw [if_pos hs]; exact head_201_short g o n c w hnc hm' hg hpos (by omega) c0
    · rw [if_neg hs]; exact head_201_whole g o n c l w hr hn hnc hm' hg (by omega) c0
  · rw [e] at c0 ⊢
    simp only [Int.reduceEq, if_false, if_true]
    by_cases hs : l.length < 5
    · rw [if_pos hs]; exact head_202_short g o n c w hnc hm' hg hpos (by omega) c0
    · rw [if_neg hs]; exact head_202_whole g o n c l w hr hn hnc hm' hg (by omega) c0
  · rw [e] at c0 ⊢
    simp only [Int.reduceEq, if_false, if_true]
    by_cases hs : l.length < 9
    · rw [if_pos hs]; exact head_203_short g o n c w hnc hm' hg hpos (by omega) c0
    · rw [if_neg hs]; exact head_203_whole g o n c l w hr hn hnc hm' hg (by omega) c0
  · rw [e] at c0 ⊢
    simp only [Int.reduceEq, if_false, if_true]
    by_cases hs : l.length < 2
    · rw [if_pos hs]; exact head_204_short g o n c w hnc hm' hg hpos (by omega) c0
    · rw [if_neg hs]; exact head_204_whole g o n c l w hr hn hnc hm' hg (by omega) c0
  · rw [e] at c0 ⊢
    simp only [Int.reduceEq, if_false, if_true]
    by_cases hs : l.length < 3
    · rw [if_pos hs]; exact head_205_short g o n c w hnc hm' hg hpos (by omega) c0
    · rw [if_neg hs]; exact head_205_whole g o n c l w hr hn hnc hm' hg (by omega) c0
  · rw [e] at c0 ⊢
    simp only [Int.reduceEq, if_false, if_true]
    by_cases hs : l.length < 5
    · rw [if_pos hs]; exact head_206_short g o n c w hnc hm' hg hpos (by omega) c0
    · rw [if_neg hs]; exact head_206_whole g o n c l w hr hn hnc hm' hg (by omega) c0
  · rw [e] at c0 ⊢
    simp only [Int.reduceEq, if_false, if_true]
    by_cases hs : l.length < 9
    · rw [if_pos hs]; exact head_207_short g o n c w hnc hm' hg hpos (by omega) c0
    · rw [if_neg hs]; exact head_207_whole g o n c l w hr hn hnc hm' hg (by omega) c0
  · rw [e] at c0 ⊢
    simp only [Int.reduceEq, if_false, if_true]
    by_cases hs : l.length < 2
    · rw [if_pos hs]; exact head_208_short g o n c w hnc hm' hg hpos (by omega) c0
    · rw [if_neg hs]; exact head_208_whole g o n c l w hr hn hnc hm' hg (by omega) c0
  · rw [e] at c0 ⊢
    simp only [Int.reduceEq, if_false, if_true]
    by_cases hs : l.length < 3
    · rw [if_pos hs]; exact head_209_short g o n c w hnc hm' hg hpos (by omega) c0
    · rw [if_neg hs]; exact head_209_whole g o n c l w hr hn hnc hm' hg (by omega) c0
  · rw [e] at c0 ⊢
    simp only [Int.reduceEq, if_false, if_true]
    by_cases hs : l.length < 5
    · rw [if_pos hs]; exact head_210_short g o n c w hnc hm' hg hpos (by omega) c0
    · rw [if_neg hs]; exact head_210_whole g o n c l w hr hn hnc hm' hg (by omega) c0
  · rw [e] at c0 ⊢
    simp only [Int.reduceEq, if_false, if_true]
    by_cases hs : l.length < 9
    · rw [if_pos hs]; exact head_211_short g o n c w hnc hm' hg hpos (by omega) c0
    · rw [if_neg hs]; exact head_211_whole g o n c l w hr hn hnc hm' hg (by omega) c0
  · rw [e] at c0 ⊢
    simp only [Int.reduceEq, if_false, if_true]
    by_cases hs : l.length < 2
    · rw [if_pos hs]; exact head_212_short g o n c w hnc hm' hg hpos (by omega) c0
    · rw [if_neg hs]; exact head_212_whole g o n c l w hr hn hnc hm' hg (by omega) c0
  · rw [e] at c0 ⊢
    simp only [Int.reduceEq, if_false, if_true]
    by_cases hs : l.length < 2
    · rw [if_pos hs]; exact head_213_short g o n c w hnc hm' hg hpos (by omega) c0
    · rw [if_neg hs]; exact head_213_whole g o n c l w hr hn hnc hm' hg (by omega) c0
  · rw [e] at c0 ⊢
    simp only [Int.reduceEq, if_false, if_true]
    by_cases hs : l.length < 2
    · rw [if_pos hs]; exact head_214_short g o n c w hnc hm' hg hpos (by omega) c0
    · rw [if_neg hs]; exact head_214_whole g o n c l w hr hn hnc hm' hg (by omega) c0
  · rw [e] at c0 ⊢
    simp only [Int.reduceEq, if_false, if_true]
    by_cases hs : l.length < 2
    · rw [if_pos hs]; exact head_215_short g o n c w hnc hm' hg hpos (by omega) c0
    · rw [if_neg hs]; exact head_215_whole g o n c l w hr hn hnc hm' hg (by omega) c0
  · rw [e] at c0 ⊢
    simp only [Int.reduceEq, if_false, if_true]
    by_cases hs : l.length < 2
    · rw [if_pos hs]; exact head_216_short g o n c w hnc hm' hg hpos (by omega) c0
    · rw [if_neg hs]; exact head_216_whole g o n c l w hr hn hnc hm' hg (by omega) c0
  · rw [e] at c0 ⊢
    simp only [Int.reduceEq, if_false, if_true]
    by_cases hs : l.length < 2
    · rw [if_pos hs]; exact head_217_short g o n c w hnc hm' hg hpos (by omega) c0
    · rw [if_neg hs]; exact head_217_whole g o n c l w hr hn hnc hm' hg (by omega) c0
  · rw [e] at c0 ⊢
    simp only [Int.reduceEq, if_false, if_true]
    by_cases hs : l.length < 3
    · rw [if_pos hs]; exact head_218_short g o n c w hnc hm' hg hpos (by omega) c0
    · rw [if_neg hs]; exact head_218_whole g o n c l w hr hn hnc hm' hg (by omega) c0
  · rw [e] at c0 ⊢
    simp only [Int.reduceEq, if_false, if_true]
    by_cases hs : l.length < 5
    · rw [if_pos hs]; exact head_219_short g o n c w hnc hm' hg hpos (by omega) c0
    · rw [if_neg hs]; exact head_219_whole g o n c l w hr hn hnc hm' hg (by omega) c0
  · rw [e] at c0 ⊢
    simp only [Int.reduceEq, if_false, if_true]
    by_cases hs : l.length < 3
    · rw [if_pos hs]; exact head_220_short g o n c w hnc hm' hg hpos (by omega) c0
    · rw [if_neg hs]; exact head_220_whole g o n c l w hr hn hnc hm' hg (by omega) c0
  · rw [e] at c0 ⊢
    simp only [Int.reduceEq, if_false, if_true]
    by_cases hs : l.length < 5
    · rw [if_pos hs]; exact head_221_short g o n c w hnc hm' hg hpos (by omega) c0
    · rw [if_neg hs]; exact head_221_whole g o n c l w hr hn hnc hm' hg (by omega) c0
  · rw [e] at c0 ⊢
    simp only [Int.reduceEq, if_false, if_true]
    by_cases hs : l.length < 3
    · rw [if_pos hs]; exact head_222_short g o n c w hnc hm' hg hpos (by omega) c0
    · rw [if_neg hs]; exact head_222_whole g o n c l w hr hn hnc hm' hg (by omega) c0
  · rw [e] at c0 ⊢
    simp only [Int.reduceEq, if_false, if_true]
    by_cases hs : l.length < 5
    · rw [if_pos hs]; exact head_223_short g o n c w hnc hm' hg hpos (by omega) c0
    · rw [if_neg hs]; exact head_223_whole g o n c l w hr hn hnc hm' hg (by omega) c0

end Go.Proofs.YtmhilpnagpkkiaaDoor
