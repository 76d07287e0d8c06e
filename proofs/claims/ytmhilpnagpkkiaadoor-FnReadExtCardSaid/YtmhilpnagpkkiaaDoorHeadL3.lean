/- The walk of the reference's HeadOf, first bytes from 196 on, part 3 of 4. Conditions: the slice reads as bytes. -/
import Derived.Test.YtmhilpnagpkkiaaDoorHeadDefs
namespace Go.Proofs.YtmhilpnagpkkiaaDoor
open Go Go.RowKit

set_option maxHeartbeats 1000000 in
set_option maxRecDepth 100000 in
theorem head_209_short (g o n c : Nat) (w : World) (_hnc : n ≤ c) (_hm : c ≤ 9223372036854775807) (hg : g < w.heap.size) (hn1 : 1 ≤ n) (hs : n < 3) (c0 : w.cell? ⟨g, o, none⟩ = some (.int .u8 209)) :
    Calls Tryd.prog 12 #[.slice (some ⟨g, o, none⟩) n c] w fun e w' => e = .returned (Hd.val ⟨3, 0, 0, 0, 0, true⟩) ∧ Below w.heap.size w w' := by
  have e0 : ((n : Int) == 0) = false := by simp; omega
  have hA : ∀ (W : World) (o' : Obj) (j : Nat), g < W.heap.size → (W.alloc o').cell? ⟨g, j, none⟩ = W.cell? ⟨g, j, none⟩ := fun W o' j h => World.cell?_alloc_lt W o' ⟨g, j, none⟩ h
  have g1 : g < w.heap.size + 1 := by omega
  have g2 : g < w.heap.size + 1 + 1 := by omega
  go_enter Tryd.func12, Tryd.ntmps12
  go_wp2_with fail
  refine bodyPost_ret (v := Hd.val ⟨3, 0, 0, 0, 0, true⟩) (by simp [results, Tryd.results12, go_sem]) rfl ⟨rfl, ?_⟩
  repeat (first | exact Below.refl _ _ | (refine Below.alloc ?_ (by simp <;> omega) _))

set_option maxHeartbeats 1000000 in
set_option maxRecDepth 100000 in
theorem head_209_pos (g o n c : Nat) (l : List Int) (w : World) (hr : Rd w (some ⟨g, o, none⟩) l) (hn : Hid (l.length = n)) (hnc : n ≤ c) (hm : c ≤ 9223372036854775807) (hg : g < w.heap.size) (hs : 3 ≤ n) (c0 : w.cell? ⟨g, o, none⟩ = some (.int .u8 209)) (hneg : be2 l 1 < 32768) :
    Calls Tryd.prog 12 #[.slice (some ⟨g, o, none⟩) n c] w fun e w' => e = .returned (Hd.val ⟨3, (be2 l 1), 0, 0, 3, false⟩) ∧ Below w.heap.size w w' := by
  have e0 : ((n : Int) == 0) = false := by simp; omega
  have hA : ∀ (W : World) (o' : Obj) (j : Nat), g < W.heap.size → (W.alloc o').cell? ⟨g, j, none⟩ = W.cell? ⟨g, j, none⟩ := fun W o' j h => World.cell?_alloc_lt W o' ⟨g, j, none⟩ h
  have g1 : g < w.heap.size + 1 := by omega
  have g2 : g < w.heap.size + 1 + 1 := by omega
  have e1 : ¬ c = 1 := by omega
  obtain ⟨b0, b1⟩ := be2_range hr.1 1
  go_enter Tryd.func12, Tryd.ntmps12
  go_wp2_with fail
  ((with_reducible refine (number_2 _ _ _ l _ ((hr.alloc _).alloc _) (by have := hn.out; omega)).mono ?_); rintro e w' ⟨rfl, rfl⟩)
  go_wp2_with fail
  ((with_reducible refine (signed_2_pos _ _ b0 hneg).mono ?_); rintro e w' ⟨rfl, rfl⟩)
  go_wp2_with fail
  refine bodyPost_ret (v := Hd.val ⟨3, (be2 l 1), 0, 0, 3, false⟩) (by simp [results, Tryd.results12, go_sem]) rfl ⟨rfl, ?_⟩
  repeat (first | exact Below.refl _ _ | (refine Below.alloc ?_ (by simp <;> omega) _))

set_option maxHeartbeats 1000000 in
set_option maxRecDepth 100000 in
theorem head_209_neg (g o n c : Nat) (l : List Int) (w : World) (hr : Rd w (some ⟨g, o, none⟩) l) (hn : Hid (l.length = n)) (hnc : n ≤ c) (hm : c ≤ 9223372036854775807) (hg : g < w.heap.size) (hs : 3 ≤ n) (c0 : w.cell? ⟨g, o, none⟩ = some (.int .u8 209)) (hneg : 32768 ≤ be2 l 1) :
    Calls Tryd.prog 12 #[.slice (some ⟨g, o, none⟩) n c] w fun e w' => e = .returned (Hd.val ⟨3, (be2 l 1 + 18446744073709486080), 0, 0, 3, false⟩) ∧ Below w.heap.size w w' := by
  have e0 : ((n : Int) == 0) = false := by simp; omega
  have hA : ∀ (W : World) (o' : Obj) (j : Nat), g < W.heap.size → (W.alloc o').cell? ⟨g, j, none⟩ = W.cell? ⟨g, j, none⟩ := fun W o' j h => World.cell?_alloc_lt W o' ⟨g, j, none⟩ h
  have g1 : g < w.heap.size + 1 := by omega
  have g2 : g < w.heap.size + 1 + 1 := by omega
  have e1 : ¬ c = 1 := by omega
  obtain ⟨b0, b1⟩ := be2_range hr.1 1
  go_enter Tryd.func12, Tryd.ntmps12
  go_wp2_with fail
  ((with_reducible refine (number_2 _ _ _ l _ ((hr.alloc _).alloc _) (by have := hn.out; omega)).mono ?_); rintro e w' ⟨rfl, rfl⟩)
  go_wp2_with fail
  ((with_reducible refine (signed_2_neg _ _ hneg b1).mono ?_); rintro e w' ⟨rfl, rfl⟩)
  go_wp2_with fail
  refine bodyPost_ret (v := Hd.val ⟨3, (be2 l 1 + 18446744073709486080), 0, 0, 3, false⟩) (by simp [results, Tryd.results12, go_sem]) rfl ⟨rfl, ?_⟩
  repeat (first | exact Below.refl _ _ | (refine Below.alloc ?_ (by simp <;> omega) _))

theorem head_209_whole (g o n c : Nat) (l : List Int) (w : World) (hr : Rd w (some ⟨g, o, none⟩) l) (hn : Hid (l.length = n)) (hnc : n ≤ c) (hm : c ≤ 9223372036854775807) (hg : g < w.heap.size) (hs : 3 ≤ n) (c0 : w.cell? ⟨g, o, none⟩ = some (.int .u8 209)) :
    Calls Tryd.prog 12 #[.slice (some ⟨g, o, none⟩) n c] w fun e w' => e = .returned (Hd.val ⟨3, sgn (be2 l 1) 2, 0, 0, 3, false⟩) ∧ Below w.heap.size w w' := by
  by_cases h : be2 l 1 < 32768
  · have e : sgn (be2 l 1) 2 = be2 l 1 := by rw [sgn, if_neg (by omega), if_pos rfl, if_pos h]
    rw [e]
    exact head_209_pos g o n c l w hr hn hnc hm hg hs c0 h
  · have e : sgn (be2 l 1) 2 = be2 l 1 + 18446744073709486080 := by rw [sgn, if_neg (by omega), if_pos rfl, if_neg h]
    rw [e]
    exact head_209_neg g o n c l w hr hn hnc hm hg hs c0 (by omega)

set_option maxHeartbeats 1000000 in
set_option maxRecDepth 100000 in
theorem head_210_short (g o n c : Nat) (w : World) (_hnc : n ≤ c) (_hm : c ≤ 9223372036854775807) (hg : g < w.heap.size) (hn1 : 1 ≤ n) (hs : n < 5) (c0 : w.cell? ⟨g, o, none⟩ = some (.int .u8 210)) :
    Calls Tryd.prog 12 #[.slice (some ⟨g, o, none⟩) n c] w fun e w' => e = .returned (Hd.val ⟨3, 0, 0, 0, 0, true⟩) ∧ Below w.heap.size w w' := by
  have e0 : ((n : Int) == 0) = false := by simp; omega
  have hA : ∀ (W : World) (o' : Obj) (j : Nat), g < W.heap.size → (W.alloc o').cell? ⟨g, j, none⟩ = W.cell? ⟨g, j, none⟩ := fun W o' j h => World.cell?_alloc_lt W o' ⟨g, j, none⟩ h
  have g1 : g < w.heap.size + 1 := by omega
  have g2 : g < w.heap.size + 1 + 1 := by omega
  go_enter Tryd.func12, Tryd.ntmps12
  go_wp2_with fail
  refine bodyPost_ret (v := Hd.val ⟨3, 0, 0, 0, 0, true⟩) (by simp [results, Tryd.results12, go_sem]) rfl ⟨rfl, ?_⟩
  repeat (first | exact Below.refl _ _ | (refine Below.alloc ?_ (by simp <;> omega) _))

set_option maxHeartbeats 1000000 in
set_option maxRecDepth 100000 in
theorem head_210_pos (g o n c : Nat) (l : List Int) (w : World) (hr : Rd w (some ⟨g, o, none⟩) l) (hn : Hid (l.length = n)) (hnc : n ≤ c) (hm : c ≤ 9223372036854775807) (hg : g < w.heap.size) (hs : 5 ≤ n) (c0 : w.cell? ⟨g, o, none⟩ = some (.int .u8 210)) (hneg : be4 l 1 < 2147483648) :
    Calls Tryd.prog 12 #[.slice (some ⟨g, o, none⟩) n c] w fun e w' => e = .returned (Hd.val ⟨3, (be4 l 1), 0, 0, 5, false⟩) ∧ Below w.heap.size w w' := by
  have e0 : ((n : Int) == 0) = false := by simp; omega
  have hA : ∀ (W : World) (o' : Obj) (j : Nat), g < W.heap.size → (W.alloc o').cell? ⟨g, j, none⟩ = W.cell? ⟨g, j, none⟩ := fun W o' j h => World.cell?_alloc_lt W o' ⟨g, j, none⟩ h
  have g1 : g < w.heap.size + 1 := by omega
  have g2 : g < w.heap.size + 1 + 1 := by omega
  have e1 : ¬ c = 1 := by omega
  obtain ⟨b0, b1⟩ := be4_range hr.1 1
  go_enter Tryd.func12, Tryd.ntmps12
  go_wp2_with fail
  ((with_reducible refine (number_4 _ _ _ l _ ((hr.alloc _).alloc _) (by have := hn.out; omega)).mono ?_); rintro e w' ⟨rfl, rfl⟩)
  go_wp2_with fail
  ((with_reducible refine (signed_4_pos _ _ b0 hneg).mono ?_); rintro e w' ⟨rfl, rfl⟩)
  go_wp2_with fail
  refine bodyPost_ret (v := Hd.val ⟨3, (be4 l 1), 0, 0, 5, false⟩) (by simp [results, Tryd.results12, go_sem]) rfl ⟨rfl, ?_⟩
  repeat (first | exact Below.refl _ _ | (refine Below.alloc ?_ (by simp <;> omega) _))

set_option maxHeartbeats 1000000 in
set_option maxRecDepth 100000 in
theorem head_210_neg (g o n c : Nat) (l : List Int) (w : World) (hr : Rd w (some ⟨g, o, none⟩) l) (hn : Hid (l.length = n)) (hnc : n ≤ c) (hm : c ≤ 9223372036854775807) (hg : g < w.heap.size) (hs : 5 ≤ n) (c0 : w.cell? ⟨g, o, none⟩ = some (.int .u8 210)) (hneg : 2147483648 ≤ be4 l 1) :
    Calls Tryd.prog 12 #[.slice (some ⟨g, o, none⟩) n c] w fun e w' => e = .returned (Hd.val ⟨3, (be4 l 1 + 18446744069414584320), 0, 0, 5, false⟩) ∧ Below w.heap.size w w' := by
  have e0 : ((n : Int) == 0) = false := by simp; omega
  have hA : ∀ (W : World) (o' : Obj) (j : Nat), g < W.heap.size → (W.alloc o').cell? ⟨g, j, none⟩ = W.cell? ⟨g, j, none⟩ := fun W o' j h => World.cell?_alloc_lt W o' ⟨g, j, none⟩ h
  have g1 : g < w.heap.size + 1 := by omega
  have g2 : g < w.heap.size + 1 + 1 := by omega
  have e1 : ¬ c = 1 := by omega
  obtain ⟨b0, b1⟩ := be4_range hr.1 1
  go_enter Tryd.func12, Tryd.ntmps12
  go_wp2_with fail
  ((with_reducible refine (number_4 _ _ _ l _ ((hr.alloc _).alloc _) (by have := hn.out; omega)).mono ?_); rintro e w' ⟨rfl, rfl⟩)
  go_wp2_with fail
  ((with_reducible refine (signed_4_neg _ _ hneg b1).mono ?_); rintro e w' ⟨rfl, rfl⟩)
  go_wp2_with fail
  refine bodyPost_ret (v := Hd.val ⟨3, (be4 l 1 + 18446744069414584320), 0, 0, 5, false⟩) (by simp [results, Tryd.results12, go_sem]) rfl ⟨rfl, ?_⟩
  repeat (first | exact Below.refl _ _ | (refine Below.alloc ?_ (by simp <;> omega) _))

theorem head_210_whole (g o n c : Nat) (l : List Int) (w : World) (hr : Rd w (some ⟨g, o, none⟩) l) (hn : Hid (l.length = n)) (hnc : n ≤ c) (hm : c ≤ 9223372036854775807) (hg : g < w.heap.size) (hs : 5 ≤ n) (c0 : w.cell? ⟨g, o, none⟩ = some (.int .u8 210)) :
    Calls Tryd.prog 12 #[.slice (some ⟨g, o, none⟩) n c] w fun e w' => e = .returned (Hd.val ⟨3, sgn (be4 l 1) 4, 0, 0, 5, false⟩) ∧ Below w.heap.size w w' := by
  by_cases h : be4 l 1 < 2147483648
  · have e : sgn (be4 l 1) 4 = be4 l 1 := by rw [sgn, if_neg (by omega), if_neg (by omega), if_pos rfl, if_pos h]
    rw [e]
    exact head_210_pos g o n c l w hr hn hnc hm hg hs c0 h
  · have e : sgn (be4 l 1) 4 = be4 l 1 + 18446744069414584320 := by rw [sgn, if_neg (by omega), if_neg (by omega), if_pos rfl, if_neg h]
    rw [e]
    exact head_210_neg g o n c l w hr hn hnc hm hg hs c0 (by omega)

set_option maxHeartbeats 1000000 in
set_option maxRecDepth 100000 in
theorem head_211_short (g o n c : Nat) (w : World) (_hnc : n ≤ c) (_hm : c ≤ 9223372036854775807) (hg : g < w.heap.size) (hn1 : 1 ≤ n) (hs : n < 9) (c0 : w.cell? ⟨g, o, none⟩ = some (.int .u8 211)) :
    Calls Tryd.prog 12 #[.slice (some ⟨g, o, none⟩) n c] w fun e w' => e = .returned (Hd.val ⟨3, 0, 0, 0, 0, true⟩) ∧ Below w.heap.size w w' := by
  have e0 : ((n : Int) == 0) = false := by simp; omega
  have hA : ∀ (W : World) (o' : Obj) (j : Nat), g < W.heap.size → (W.alloc o').cell? ⟨g, j, none⟩ = W.cell? ⟨g, j, none⟩ := fun W o' j h => World.cell?_alloc_lt W o' ⟨g, j, none⟩ h
  have g1 : g < w.heap.size + 1 := by omega
  have g2 : g < w.heap.size + 1 + 1 := by omega
  go_enter Tryd.func12, Tryd.ntmps12
  go_wp2_with fail
  refine bodyPost_ret (v := Hd.val ⟨3, 0, 0, 0, 0, true⟩) (by simp [results, Tryd.results12, go_sem]) rfl ⟨rfl, ?_⟩
  repeat (first | exact Below.refl _ _ | (refine Below.alloc ?_ (by simp <;> omega) _))

set_option maxHeartbeats 1000000 in
set_option maxRecDepth 100000 in
theorem head_211_pos (g o n c : Nat) (l : List Int) (w : World) (hr : Rd w (some ⟨g, o, none⟩) l) (hn : Hid (l.length = n)) (hnc : n ≤ c) (hm : c ≤ 9223372036854775807) (hg : g < w.heap.size) (hs : 9 ≤ n) (c0 : w.cell? ⟨g, o, none⟩ = some (.int .u8 211)) (hneg : be8 l 1 < 9223372036854775808) :
    Calls Tryd.prog 12 #[.slice (some ⟨g, o, none⟩) n c] w fun e w' => e = .returned (Hd.val ⟨3, (be8 l 1), 0, 0, 9, false⟩) ∧ Below w.heap.size w w' := by
  have e0 : ((n : Int) == 0) = false := by simp; omega
  have hA : ∀ (W : World) (o' : Obj) (j : Nat), g < W.heap.size → (W.alloc o').cell? ⟨g, j, none⟩ = W.cell? ⟨g, j, none⟩ := fun W o' j h => World.cell?_alloc_lt W o' ⟨g, j, none⟩ h
  have g1 : g < w.heap.size + 1 := by omega
  have g2 : g < w.heap.size + 1 + 1 := by omega
  have e1 : ¬ c = 1 := by omega
  obtain ⟨b0, b1⟩ := be8_range hr.1 1
  go_enter Tryd.func12, Tryd.ntmps12
  go_wp2_with fail
  ((with_reducible refine (number_8 _ _ _ l _ ((hr.alloc _).alloc _) (by have := hn.out; omega)).mono ?_); rintro e w' ⟨rfl, rfl⟩)
  go_wp2_with fail
  ((with_reducible refine (signed_8_pos _ _ b0 hneg).mono ?_); rintro e w' ⟨rfl, rfl⟩)
  go_wp2_with fail
  refine bodyPost_ret (v := Hd.val ⟨3, (be8 l 1), 0, 0, 9, false⟩) (by simp [results, Tryd.results12, go_sem]) rfl ⟨rfl, ?_⟩
  repeat (first | exact Below.refl _ _ | (refine Below.alloc ?_ (by simp <;> omega) _))

set_option maxHeartbeats 1000000 in
set_option maxRecDepth 100000 in
theorem head_211_neg (g o n c : Nat) (l : List Int) (w : World) (hr : Rd w (some ⟨g, o, none⟩) l) (hn : Hid (l.length = n)) (hnc : n ≤ c) (hm : c ≤ 9223372036854775807) (hg : g < w.heap.size) (hs : 9 ≤ n) (c0 : w.cell? ⟨g, o, none⟩ = some (.int .u8 211)) (hneg : 9223372036854775808 ≤ be8 l 1) :
    Calls Tryd.prog 12 #[.slice (some ⟨g, o, none⟩) n c] w fun e w' => e = .returned (Hd.val ⟨3, (be8 l 1), 0, 0, 9, false⟩) ∧ Below w.heap.size w w' := by
  have e0 : ((n : Int) == 0) = false := by simp; omega
  have hA : ∀ (W : World) (o' : Obj) (j : Nat), g < W.heap.size → (W.alloc o').cell? ⟨g, j, none⟩ = W.cell? ⟨g, j, none⟩ := fun W o' j h => World.cell?_alloc_lt W o' ⟨g, j, none⟩ h
  have g1 : g < w.heap.size + 1 := by omega
  have g2 : g < w.heap.size + 1 + 1 := by omega
  have e1 : ¬ c = 1 := by omega
  obtain ⟨b0, b1⟩ := be8_range hr.1 1
  go_enter Tryd.func12, Tryd.ntmps12
  go_wp2_with fail
  ((with_reducible refine (number_8 _ _ _ l _ ((hr.alloc _).alloc _) (by have := hn.out; omega)).mono ?_); rintro e w' ⟨rfl, rfl⟩)
  go_wp2_with fail
  ((with_reducible refine (signed_8_neg _ _ hneg b1).mono ?_); rintro e w' ⟨rfl, rfl⟩)
  go_wp2_with fail
  refine bodyPost_ret (v := Hd.val ⟨3, (be8 l 1), 0, 0, 9, false⟩) (by simp [results, Tryd.results12, go_sem]) rfl ⟨rfl, ?_⟩
  repeat (first | exact Below.refl _ _ | (refine Below.alloc ?_ (by simp <;> omega) _))

theorem head_211_whole (g o n c : Nat) (l : List Int) (w : World) (hr : Rd w (some ⟨g, o, none⟩) l) (hn : Hid (l.length = n)) (hnc : n ≤ c) (hm : c ≤ 9223372036854775807) (hg : g < w.heap.size) (hs : 9 ≤ n) (c0 : w.cell? ⟨g, o, none⟩ = some (.int .u8 211)) :
    Calls Tryd.prog 12 #[.slice (some ⟨g, o, none⟩) n c] w fun e w' => e = .returned (Hd.val ⟨3, sgn (be8 l 1) 8, 0, 0, 9, false⟩) ∧ Below w.heap.size w w' := by
  by_cases h : be8 l 1 < 9223372036854775808
  · have e : sgn (be8 l 1) 8 = be8 l 1 := by rw [sgn, if_neg (by omega), if_neg (by omega), if_neg (by omega)]
    rw [e]
    exact head_211_pos g o n c l w hr hn hnc hm hg hs c0 h
  · have e : sgn (be8 l 1) 8 = be8 l 1 := by rw [sgn, if_neg (by omega), if_neg (by omega), if_neg (by omega)]
    rw [e]
    exact head_211_neg g o n c l w hr hn hnc hm hg hs c0 (by omega)

set_option maxHeartbeats 1000000 in
set_option maxRecDepth 100000 in
theorem head_212_short (g o n c : Nat) (w : World) (_hnc : n ≤ c) (_hm : c ≤ 9223372036854775807) (hg : g < w.heap.size) (hn1 : 1 ≤ n) (hs : n < 2) (c0 : w.cell? ⟨g, o, none⟩ = some (.int .u8 212)) :
    Calls Tryd.prog 12 #[.slice (some ⟨g, o, none⟩) n c] w fun e w' => e = .returned (Hd.val ⟨11, 0, 0, 0, 0, true⟩) ∧ Below w.heap.size w w' := by
  have e0 : ((n : Int) == 0) = false := by simp; omega
  have hA : ∀ (W : World) (o' : Obj) (j : Nat), g < W.heap.size → (W.alloc o').cell? ⟨g, j, none⟩ = W.cell? ⟨g, j, none⟩ := fun W o' j h => World.cell?_alloc_lt W o' ⟨g, j, none⟩ h
  have g1 : g < w.heap.size + 1 := by omega
  have g2 : g < w.heap.size + 1 + 1 := by omega
  go_enter Tryd.func12, Tryd.ntmps12
  go_wp2_with fail
  refine bodyPost_ret (v := Hd.val ⟨11, 0, 0, 0, 0, true⟩) (by simp [results, Tryd.results12, go_sem]) rfl ⟨rfl, ?_⟩
  repeat (first | exact Below.refl _ _ | (refine Below.alloc ?_ (by simp <;> omega) _))

set_option maxHeartbeats 1000000 in
set_option maxRecDepth 100000 in
theorem head_212_whole (g o n c : Nat) (l : List Int) (w : World) (hr : Rd w (some ⟨g, o, none⟩) l) (hn : Hid (l.length = n)) (hnc : n ≤ c) (hm : c ≤ 9223372036854775807) (hg : g < w.heap.size) (hs : 2 ≤ n) (c0 : w.cell? ⟨g, o, none⟩ = some (.int .u8 212)) :
    Calls Tryd.prog 12 #[.slice (some ⟨g, o, none⟩) n c] w fun e w' => e = .returned (Hd.val ⟨11, 0, 1, (s8 (at_ l 1)), 2, false⟩) ∧ Below w.heap.size w w' := by
  have e0 : ((n : Int) == 0) = false := by simp; omega
  have hA : ∀ (W : World) (o' : Obj) (j : Nat), g < W.heap.size → (W.alloc o').cell? ⟨g, j, none⟩ = W.cell? ⟨g, j, none⟩ := fun W o' j h => World.cell?_alloc_lt W o' ⟨g, j, none⟩ h
  have g1 : g < w.heap.size + 1 := by omega
  have g2 : g < w.heap.size + 1 + 1 := by omega
  have e1 : ¬ c = 1 := by omega
  have cT : w.cell? ⟨g, o + 1, none⟩ = some (.int .u8 (at_ l 1)) := by
    obtain ⟨g', o', hA', -, hc⟩ := hr.2 (by have := hn.out; omega)
    injection hA' with hA'
    injection hA' with h1 h2
    subst h1; subst h2
    exact hc 1 (by have := hn.out; omega)
  go_enter Tryd.func12, Tryd.ntmps12
  go_wp2_with fail
  ((with_reducible refine (number_0 _ _ _ _).mono ?_); rintro e w' ⟨rfl, rfl⟩)
  go_wp2_with fail
  refine bodyPost_ret (v := Hd.val ⟨11, 0, 1, (s8 (at_ l 1)), 2, false⟩) (by simp [results, Tryd.results12, go_sem, s8]) rfl ⟨rfl, ?_⟩
  repeat (first | exact Below.refl _ _ | (refine Below.alloc ?_ (by simp <;> omega) _))

set_option maxHeartbeats 1000000 in
set_option maxRecDepth 100000 in
theorem head_213_short (g o n c : Nat) (w : World) (_hnc : n ≤ c) (_hm : c ≤ 9223372036854775807) (hg : g < w.heap.size) (hn1 : 1 ≤ n) (hs : n < 2) (c0 : w.cell? ⟨g, o, none⟩ = some (.int .u8 213)) :
    Calls Tryd.prog 12 #[.slice (some ⟨g, o, none⟩) n c] w fun e w' => e = .returned (Hd.val ⟨11, 0, 0, 0, 0, true⟩) ∧ Below w.heap.size w w' := by
  have e0 : ((n : Int) == 0) = false := by simp; omega
  have hA : ∀ (W : World) (o' : Obj) (j : Nat), g < W.heap.size → (W.alloc o').cell? ⟨g, j, none⟩ = W.cell? ⟨g, j, none⟩ := fun W o' j h => World.cell?_alloc_lt W o' ⟨g, j, none⟩ h
  have g1 : g < w.heap.size + 1 := by omega
  have g2 : g < w.heap.size + 1 + 1 := by omega
  go_enter Tryd.func12, Tryd.ntmps12
  go_wp2_with fail
  refine bodyPost_ret (v := Hd.val ⟨11, 0, 0, 0, 0, true⟩) (by simp [results, Tryd.results12, go_sem]) rfl ⟨rfl, ?_⟩
  repeat (first | exact Below.refl _ _ | (refine Below.alloc ?_ (by simp <;> omega) _))

set_option maxHeartbeats 1000000 in
set_option maxRecDepth 100000 in
theorem head_213_whole (g o n c : Nat) (l : List Int) (w : World) (hr : Rd w (some ⟨g, o, none⟩) l) (hn : Hid (l.length = n)) (hnc : n ≤ c) (hm : c ≤ 9223372036854775807) (hg : g < w.heap.size) (hs : 2 ≤ n) (c0 : w.cell? ⟨g, o, none⟩ = some (.int .u8 213)) :
    Calls Tryd.prog 12 #[.slice (some ⟨g, o, none⟩) n c] w fun e w' => e = .returned (Hd.val ⟨11, 0, 2, (s8 (at_ l 1)), 2, false⟩) ∧ Below w.heap.size w w' := by
  have e0 : ((n : Int) == 0) = false := by simp; omega
  have hA : ∀ (W : World) (o' : Obj) (j : Nat), g < W.heap.size → (W.alloc o').cell? ⟨g, j, none⟩ = W.cell? ⟨g, j, none⟩ := fun W o' j h => World.cell?_alloc_lt W o' ⟨g, j, none⟩ h
  have g1 : g < w.heap.size + 1 := by omega
  have g2 : g < w.heap.size + 1 + 1 := by omega
  have e1 : ¬ c = 1 := by omega
  have cT : w.cell? ⟨g, o + 1, none⟩ = some (.int .u8 (at_ l 1)) := by
    obtain ⟨g', o', hA', -, hc⟩ := hr.2 (by have := hn.out; omega)
    injection hA' with hA'
    injection hA' with h1 h2
    subst h1; subst h2
    exact hc 1 (by have := hn.out; omega)
  go_enter Tryd.func12, Tryd.ntmps12
  go_wp2_with fail
  ((with_reducible refine (number_0 _ _ _ _).mono ?_); rintro e w' ⟨rfl, rfl⟩)
  go_wp2_with fail
  refine bodyPost_ret (v := Hd.val ⟨11, 0, 2, (s8 (at_ l 1)), 2, false⟩) (by simp [results, Tryd.results12, go_sem, s8]) rfl ⟨rfl, ?_⟩
  repeat (first | exact Below.refl _ _ | (refine Below.alloc ?_ (by simp <;> omega) _))

set_option maxHeartbeats 1000000 in
set_option maxRecDepth 100000 in
theorem head_214_short (g o n c : Nat) (w : World) (_hnc : n ≤ c) (_hm : c ≤ 9223372036854775807) (hg : g < w.heap.size) (hn1 : 1 ≤ n) (hs : n < 2) (c0 : w.cell? ⟨g, o, none⟩ = some (.int .u8 214)) :
    Calls Tryd.prog 12 #[.slice (some ⟨g, o, none⟩) n c] w fun e w' => e = .returned (Hd.val ⟨11, 0, 0, 0, 0, true⟩) ∧ Below w.heap.size w w' := by
  have e0 : ((n : Int) == 0) = false := by simp; omega
  have hA : ∀ (W : World) (o' : Obj) (j : Nat), g < W.heap.size → (W.alloc o').cell? ⟨g, j, none⟩ = W.cell? ⟨g, j, none⟩ := fun W o' j h => World.cell?_alloc_lt W o' ⟨g, j, none⟩ h
  have g1 : g < w.heap.size + 1 := by omega
  have g2 : g < w.heap.size + 1 + 1 := by omega
  go_enter Tryd.func12, Tryd.ntmps12
  go_wp2_with fail
  refine bodyPost_ret (v := Hd.val ⟨11, 0, 0, 0, 0, true⟩) (by simp [results, Tryd.results12, go_sem]) rfl ⟨rfl, ?_⟩
  repeat (first | exact Below.refl _ _ | (refine Below.alloc ?_ (by simp <;> omega) _))

set_option maxHeartbeats 1000000 in
set_option maxRecDepth 100000 in
theorem head_214_whole (g o n c : Nat) (l : List Int) (w : World) (hr : Rd w (some ⟨g, o, none⟩) l) (hn : Hid (l.length = n)) (hnc : n ≤ c) (hm : c ≤ 9223372036854775807) (hg : g < w.heap.size) (hs : 2 ≤ n) (c0 : w.cell? ⟨g, o, none⟩ = some (.int .u8 214)) :
    Calls Tryd.prog 12 #[.slice (some ⟨g, o, none⟩) n c] w fun e w' => e = .returned (Hd.val ⟨11, 0, 4, (s8 (at_ l 1)), 2, false⟩) ∧ Below w.heap.size w w' := by
  have e0 : ((n : Int) == 0) = false := by simp; omega
  have hA : ∀ (W : World) (o' : Obj) (j : Nat), g < W.heap.size → (W.alloc o').cell? ⟨g, j, none⟩ = W.cell? ⟨g, j, none⟩ := fun W o' j h => World.cell?_alloc_lt W o' ⟨g, j, none⟩ h
  have g1 : g < w.heap.size + 1 := by omega
  have g2 : g < w.heap.size + 1 + 1 := by omega
  have e1 : ¬ c = 1 := by omega
  have cT : w.cell? ⟨g, o + 1, none⟩ = some (.int .u8 (at_ l 1)) := by
    obtain ⟨g', o', hA', -, hc⟩ := hr.2 (by have := hn.out; omega)
    injection hA' with hA'
    injection hA' with h1 h2
    subst h1; subst h2
    exact hc 1 (by have := hn.out; omega)
  go_enter Tryd.func12, Tryd.ntmps12
  go_wp2_with fail
  ((with_reducible refine (number_0 _ _ _ _).mono ?_); rintro e w' ⟨rfl, rfl⟩)
  go_wp2_with fail
  refine bodyPost_ret (v := Hd.val ⟨11, 0, 4, (s8 (at_ l 1)), 2, false⟩) (by simp [results, Tryd.results12, go_sem, s8]) rfl ⟨rfl, ?_⟩
  repeat (first | exact Below.refl _ _ | (refine Below.alloc ?_ (by simp <;> omega) _))

set_option maxHeartbeats 1000000 in
set_option maxRecDepth 100000 in
theorem head_215_short (g o n c : Nat) (w : World) (_hnc : n ≤ c) (_hm : c ≤ 9223372036854775807) (hg : g < w.heap.size) (hn1 : 1 ≤ n) (hs : n < 2) (c0 : w.cell? ⟨g, o, none⟩ = some (.int .u8 215)) :
    Calls Tryd.prog 12 #[.slice (some ⟨g, o, none⟩) n c] w fun e w' => e = .returned (Hd.val ⟨11, 0, 0, 0, 0, true⟩) ∧ Below w.heap.size w w' := by
  have e0 : ((n : Int) == 0) = false := by simp; omega
  have hA : ∀ (W : World) (o' : Obj) (j : Nat), g < W.heap.size → (W.alloc o').cell? ⟨g, j, none⟩ = W.cell? ⟨g, j, none⟩ := fun W o' j h => World.cell?_alloc_lt W o' ⟨g, j, none⟩ h
  have g1 : g < w.heap.size + 1 := by omega
  have g2 : g < w.heap.size + 1 + 1 := by omega
  go_enter Tryd.func12, Tryd.ntmps12
  go_wp2_with fail
  refine bodyPost_ret (v := Hd.val ⟨11, 0, 0, 0, 0, true⟩) (by simp [results, Tryd.results12, go_sem]) rfl ⟨rfl, ?_⟩
  repeat (first | exact Below.refl _ _ | (refine Below.alloc ?_ (by simp <;> omega) _))

set_option maxHeartbeats 1000000 in
set_option maxRecDepth 100000 in
theorem head_215_whole (g o n c : Nat) (l : List Int) (w : World) (hr : Rd w (some ⟨g, o, none⟩) l) (hn : Hid (l.length = n)) (hnc : n ≤ c) (hm : c ≤ 9223372036854775807) (hg : g < w.heap.size) (hs : 2 ≤ n) (c0 : w.cell? ⟨g, o, none⟩ = some (.int .u8 215)) :
    Calls Tryd.prog 12 #[.slice (some ⟨g, o, none⟩) n c] w fun e w' => e = .returned (Hd.val ⟨11, 0, 8, (s8 (at_ l 1)), 2, false⟩) ∧ Below w.heap.size w w' := by
  have e0 : ((n : Int) == 0) = false := by simp; omega
  have hA : ∀ (W : World) (o' : Obj) (j : Nat), g < W.heap.size → (W.alloc o').cell? ⟨g, j, none⟩ = W.cell? ⟨g, j, none⟩ := fun W o' j h => World.cell?_alloc_lt W o' ⟨g, j, none⟩ h
  have g1 : g < w.heap.size + 1 := by omega
  have g2 : g < w.heap.size + 1 + 1 := by omega
  have e1 : ¬ c = 1 := by omega
  have cT : w.cell? ⟨g, o + 1, none⟩ = some (.int .u8 (at_ l 1)) := by
    obtain ⟨g', o', hA', -, hc⟩ := hr.2 (by have := hn.out; omega)
    injection hA' with hA'
    injection hA' with h1 h2
    subst h1; subst h2
    exact hc 1 (by have := hn.out; omega)
  go_enter Tryd.func12, Tryd.ntmps12
  go_wp2_with fail
  ((with_reducible refine (number_0 _ _ _ _).mono ?_); rintro e w' ⟨rfl, rfl⟩)
  go_wp2_with fail
  refine bodyPost_ret (v := Hd.val ⟨11, 0, 8, (s8 (at_ l 1)), 2, false⟩) (by simp [results, Tryd.results12, go_sem, s8]) rfl ⟨rfl, ?_⟩
  repeat (first | exact Below.refl _ _ | (refine Below.alloc ?_ (by simp <;> omega) _))


end Go.Proofs.YtmhilpnagpkkiaaDoor
