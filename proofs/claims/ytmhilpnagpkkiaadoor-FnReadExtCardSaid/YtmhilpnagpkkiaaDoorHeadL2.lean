/- The walk of the reference's HeadOf, first bytes from 196 on, part 2 of 4. Conditions: the slice reads as bytes. -/
import Derived.Test.YtmhilpnagpkkiaaDoorHeadDefs
namespace Go.Proofs.YtmhilpnagpkkiaaDoor
open Go Go.RowKit

set_option maxHeartbeats 1000000 in
set_option maxRecDepth 100000 in
theorem head_203_short (g o n c : Nat) (w : World) (_hnc : n ≤ c) (_hm : c ≤ 9223372036854775807) (hg : g < w.heap.size) (hn1 : 1 ≤ n) (hs : n < 9) (c0 : w.cell? ⟨g, o, none⟩ = some (.int .u8 203)) :
    Calls Tryd.prog 12 #[.slice (some ⟨g, o, none⟩) n c] w fun e w' => e = .returned (Hd.val ⟨6, 0, 0, 0, 0, true⟩) ∧ Below w.heap.size w w' := by
  have e0 : ((n : Int) == 0) = false := by simp; omega
  have hA : ∀ (W : World) (o' : Obj) (j : Nat), g < W.heap.size → (W.alloc o').cell? ⟨g, j, none⟩ = W.cell? ⟨g, j, none⟩ := fun W o' j h => World.cell?_alloc_lt W o' ⟨g, j, none⟩ h
  have g1 : g < w.heap.size + 1 := by omega
  have g2 : g < w.heap.size + 1 + 1 := by omega
  go_enter Tryd.func12, Tryd.ntmps12
  go_wp2_with fail
  refine bodyPost_ret (v := Hd.val ⟨6, 0, 0, 0, 0, true⟩) (by simp [results, Tryd.results12, go_sem]) rfl ⟨rfl, ?_⟩
  repeat (first | exact Below.refl _ _ | (refine Below.alloc ?_ (by simp <;> omega) _))

set_option maxHeartbeats 1000000 in
set_option maxRecDepth 100000 in
theorem head_203_whole (g o n c : Nat) (l : List Int) (w : World) (hr : Rd w (some ⟨g, o, none⟩) l) (hn : Hid (l.length = n)) (hnc : n ≤ c) (hm : c ≤ 9223372036854775807) (hg : g < w.heap.size) (hs : 9 ≤ n) (c0 : w.cell? ⟨g, o, none⟩ = some (.int .u8 203)) :
    Calls Tryd.prog 12 #[.slice (some ⟨g, o, none⟩) n c] w fun e w' => e = .returned (Hd.val ⟨6, (be8 l 1), 0, 0, 9, false⟩) ∧ Below w.heap.size w w' := by
  have e0 : ((n : Int) == 0) = false := by simp; omega
  have hA : ∀ (W : World) (o' : Obj) (j : Nat), g < W.heap.size → (W.alloc o').cell? ⟨g, j, none⟩ = W.cell? ⟨g, j, none⟩ := fun W o' j h => World.cell?_alloc_lt W o' ⟨g, j, none⟩ h
  have g1 : g < w.heap.size + 1 := by omega
  have g2 : g < w.heap.size + 1 + 1 := by omega
  have e1 : ¬ c = 1 := by omega
  obtain ⟨b0, b1⟩ := be8_range hr.1 1
  go_enter Tryd.func12, Tryd.ntmps12
  go_wp2_with fail
  ((with_reducible refine (number_8 _ _ _ l _ ((hr.alloc _).alloc _) (by have := hn.out; omega)).mono ?_); rintro e w' ⟨rfl, rfl⟩)
  go_wp2_with fail
  refine bodyPost_ret (v := Hd.val ⟨6, (be8 l 1), 0, 0, 9, false⟩) (by simp [results, Tryd.results12, go_sem]) rfl ⟨rfl, ?_⟩
  repeat (first | exact Below.refl _ _ | (refine Below.alloc ?_ (by simp <;> omega) _))

set_option maxHeartbeats 1000000 in
set_option maxRecDepth 100000 in
theorem head_204_short (g o n c : Nat) (w : World) (_hnc : n ≤ c) (_hm : c ≤ 9223372036854775807) (hg : g < w.heap.size) (hn1 : 1 ≤ n) (hs : n < 2) (c0 : w.cell? ⟨g, o, none⟩ = some (.int .u8 204)) :
    Calls Tryd.prog 12 #[.slice (some ⟨g, o, none⟩) n c] w fun e w' => e = .returned (Hd.val ⟨4, 0, 0, 0, 0, true⟩) ∧ Below w.heap.size w w' := by
  have e0 : ((n : Int) == 0) = false := by simp; omega
  have hA : ∀ (W : World) (o' : Obj) (j : Nat), g < W.heap.size → (W.alloc o').cell? ⟨g, j, none⟩ = W.cell? ⟨g, j, none⟩ := fun W o' j h => World.cell?_alloc_lt W o' ⟨g, j, none⟩ h
  have g1 : g < w.heap.size + 1 := by omega
  have g2 : g < w.heap.size + 1 + 1 := by omega
  go_enter Tryd.func12, Tryd.ntmps12
  go_wp2_with fail
  refine bodyPost_ret (v := Hd.val ⟨4, 0, 0, 0, 0, true⟩) (by simp [results, Tryd.results12, go_sem]) rfl ⟨rfl, ?_⟩
  repeat (first | exact Below.refl _ _ | (refine Below.alloc ?_ (by simp <;> omega) _))

set_option maxHeartbeats 1000000 in
set_option maxRecDepth 100000 in
theorem head_204_whole (g o n c : Nat) (l : List Int) (w : World) (hr : Rd w (some ⟨g, o, none⟩) l) (hn : Hid (l.length = n)) (hnc : n ≤ c) (hm : c ≤ 9223372036854775807) (hg : g < w.heap.size) (hs : 2 ≤ n) (c0 : w.cell? ⟨g, o, none⟩ = some (.int .u8 204)) :
    Calls Tryd.prog 12 #[.slice (some ⟨g, o, none⟩) n c] w fun e w' => e = .returned (Hd.val ⟨4, (at_ l 1), 0, 0, 2, false⟩) ∧ Below w.heap.size w w' := by
  have e0 : ((n : Int) == 0) = false := by simp; omega
  have hA : ∀ (W : World) (o' : Obj) (j : Nat), g < W.heap.size → (W.alloc o').cell? ⟨g, j, none⟩ = W.cell? ⟨g, j, none⟩ := fun W o' j h => World.cell?_alloc_lt W o' ⟨g, j, none⟩ h
  have g1 : g < w.heap.size + 1 := by omega
  have g2 : g < w.heap.size + 1 + 1 := by omega
  have e1 : ¬ c = 1 := by omega
  obtain ⟨b0, b1⟩ := hr.1.at_ 1
  go_enter Tryd.func12, Tryd.ntmps12
  go_wp2_with fail
  ((with_reducible refine (number_1 _ _ _ l _ ((hr.alloc _).alloc _) (by have := hn.out; omega)).mono ?_); rintro e w' ⟨rfl, rfl⟩)
  go_wp2_with fail
  refine bodyPost_ret (v := Hd.val ⟨4, (at_ l 1), 0, 0, 2, false⟩) (by simp [results, Tryd.results12, go_sem]) rfl ⟨rfl, ?_⟩
  repeat (first | exact Below.refl _ _ | (refine Below.alloc ?_ (by simp <;> omega) _))

set_option maxHeartbeats 1000000 in
set_option maxRecDepth 100000 in
theorem head_205_short (g o n c : Nat) (w : World) (_hnc : n ≤ c) (_hm : c ≤ 9223372036854775807) (hg : g < w.heap.size) (hn1 : 1 ≤ n) (hs : n < 3) (c0 : w.cell? ⟨g, o, none⟩ = some (.int .u8 205)) :
    Calls Tryd.prog 12 #[.slice (some ⟨g, o, none⟩) n c] w fun e w' => e = .returned (Hd.val ⟨4, 0, 0, 0, 0, true⟩) ∧ Below w.heap.size w w' := by
  have e0 : ((n : Int) == 0) = false := by simp; omega
  have hA : ∀ (W : World) (o' : Obj) (j : Nat), g < W.heap.size → (W.alloc o').cell? ⟨g, j, none⟩ = W.cell? ⟨g, j, none⟩ := fun W o' j h => World.cell?_alloc_lt W o' ⟨g, j, none⟩ h
  have g1 : g < w.heap.size + 1 := by omega
  have g2 : g < w.heap.size + 1 + 1 := by omega
  go_enter Tryd.func12, Tryd.ntmps12
  go_wp2_with fail
  refine bodyPost_ret (v := Hd.val ⟨4, 0, 0, 0, 0, true⟩) (by simp [results, Tryd.results12, go_sem]) rfl ⟨rfl, ?_⟩
  repeat (first | exact Below.refl _ _ | (refine Below.alloc ?_ (by simp <;> omega) _))

set_option maxHeartbeats 1000000 in
set_option maxRecDepth 100000 in
theorem head_205_whole (g o n c : Nat) (l : List Int) (w : World) (hr : Rd w (some ⟨g, o, none⟩) l) (hn : Hid (l.length = n)) (hnc : n ≤ c) (hm : c ≤ 9223372036854775807) (hg : g < w.heap.size) (hs : 3 ≤ n) (c0 : w.cell? ⟨g, o, none⟩ = some (.int .u8 205)) :
    Calls Tryd.prog 12 #[.slice (some ⟨g, o, none⟩) n c] w fun e w' => e = .returned (Hd.val ⟨4, (be2 l 1), 0, 0, 3, false⟩) ∧ Below w.heap.size w w' := by
  have e0 : ((n : Int) == 0) = false := by simp; omega
  have hA : ∀ (W : World) (o' : Obj) (j : Nat), g < W.heap.size → (W.alloc o').cell? ⟨g, j, none⟩ = W.cell? ⟨g, j, none⟩ := fun W o' j h => World.cell?_alloc_lt W o' ⟨g, j, none⟩ h
  have g1 : g < w.heap.size + 1 := by omega
  have g2 : g < w.heap.size + 1 + 1 := by omega
  have e1 : ¬ c = 1 := by omega
  obtain ⟨b0, b1⟩ := be2_range hr.1 1
  go_enter Tryd.func12, Tryd.ntmps12
  go_wp2_with fail
  ((with_reducible refine (number_2 _ _ _ l _ ((hr.alloc _).alloc _) (by have := hn.out; omega)).mono ?_); rintro e w' ⟨rfl, rfl⟩)
  go_wp2_with fail
  refine bodyPost_ret (v := Hd.val ⟨4, (be2 l 1), 0, 0, 3, false⟩) (by simp [results, Tryd.results12, go_sem]) rfl ⟨rfl, ?_⟩
  repeat (first | exact Below.refl _ _ | (refine Below.alloc ?_ (by simp <;> omega) _))

set_option maxHeartbeats 1000000 in
set_option maxRecDepth 100000 in
theorem head_206_short (g o n c : Nat) (w : World) (_hnc : n ≤ c) (_hm : c ≤ 9223372036854775807) (hg : g < w.heap.size) (hn1 : 1 ≤ n) (hs : n < 5) (c0 : w.cell? ⟨g, o, none⟩ = some (.int .u8 206)) :
    Calls Tryd.prog 12 #[.slice (some ⟨g, o, none⟩) n c] w fun e w' => e = .returned (Hd.val ⟨4, 0, 0, 0, 0, true⟩) ∧ Below w.heap.size w w' := by
  have e0 : ((n : Int) == 0) = false := by simp; omega
  have hA : ∀ (W : World) (o' : Obj) (j : Nat), g < W.heap.size → (W.alloc o').cell? ⟨g, j, none⟩ = W.cell? ⟨g, j, none⟩ := fun W o' j h => World.cell?_alloc_lt W o' ⟨g, j, none⟩ h
  have g1 : g < w.heap.size + 1 := by omega
  have g2 : g < w.heap.size + 1 + 1 := by omega
  go_enter Tryd.func12, Tryd.ntmps12
  go_wp2_with fail
  refine bodyPost_ret (v := Hd.val ⟨4, 0, 0, 0, 0, true⟩) (by simp [results, Tryd.results12, go_sem]) rfl ⟨rfl, ?_⟩
  repeat (first | exact Below.refl _ _ | (refine Below.alloc ?_ (by simp <;> omega) _))

set_option maxHeartbeats 1000000 in
set_option maxRecDepth 100000 in
theorem head_206_whole (g o n c : Nat) (l : List Int) (w : World) (hr : Rd w (some ⟨g, o, none⟩) l) (hn : Hid (l.length = n)) (hnc : n ≤ c) (hm : c ≤ 9223372036854775807) (hg : g < w.heap.size) (hs : 5 ≤ n) (c0 : w.cell? ⟨g, o, none⟩ = some (.int .u8 206)) :
    Calls Tryd.prog 12 #[.slice (some ⟨g, o, none⟩) n c] w fun e w' => e = .returned (Hd.val ⟨4, (be4 l 1), 0, 0, 5, false⟩) ∧ Below w.heap.size w w' := by
  have e0 : ((n : Int) == 0) = false := by simp; omega
  have hA : ∀ (W : World) (o' : Obj) (j : Nat), g < W.heap.size → (W.alloc o').cell? ⟨g, j, none⟩ = W.cell? ⟨g, j, none⟩ := fun W o' j h => World.cell?_alloc_lt W o' ⟨g, j, none⟩ h
  have g1 : g < w.heap.size + 1 := by omega
  have g2 : g < w.heap.size + 1 + 1 := by omega
  have e1 : ¬ c = 1 := by omega
  obtain ⟨b0, b1⟩ := be4_range hr.1 1
  go_enter Tryd.func12, Tryd.ntmps12
  go_wp2_with fail
  ((with_reducible refine (number_4 _ _ _ l _ ((hr.alloc _).alloc _) (by have := hn.out; omega)).mono ?_); rintro e w' ⟨rfl, rfl⟩)
  go_wp2_with fail
  refine bodyPost_ret (v := Hd.val ⟨4, (be4 l 1), 0, 0, 5, false⟩) (by simp [results, Tryd.results12, go_sem]) rfl ⟨rfl, ?_⟩
  repeat (first | exact Below.refl _ _ | (refine Below.alloc ?_ (by simp <;> omega) _))

set_option maxHeartbeats 1000000 in
set_option maxRecDepth 100000 in
theorem head_207_short (g o n c : Nat) (w : World) (_hnc : n ≤ c) (_hm : c ≤ 9223372036854775807) (hg : g < w.heap.size) (hn1 : 1 ≤ n) (hs : n < 9) (c0 : w.cell? ⟨g, o, none⟩ = some (.int .u8 207)) :
    Calls Tryd.prog 12 #[.slice (some ⟨g, o, none⟩) n c] w fun e w' => e = .returned (Hd.val ⟨4, 0, 0, 0, 0, true⟩) ∧ Below w.heap.size w w' := by
  have e0 : ((n : Int) == 0) = false := by simp; omega
  have hA : ∀ (W : World) (o' : Obj) (j : Nat), g < W.heap.size → (W.alloc o').cell? ⟨g, j, none⟩ = W.cell? ⟨g, j, none⟩ := fun W o' j h => World.cell?_alloc_lt W o' ⟨g, j, none⟩ h
  have g1 : g < w.heap.size + 1 := by omega
  have g2 : g < w.heap.size + 1 + 1 := by omega
  go_enter Tryd.func12, Tryd.ntmps12
  go_wp2_with fail
  refine bodyPost_ret (v := Hd.val ⟨4, 0, 0, 0, 0, true⟩) (by simp [results, Tryd.results12, go_sem]) rfl ⟨rfl, ?_⟩
  repeat (first | exact Below.refl _ _ | (refine Below.alloc ?_ (by simp <;> omega) _))

set_option maxHeartbeats 1000000 in
set_option maxRecDepth 100000 in
theorem head_207_whole (g o n c : Nat) (l : List Int) (w : World) (hr : Rd w (some ⟨g, o, none⟩) l) (hn : Hid (l.length = n)) (hnc : n ≤ c) (hm : c ≤ 9223372036854775807) (hg : g < w.heap.size) (hs : 9 ≤ n) (c0 : w.cell? ⟨g, o, none⟩ = some (.int .u8 207)) :
    Calls Tryd.prog 12 #[.slice (some ⟨g, o, none⟩) n c] w fun e w' => e = .returned (Hd.val ⟨4, (be8 l 1), 0, 0, 9, false⟩) ∧ Below w.heap.size w w' := by
  have e0 : ((n : Int) == 0) = false := by simp; omega
  have hA : ∀ (W : World) (o' : Obj) (j : Nat), g < W.heap.size → (W.alloc o').cell? ⟨g, j, none⟩ = W.cell? ⟨g, j, none⟩ := fun W o' j h => World.cell?_alloc_lt W o' ⟨g, j, none⟩ h
  have g1 : g < w.heap.size + 1 := by omega
  have g2 : g < w.heap.size + 1 + 1 := by omega
  have e1 : ¬ c = 1 := by omega
  obtain ⟨b0, b1⟩ := be8_range hr.1 1
  go_enter Tryd.func12, Tryd.ntmps12
  go_wp2_with fail
  ((with_reducible refine (number_8 _ _ _ l _ ((hr.alloc _).alloc _) (by have := hn.out; omega)).mono ?_); rintro e w' ⟨rfl, rfl⟩)
  go_wp2_with fail
  refine bodyPost_ret (v := Hd.val ⟨4, (be8 l 1), 0, 0, 9, false⟩) (by simp [results, Tryd.results12, go_sem]) rfl ⟨rfl, ?_⟩
  repeat (first | exact Below.refl _ _ | (refine Below.alloc ?_ (by simp <;> omega) _))

set_option maxHeartbeats 1000000 in
set_option maxRecDepth 100000 in
theorem head_208_short (g o n c : Nat) (w : World) (_hnc : n ≤ c) (_hm : c ≤ 9223372036854775807) (hg : g < w.heap.size) (hn1 : 1 ≤ n) (hs : n < 2) (c0 : w.cell? ⟨g, o, none⟩ = some (.int .u8 208)) :
    Calls Tryd.prog 12 #[.slice (some ⟨g, o, none⟩) n c] w fun e w' => e = .returned (Hd.val ⟨3, 0, 0, 0, 0, true⟩) ∧ Below w.heap.size w w' := by
  have e0 : ((n : Int) == 0) = false := by simp; omega
  have hA : ∀ (W : World) (o' : Obj) (j : Nat), g < W.heap.size → (W.alloc o').cell? ⟨g, j, none⟩ = W.cell? ⟨g, j, none⟩ := fun W o' j h => World.cell?_alloc_lt W o' ⟨g, j, none⟩ h
  have g1 : g < w.heap.size + 1 := by omega
  have g2 : g < w.heap.size + 1 + 1 := by omega
  go_enter Tryd.func12, Tryd.ntmps12
  go_wp2_with fail
  refine bodyPost_ret (v := Hd.val ⟨3, 0, 0, 0, 0, true⟩) (by simp [results, Tryd.results12, go_sem]) rfl ⟨rfl, ?_⟩
  repeat (first | exact Below.refl _ _ | (refine Below.alloc ?_ (by simp <;> omega) _))

set_option maxHeartbeats 1000000 in
set_option maxRecDepth 100000 in
theorem head_208_pos (g o n c : Nat) (l : List Int) (w : World) (hr : Rd w (some ⟨g, o, none⟩) l) (hn : Hid (l.length = n)) (hnc : n ≤ c) (hm : c ≤ 9223372036854775807) (hg : g < w.heap.size) (hs : 2 ≤ n) (c0 : w.cell? ⟨g, o, none⟩ = some (.int .u8 208)) (hneg : at_ l 1 < 128) :
    Calls Tryd.prog 12 #[.slice (some ⟨g, o, none⟩) n c] w fun e w' => e = .returned (Hd.val ⟨3, (at_ l 1), 0, 0, 2, false⟩) ∧ Below w.heap.size w w' := by
  have e0 : ((n : Int) == 0) = false := by simp; omega
  have hA : ∀ (W : World) (o' : Obj) (j : Nat), g < W.heap.size → (W.alloc o').cell? ⟨g, j, none⟩ = W.cell? ⟨g, j, none⟩ := fun W o' j h => World.cell?_alloc_lt W o' ⟨g, j, none⟩ h
  have g1 : g < w.heap.size + 1 := by omega
  have g2 : g < w.heap.size + 1 + 1 := by omega
  have e1 : ¬ c = 1 := by omega
  obtain ⟨b0, b1⟩ := hr.1.at_ 1
  go_enter Tryd.func12, Tryd.ntmps12
  go_wp2_with fail
  ((with_reducible refine (number_1 _ _ _ l _ ((hr.alloc _).alloc _) (by have := hn.out; omega)).mono ?_); rintro e w' ⟨rfl, rfl⟩)
  go_wp2_with fail
  ((with_reducible refine (signed_1_pos _ _ b0 hneg).mono ?_); rintro e w' ⟨rfl, rfl⟩)
  go_wp2_with fail
  refine bodyPost_ret (v := Hd.val ⟨3, (at_ l 1), 0, 0, 2, false⟩) (by simp [results, Tryd.results12, go_sem]) rfl ⟨rfl, ?_⟩
  repeat (first | exact Below.refl _ _ | (refine Below.alloc ?_ (by simp <;> omega) _))

set_option maxHeartbeats 1000000 in
set_option maxRecDepth 100000 in
theorem head_208_neg (g o n c : Nat) (l : List Int) (w : World) (hr : Rd w (some ⟨g, o, none⟩) l) (hn : Hid (l.length = n)) (hnc : n ≤ c) (hm : c ≤ 9223372036854775807) (hg : g < w.heap.size) (hs : 2 ≤ n) (c0 : w.cell? ⟨g, o, none⟩ = some (.int .u8 208)) (hneg : 128 ≤ at_ l 1) :
    Calls Tryd.prog 12 #[.slice (some ⟨g, o, none⟩) n c] w fun e w' => e = .returned (Hd.val ⟨3, (at_ l 1 + 18446744073709551360), 0, 0, 2, false⟩) ∧ Below w.heap.size w w' := by
  have e0 : ((n : Int) == 0) = false := by simp; omega
  have hA : ∀ (W : World) (o' : Obj) (j : Nat), g < W.heap.size → (W.alloc o').cell? ⟨g, j, none⟩ = W.cell? ⟨g, j, none⟩ := fun W o' j h => World.cell?_alloc_lt W o' ⟨g, j, none⟩ h
  have g1 : g < w.heap.size + 1 := by omega
  have g2 : g < w.heap.size + 1 + 1 := by omega
  have e1 : ¬ c = 1 := by omega
  obtain ⟨b0, b1⟩ := hr.1.at_ 1
  go_enter Tryd.func12, Tryd.ntmps12
  go_wp2_with fail
  ((with_reducible refine (number_1 _ _ _ l _ ((hr.alloc _).alloc _) (by have := hn.out; omega)).mono ?_); rintro e w' ⟨rfl, rfl⟩)
  go_wp2_with fail
  ((with_reducible refine (signed_1_neg _ _ hneg b1).mono ?_); rintro e w' ⟨rfl, rfl⟩)
  go_wp2_with fail
  refine bodyPost_ret (v := Hd.val ⟨3, (at_ l 1 + 18446744073709551360), 0, 0, 2, false⟩) (by simp [results, Tryd.results12, go_sem]) rfl ⟨rfl, ?_⟩
  repeat (first | exact Below.refl _ _ | (refine Below.alloc ?_ (by simp <;> omega) _))

theorem head_208_whole (g o n c : Nat) (l : List Int) (w : World) (hr : Rd w (some ⟨g, o, none⟩) l) (hn : Hid (l.length = n)) (hnc : n ≤ c) (hm : c ≤ 9223372036854775807) (hg : g < w.heap.size) (hs : 2 ≤ n) (c0 : w.cell? ⟨g, o, none⟩ = some (.int .u8 208)) :
    Calls Tryd.prog 12 #[.slice (some ⟨g, o, none⟩) n c] w fun e w' => e = .returned (Hd.val ⟨3, sgn (at_ l 1) 1, 0, 0, 2, false⟩) ∧ Below w.heap.size w w' := by
  by_cases h : at_ l 1 < 128
  · have e : sgn (at_ l 1) 1 = at_ l 1 := by rw [sgn, if_pos rfl, if_pos h]
    rw [e]
    exact head_208_pos g o n c l w hr hn hnc hm hg hs c0 h
  · have e : sgn (at_ l 1) 1 = at_ l 1 + 18446744073709551360 := by rw [sgn, if_pos rfl, if_neg h]
    rw [e]
    exact head_208_neg g o n c l w hr hn hnc hm hg hs c0 (by omega)


end Go.Proofs.YtmhilpnagpkkiaaDoor
