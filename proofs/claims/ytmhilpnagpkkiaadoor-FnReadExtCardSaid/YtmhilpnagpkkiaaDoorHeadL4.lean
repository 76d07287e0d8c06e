/- The walk of the reference's HeadOf, first bytes from 196 on, part 4 of 4. Conditions: the slice reads as bytes. -/
import Derived.Test.YtmhilpnagpkkiaaDoorHeadDefs
namespace Go.Proofs.YtmhilpnagpkkiaaDoor
open Go Go.RowKit

set_option maxHeartbeats 1000000 in
set_option maxRecDepth 100000 in
theorem head_216_short (g o n c : Nat) (w : World) (_hnc : n ≤ c) (_hm : c ≤ 9223372036854775807) (hg : g < w.heap.size) (hn1 : 1 ≤ n) (hs : n < 2) (c0 : w.cell? ⟨g, o, none⟩ = some (.int .u8 216)) :
    Calls Tryd.prog 12 #[.slice (some ⟨g, o, none⟩) n c] w fun e w' => e = .returned (Hd.val ⟨11, 0, 0, 0, 0, true⟩) ∧ Below w.heap.size w w' := by
  have e0 : ((n : Int) == 0) = false := by simp; omega
  have hA : ∀ (W : World) (o' : Obj) (j : Nat), g < W.heap.size → (W.alloc o').cell? ⟨g, j, none⟩ = W.cell? ⟨g, j, none⟩ := fun W o' j h => World.cell?_alloc_lt W o' ⟨g, j, none⟩ h
  have g1 : g < w.heap.size + 1 := by omega
  have g2 : g < w.heap.size + 1 + 1 := by omega
  go_enter Tryd.func12, Tryd.ntmps12
  go_wp2_with fail
  refine bodyPost_ret (v := Hd.val ⟨11, 0, 0, 0, 0, true⟩) (by simp [results, Tryd.results12, go_sem]) rfl ⟨rfl, ?_⟩
  repeat (first | exact Below.refl _ _ | (refine Below.alloc ?_ (by simp <;> omega) _))

set_option maxHeartbeats 1000000 in
set_option maxRecDepth 100000 in
theorem head_216_whole (g o n c : Nat) (l : List Int) (w : World) (hr : Rd w (some ⟨g, o, none⟩) l) (hn : Hid (l.length = n)) (hnc : n ≤ c) (hm : c ≤ 9223372036854775807) (hg : g < w.heap.size) (hs : 2 ≤ n) (c0 : w.cell? ⟨g, o, none⟩ = some (.int .u8 216)) :
    Calls Tryd.prog 12 #[.slice (some ⟨g, o, none⟩) n c] w fun e w' => e = .returned (Hd.val ⟨11, 0, 16, (s8 (at_ l 1)), 2, false⟩) ∧ Below w.heap.size w w' := by
  have e0 : ((n : Int) == 0) = false := by simp; omega
  have hA : ∀ (W : World) (o' : Obj) (j : Nat), g < W.heap.size → (W.alloc o').cell? ⟨g, j, none⟩ = W.cell? ⟨g, j, none⟩ := fun W o' j h => World.cell?_alloc_lt W o' ⟨g, j, none⟩ h
  have g1 : g < w.heap.size + 1 := by omega
  have g2 : g < w.heap.size + 1 + 1 := by omega
  have e1 : ¬ c = 1 := by omega
  have cT : w.cell? ⟨g, o + 1, none⟩ = some (.int .u8 (at_ l 1)) := by
    obtain ⟨g', o', hA', -, hc⟩ := hr.2 (by have := hn.out; omega)
    injection hA' with hA'
    injection hA' with h1 h2
    subst h1; subst h2
    exact hc 1 (by have := hn.out; omega)
  go_enter Tryd.func12, Tryd.ntmps12
  go_wp2_with fail
  ((with_reducible refine (number_0 _ _ _ _).mono ?_); rintro e w' ⟨rfl, rfl⟩)
  go_wp2_with fail
  refine bodyPost_ret (v := Hd.val ⟨11, 0, 16, (s8 (at_ l 1)), 2, false⟩) (by simp [results, Tryd.results12, go_sem, s8]) rfl ⟨rfl, ?_⟩
  repeat (first | exact Below.refl _ _ | (refine Below.alloc ?_ (by simp <;> omega) _))

set_option maxHeartbeats 1000000 in
set_option maxRecDepth 100000 in
theorem head_217_short (g o n c : Nat) (w : World) (_hnc : n ≤ c) (_hm : c ≤ 9223372036854775807) (hg : g < w.heap.size) (hn1 : 1 ≤ n) (hs : n < 2) (c0 : w.cell? ⟨g, o, none⟩ = some (.int .u8 217)) :
    Calls Tryd.prog 12 #[.slice (some ⟨g, o, none⟩) n c] w fun e w' => e = .returned (Hd.val ⟨7, 0, 0, 0, 0, true⟩) ∧ Below w.heap.size w w' := by
  have e0 : ((n : Int) == 0) = false := by simp; omega
  have hA : ∀ (W : World) (o' : Obj) (j : Nat), g < W.heap.size → (W.alloc o').cell? ⟨g, j, none⟩ = W.cell? ⟨g, j, none⟩ := fun W o' j h => World.cell?_alloc_lt W o' ⟨g, j, none⟩ h
  have g1 : g < w.heap.size + 1 := by omega
  have g2 : g < w.heap.size + 1 + 1 := by omega
  go_enter Tryd.func12, Tryd.ntmps12
  go_wp2_with fail
  refine bodyPost_ret (v := Hd.val ⟨7, 0, 0, 0, 0, true⟩) (by simp [results, Tryd.results12, go_sem]) rfl ⟨rfl, ?_⟩
  repeat (first | exact Below.refl _ _ | (refine Below.alloc ?_ (by simp <;> omega) _))

set_option maxHeartbeats 1000000 in
set_option maxRecDepth 100000 in
theorem head_217_whole (g o n c : Nat) (l : List Int) (w : World) (hr : Rd w (some ⟨g, o, none⟩) l) (hn : Hid (l.length = n)) (hnc : n ≤ c) (hm : c ≤ 9223372036854775807) (hg : g < w.heap.size) (hs : 2 ≤ n) (c0 : w.cell? ⟨g, o, none⟩ = some (.int .u8 217)) :
    Calls Tryd.prog 12 #[.slice (some ⟨g, o, none⟩) n c] w fun e w' => e = .returned (Hd.val ⟨7, 0, (at_ l 1), 0, 2, false⟩) ∧ Below w.heap.size w w' := by
  have e0 : ((n : Int) == 0) = false := by simp; omega
  have hA : ∀ (W : World) (o' : Obj) (j : Nat), g < W.heap.size → (W.alloc o').cell? ⟨g, j, none⟩ = W.cell? ⟨g, j, none⟩ := fun W o' j h => World.cell?_alloc_lt W o' ⟨g, j, none⟩ h
  have g1 : g < w.heap.size + 1 := by omega
  have g2 : g < w.heap.size + 1 + 1 := by omega
  have e1 : ¬ c = 1 := by omega
  obtain ⟨b0, b1⟩ := hr.1.at_ 1
  go_enter Tryd.func12, Tryd.ntmps12
  go_wp2_with fail
  ((with_reducible refine (number_1 _ _ _ l _ ((hr.alloc _).alloc _) (by have := hn.out; omega)).mono ?_); rintro e w' ⟨rfl, rfl⟩)
  go_wp2_with fail
  refine bodyPost_ret (v := Hd.val ⟨7, 0, (at_ l 1), 0, 2, false⟩) (by simp [results, Tryd.results12, go_sem]) rfl ⟨rfl, ?_⟩
  repeat (first | exact Below.refl _ _ | (refine Below.alloc ?_ (by simp <;> omega) _))

set_option maxHeartbeats 1000000 in
set_option maxRecDepth 100000 in
theorem head_218_short (g o n c : Nat) (w : World) (_hnc : n ≤ c) (_hm : c ≤ 9223372036854775807) (hg : g < w.heap.size) (hn1 : 1 ≤ n) (hs : n < 3) (c0 : w.cell? ⟨g, o, none⟩ = some (.int .u8 218)) :
    Calls Tryd.prog 12 #[.slice (some ⟨g, o, none⟩) n c] w fun e w' => e = .returned (Hd.val ⟨7, 0, 0, 0, 0, true⟩) ∧ Below w.heap.size w w' := by
  have e0 : ((n : Int) == 0) = false := by simp; omega
  have hA : ∀ (W : World) (o' : Obj) (j : Nat), g < W.heap.size → (W.alloc o').cell? ⟨g, j, none⟩ = W.cell? ⟨g, j, none⟩ := fun W o' j h => World.cell?_alloc_lt W o' ⟨g, j, none⟩ h
  have g1 : g < w.heap.size + 1 := by omega
  have g2 : g < w.heap.size + 1 + 1 := by omega
  go_enter Tryd.func12, Tryd.ntmps12
  go_wp2_with fail
  refine bodyPost_ret (v := Hd.val ⟨7, 0, 0, 0, 0, true⟩) (by simp [results, Tryd.results12, go_sem]) rfl ⟨rfl, ?_⟩
  repeat (first | exact Below.refl _ _ | (refine Below.alloc ?_ (by simp <;> omega) _))

set_option maxHeartbeats 1000000 in
set_option maxRecDepth 100000 in
theorem head_218_whole (g o n c : Nat) (l : List Int) (w : World) (hr : Rd w (some ⟨g, o, none⟩) l) (hn : Hid (l.length = n)) (hnc : n ≤ c) (hm : c ≤ 9223372036854775807) (hg : g < w.heap.size) (hs : 3 ≤ n) (c0 : w.cell? ⟨g, o, none⟩ = some (.int .u8 218)) :
    Calls Tryd.prog 12 #[.slice (some ⟨g, o, none⟩) n c] w fun e w' => e = .returned (Hd.val ⟨7, 0, (be2 l 1), 0, 3, false⟩) ∧ Below w.heap.size w w' := by
  have e0 : ((n : Int) == 0) = false := by simp; omega
  have hA : ∀ (W : World) (o' : Obj) (j : Nat), g < W.heap.size → (W.alloc o').cell? ⟨g, j, none⟩ = W.cell? ⟨g, j, none⟩ := fun W o' j h => World.cell?_alloc_lt W o' ⟨g, j, none⟩ h
  have g1 : g < w.heap.size + 1 := by omega
  have g2 : g < w.heap.size + 1 + 1 := by omega
  have e1 : ¬ c = 1 := by omega
  obtain ⟨b0, b1⟩ := be2_range hr.1 1
  go_enter Tryd.func12, Tryd.ntmps12
  go_wp2_with fail
  ((with_reducible refine (number_2 _ _ _ l _ ((hr.alloc _).alloc _) (by have := hn.out; omega)).mono ?_); rintro e w' ⟨rfl, rfl⟩)
  go_wp2_with fail
  refine bodyPost_ret (v := Hd.val ⟨7, 0, (be2 l 1), 0, 3, false⟩) (by simp [results, Tryd.results12, go_sem]) rfl ⟨rfl, ?_⟩
  repeat (first | exact Below.refl _ _ | (refine Below.alloc ?_ (by simp <;> omega) _))

set_option maxHeartbeats 1000000 in
set_option maxRecDepth 100000 in
theorem head_219_short (g o n c : Nat) (w : World) (_hnc : n ≤ c) (_hm : c ≤ 9223372036854775807) (hg : g < w.heap.size) (hn1 : 1 ≤ n) (hs : n < 5) (c0 : w.cell? ⟨g, o, none⟩ = some (.int .u8 219)) :
    Calls Tryd.prog 12 #[.slice (some ⟨g, o, none⟩) n c] w fun e w' => e = .returned (Hd.val ⟨7, 0, 0, 0, 0, true⟩) ∧ Below w.heap.size w w' := by
  have e0 : ((n : Int) == 0) = false := by simp; omega
  have hA : ∀ (W : World) (o' : Obj) (j : Nat), g < W.heap.size → (W.alloc o').cell? ⟨g, j, none⟩ = W.cell? ⟨g, j, none⟩ := fun W o' j h => World.cell?_alloc_lt W o' ⟨g, j, none⟩ h
  have g1 : g < w.heap.size + 1 := by omega
  have g2 : g < w.heap.size + 1 + 1 := by omega
  go_enter Tryd.func12, Tryd.ntmps12
  go_wp2_with fail
  refine bodyPost_ret (v := Hd.val ⟨7, 0, 0, 0, 0, true⟩) (by simp [results, Tryd.results12, go_sem]) rfl ⟨rfl, ?_⟩
  repeat (first | exact Below.refl _ _ | (refine Below.alloc ?_ (by simp <;> omega) _))

set_option maxHeartbeats 1000000 in
set_option maxRecDepth 100000 in
theorem head_219_whole (g o n c : Nat) (l : List Int) (w : World) (hr : Rd w (some ⟨g, o, none⟩) l) (hn : Hid (l.length = n)) (hnc : n ≤ c) (hm : c ≤ 9223372036854775807) (hg : g < w.heap.size) (hs : 5 ≤ n) (c0 : w.cell? ⟨g, o, none⟩ = some (.int .u8 219)) :
    Calls Tryd.prog 12 #[.slice (some ⟨g, o, none⟩) n c] w fun e w' => e = .returned (Hd.val ⟨7, 0, (be4 l 1), 0, 5, false⟩) ∧ Below w.heap.size w w' := by
  have e0 : ((n : Int) == 0) = false := by simp; omega
  have hA : ∀ (W : World) (o' : Obj) (j : Nat), g < W.heap.size → (W.alloc o').cell? ⟨g, j, none⟩ = W.cell? ⟨g, j, none⟩ := fun W o' j h => World.cell?_alloc_lt W o' ⟨g, j, none⟩ h
  have g1 : g < w.heap.size + 1 := by omega
  have g2 : g < w.heap.size + 1 + 1 := by omega
  have e1 : ¬ c = 1 := by omega
  obtain ⟨b0, b1⟩ := be4_range hr.1 1
  go_enter Tryd.func12, Tryd.ntmps12
  go_wp2_with fail
  ((with_reducible refine (number_4 _ _ _ l _ ((hr.alloc _).alloc _) (by have := hn.out; omega)).mono ?_); rintro e w' ⟨rfl, rfl⟩)
  go_wp2_with fail
  refine bodyPost_ret (v := Hd.val ⟨7, 0, (be4 l 1), 0, 5, false⟩) (by simp [results, Tryd.results12, go_sem]) rfl ⟨rfl, ?_⟩
  repeat (first | exact Below.refl _ _ | (refine Below.alloc ?_ (by simp <;> omega) _))

set_option maxHeartbeats 1000000 in
set_option maxRecDepth 100000 in
theorem head_220_short (g o n c : Nat) (w : World) (_hnc : n ≤ c) (_hm : c ≤ 9223372036854775807) (hg : g < w.heap.size) (hn1 : 1 ≤ n) (hs : n < 3) (c0 : w.cell? ⟨g, o, none⟩ = some (.int .u8 220)) :
    Calls Tryd.prog 12 #[.slice (some ⟨g, o, none⟩) n c] w fun e w' => e = .returned (Hd.val ⟨9, 0, 0, 0, 0, true⟩) ∧ Below w.heap.size w w' := by
  have e0 : ((n : Int) == 0) = false := by simp; omega
  have hA : ∀ (W : World) (o' : Obj) (j : Nat), g < W.heap.size → (W.alloc o').cell? ⟨g, j, none⟩ = W.cell? ⟨g, j, none⟩ := fun W o' j h => World.cell?_alloc_lt W o' ⟨g, j, none⟩ h
  have g1 : g < w.heap.size + 1 := by omega
  have g2 : g < w.heap.size + 1 + 1 := by omega
  go_enter Tryd.func12, Tryd.ntmps12
  go_wp2_with fail
  refine bodyPost_ret (v := Hd.val ⟨9, 0, 0, 0, 0, true⟩) (by simp [results, Tryd.results12, go_sem]) rfl ⟨rfl, ?_⟩
  repeat (first | exact Below.refl _ _ | (refine Below.alloc ?_ (by simp <;> omega) _))

set_option maxHeartbeats 1000000 in
set_option maxRecDepth 100000 in
theorem head_220_whole (g o n c : Nat) (l : List Int) (w : World) (hr : Rd w (some ⟨g, o, none⟩) l) (hn : Hid (l.length = n)) (hnc : n ≤ c) (hm : c ≤ 9223372036854775807) (hg : g < w.heap.size) (hs : 3 ≤ n) (c0 : w.cell? ⟨g, o, none⟩ = some (.int .u8 220)) :
    Calls Tryd.prog 12 #[.slice (some ⟨g, o, none⟩) n c] w fun e w' => e = .returned (Hd.val ⟨9, 0, (be2 l 1), 0, 3, false⟩) ∧ Below w.heap.size w w' := by
  have e0 : ((n : Int) == 0) = false := by simp; omega
  have hA : ∀ (W : World) (o' : Obj) (j : Nat), g < W.heap.size → (W.alloc o').cell? ⟨g, j, none⟩ = W.cell? ⟨g, j, none⟩ := fun W o' j h => World.cell?_alloc_lt W o' ⟨g, j, none⟩ h
  have g1 : g < w.heap.size + 1 := by omega
  have g2 : g < w.heap.size + 1 + 1 := by omega
  have e1 : ¬ c = 1 := by omega
  obtain ⟨b0, b1⟩ := be2_range hr.1 1
  go_enter Tryd.func12, Tryd.ntmps12
  go_wp2_with fail
  ((with_reducible refine (number_2 _ _ _ l _ ((hr.alloc _).alloc _) (by have := hn.out; omega)).mono ?_); rintro e w' ⟨rfl, rfl⟩)
  go_wp2_with fail
  refine bodyPost_ret (v := Hd.val ⟨9, 0, (be2 l 1), 0, 3, false⟩) (by simp [results, Tryd.results12, go_sem]) rfl ⟨rfl, ?_⟩
  repeat (first | exact Below.refl _ _ | (refine Below.alloc ?_ (by simp <;> omega) _))

set_option maxHeartbeats 1000000 in
set_option maxRecDepth 100000 in
theorem head_221_short (g o n c : Nat) (w : World) (_hnc : n ≤ c) (_hm : c ≤ 9223372036854775807) (hg : g < w.heap.size) (hn1 : 1 ≤ n) (hs : n < 5) (c0 : w.cell? ⟨g, o, none⟩ = some (.int .u8 221)) :
    Calls Tryd.prog 12 #[.slice (some ⟨g, o, none⟩) n c] w fun e w' => e = .returned (Hd.val ⟨9, 0, 0, 0, 0, true⟩) ∧ Below w.heap.size w w' := by
  have e0 : ((n : Int) == 0) = false := by simp; omega
  have hA : ∀ (W : World) (o' : Obj) (j : Nat), g < W.heap.size → (W.alloc o').cell? ⟨g, j, none⟩ = W.cell? ⟨g, j, none⟩ := fun W o' j h => World.cell?_alloc_lt W o' ⟨g, j, none⟩ h
  have g1 : g < w.heap.size + 1 := by omega
  have g2 : g < w.heap.size + 1 + 1 := by omega
  go_enter Tryd.func12, Tryd.ntmps12
  go_wp2_with fail
  refine bodyPost_ret (v := Hd.val ⟨9, 0, 0, 0, 0, true⟩) (by simp [results, Tryd.results12, go_sem]) rfl ⟨rfl, ?_⟩
  repeat (first | exact Below.refl _ _ | (refine Below.alloc ?_ (by simp <;> omega) _))

set_option maxHeartbeats 1000000 in
set_option maxRecDepth 100000 in
theorem head_221_whole (g o n c : Nat) (l : List Int) (w : World) (hr : Rd w (some ⟨g, o, none⟩) l) (hn : Hid (l.length = n)) (hnc : n ≤ c) (hm : c ≤ 9223372036854775807) (hg : g < w.heap.size) (hs : 5 ≤ n) (c0 : w.cell? ⟨g, o, none⟩ = some (.int .u8 221)) :
    Calls Tryd.prog 12 #[.slice (some ⟨g, o, none⟩) n c] w fun e w' => e = .returned (Hd.val ⟨9, 0, (be4 l 1), 0, 5, false⟩) ∧ Below w.heap.size w w' := by
  have e0 : ((n : Int) == 0) = false := by simp; omega
  have hA : ∀ (W : World) (o' : Obj) (j : Nat), g < W.heap.size → (W.alloc o').cell? ⟨g, j, none⟩ = W.cell? ⟨g, j, none⟩ := fun W o' j h => World.cell?_alloc_lt W o' ⟨g, j, none⟩ h
  have g1 : g < w.heap.size + 1 := by omega
  have g2 : g < w.heap.size + 1 + 1 := by omega
  have e1 : ¬ c = 1 := by omega
  obtain ⟨b0, b1⟩ := be4_range hr.1 1
  go_enter Tryd.func12, Tryd.ntmps12
  go_wp2_with fail
  ((with_reducible refine (number_4 _ _ _ l _ ((hr.alloc _).alloc _) (by have := hn.out; omega)).mono ?_); rintro e w' ⟨rfl, rfl⟩)
  go_wp2_with fail
  refine bodyPost_ret (v := Hd.val ⟨9, 0, (be4 l 1), 0, 5, false⟩) (by simp [results, Tryd.results12, go_sem]) rfl ⟨rfl, ?_⟩
  repeat (first | exact Below.refl _ _ | (refine Below.alloc ?_ (by simp <;> omega) _))

set_option maxHeartbeats 1000000 in
set_option maxRecDepth 100000 in
theorem head_222_short (g o n c : Nat) (w : World) (_hnc : n ≤ c) (_hm : c ≤ 9223372036854775807) (hg : g < w.heap.size) (hn1 : 1 ≤ n) (hs : n < 3) (c0 : w.cell? ⟨g, o, none⟩ = some (.int .u8 222)) :
    Calls Tryd.prog 12 #[.slice (some ⟨g, o, none⟩) n c] w fun e w' => e = .returned (Hd.val ⟨10, 0, 0, 0, 0, true⟩) ∧ Below w.heap.size w w' := by
  have e0 : ((n : Int) == 0) = false := by simp; omega
  have hA : ∀ (W : World) (o' : Obj) (j : Nat), g < W.heap.size → (W.alloc o').cell? ⟨g, j, none⟩ = W.cell? ⟨g, j, none⟩ := fun W o' j h => World.cell?_alloc_lt W o' ⟨g, j, none⟩ h
  have g1 : g < w.heap.size + 1 := by omega
  have g2 : g < w.heap.size + 1 + 1 := by omega
  go_enter Tryd.func12, Tryd.ntmps12
  go_wp2_with fail
  refine bodyPost_ret (v := Hd.val ⟨10, 0, 0, 0, 0, true⟩) (by simp [results, Tryd.results12, go_sem]) rfl ⟨rfl, ?_⟩
  repeat (first | exact Below.refl _ _ | (refine Below.alloc ?_ (by simp <;> omega) _))

set_option maxHeartbeats 1000000 in
set_option maxRecDepth 100000 in
theorem head_222_whole (g o n c : Nat) (l : List Int) (w : World) (hr : Rd w (some ⟨g, o, none⟩) l) (hn : Hid (l.length = n)) (hnc : n ≤ c) (hm : c ≤ 9223372036854775807) (hg : g < w.heap.size) (hs : 3 ≤ n) (c0 : w.cell? ⟨g, o, none⟩ = some (.int .u8 222)) :
    Calls Tryd.prog 12 #[.slice (some ⟨g, o, none⟩) n c] w fun e w' => e = .returned (Hd.val ⟨10, 0, (be2 l 1), 0, 3, false⟩) ∧ Below w.heap.size w w' := by
  have e0 : ((n : Int) == 0) = false := by simp; omega
  have hA : ∀ (W : World) (o' : Obj) (j : Nat), g < W.heap.size → (W.alloc o').cell? ⟨g, j, none⟩ = W.cell? ⟨g, j, none⟩ := fun W o' j h => World.cell?_alloc_lt W o' ⟨g, j, none⟩ h
  have g1 : g < w.heap.size + 1 := by omega
  have g2 : g < w.heap.size + 1 + 1 := by omega
  have e1 : ¬ c = 1 := by omega
  obtain ⟨b0, b1⟩ := be2_range hr.1 1
  go_enter Tryd.func12, Tryd.ntmps12
  go_wp2_with fail
  ((with_reducible refine (number_2 _ _ _ l _ ((hr.alloc _).alloc _) (by have := hn.out; omega)).mono ?_); rintro e w' ⟨rfl, rfl⟩)
  go_wp2_with fail
  refine bodyPost_ret (v := Hd.val ⟨10, 0, (be2 l 1), 0, 3, false⟩) (by simp [results, Tryd.results12, go_sem]) rfl ⟨rfl, ?_⟩
  repeat (first | exact Below.refl _ _ | (refine Below.alloc ?_ (by simp <;> omega) _))

set_option maxHeartbeats 1000000 in
set_option maxRecDepth 100000 in
theorem head_223_short (g o n c : Nat) (w : World) (_hnc : n ≤ c) (_hm : c ≤ 9223372036854775807) (hg : g < w.heap.size) (hn1 : 1 ≤ n) (hs : n < 5) (c0 : w.cell? ⟨g, o, none⟩ = some (.int .u8 223)) :
    Calls Tryd.prog 12 #[.slice (some ⟨g, o, none⟩) n c] w fun e w' => e = .returned (Hd.val ⟨10, 0, 0, 0, 0, true⟩) ∧ Below w.heap.size w w' := by
  have e0 : ((n : Int) == 0) = false := by simp; omega
  have hA : ∀ (W : World) (o' : Obj) (j : Nat), g < W.heap.size → (W.alloc o').cell? ⟨g, j, none⟩ = W.cell? ⟨g, j, none⟩ := fun W o' j h => World.cell?_alloc_lt W o' ⟨g, j, none⟩ h
  have g1 : g < w.heap.size + 1 := by omega
  have g2 : g < w.heap.size + 1 + 1 := by omega
  go_enter Tryd.func12, Tryd.ntmps12
  go_wp2_with fail
  refine bodyPost_ret (v := Hd.val ⟨10, 0, 0, 0, 0, true⟩) (by simp [results, Tryd.results12, go_sem]) rfl ⟨rfl, ?_⟩
  repeat (first | exact Below.refl _ _ | (refine Below.alloc ?_ (by simp <;> omega) _))

set_option maxHeartbeats 1000000 in
set_option maxRecDepth 100000 in
theorem head_223_whole (g o n c : Nat) (l : List Int) (w : World) (hr : Rd w (some ⟨g, o, none⟩) l) (hn : Hid (l.length = n)) (hnc : n ≤ c) (hm : c ≤ 9223372036854775807) (hg : g < w.heap.size) (hs : 5 ≤ n) (c0 : w.cell? ⟨g, o, none⟩ = some (.int .u8 223)) :
    Calls Tryd.prog 12 #[.slice (some ⟨g, o, none⟩) n c] w fun e w' => e = .returned (Hd.val ⟨10, 0, (be4 l 1), 0, 5, false⟩) ∧ Below w.heap.size w w' := by
  have e0 : ((n : Int) == 0) = false := by simp; omega
  have hA : ∀ (W : World) (o' : Obj) (j : Nat), g < W.heap.size → (W.alloc o').cell? ⟨g, j, none⟩ = W.cell? ⟨g, j, none⟩ := fun W o' j h => World.cell?_alloc_lt W o' ⟨g, j, none⟩ h
  have g1 : g < w.heap.size + 1 := by omega
  have g2 : g < w.heap.size + 1 + 1 := by omega
  have e1 : ¬ c = 1 := by omega
  obtain ⟨b0, b1⟩ := be4_range hr.1 1
  go_enter Tryd.func12, Tryd.ntmps12
  go_wp2_with fail
  ((with_reducible refine (number_4 _ _ _ l _ ((hr.alloc _).alloc _) (by have := hn.out; omega)).mono ?_); rintro e w' ⟨rfl, rfl⟩)
  go_wp2_with fail
  refine bodyPost_ret (v := Hd.val ⟨10, 0, (be4 l 1), 0, 5, false⟩) (by simp [results, Tryd.results12, go_sem]) rfl ⟨rfl, ?_⟩
  repeat (first | exact Below.refl _ _ | (refine Below.alloc ?_ (by simp <;> omega) _))

end Go.Proofs.YtmhilpnagpkkiaaDoor
