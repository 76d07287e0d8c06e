/- The walk of the reference's HeadOf, first bytes from 196 on, part 1 of 4. Conditions: the slice reads as bytes. -/
import Derived.Test.YtmhilpnagpkkiaaDoorHeadDefs
namespace Go.Proofs.YtmhilpnagpkkiaaDoor
open Go Go.RowKit

set_option maxHeartbeats 1000000 in
set_option maxRecDepth 100000 in
theorem head_196_short (g o n c : Nat) (w : World) (_hnc : n ≤ c) (_hm : c ≤ 9223372036854775807) (hg : g < w.heap.size) (hn1 : 1 ≤ n) (hs : n < 2) (c0 : w.cell? ⟨g, o, none⟩ = some (.int .u8 196)) :
    Calls Tryd.prog 12 #[.slice (some ⟨g, o, none⟩) n c] w fun e w' => e = .returned (Hd.val ⟨8, 0, 0, 0, 0, true⟩) ∧ Below w.heap.size w w' := by
  have e0 : ((n : Int) == 0) = false := by simp; omega
  have hA : ∀ (W : World) (o' : Obj) (j : Nat), g < W.heap.size → (W.alloc o').cell? ⟨g, j, none⟩ = W.cell? ⟨g, j, none⟩ := fun W o' j h => World.cell?_alloc_lt W o' ⟨g, j, none⟩ h
  have g1 : g < w.heap.size + 1 := by omega
  have g2 : g < w.heap.size + 1 + 1 := by omega
  go_enter Tryd.func12, Tryd.ntmps12
  go_wp2_with fail
  refine bodyPost_ret (v := Hd.val ⟨8, 0, 0, 0, 0, true⟩) (by simp [results, Tryd.results12, go_sem]) rfl ⟨rfl, ?_⟩
  repeat (first | exact Below.refl _ _ | (refine Below.alloc ?_ (by simp <;> omega) _))

set_option maxHeartbeats 1000000 in
set_option maxRecDepth 100000 in
theorem head_196_whole (g o n c : Nat) (l : List Int) (w : World) (hr : Rd w (some ⟨g, o, none⟩) l) (hn : Hid (l.length = n)) (hnc : n ≤ c) (hm : c ≤ 9223372036854775807) (hg : g < w.heap.size) (hs : 2 ≤ n) (c0 : w.cell? ⟨g, o, none⟩ = some (.int .u8 196)) :
    Calls Tryd.prog 12 #[.slice (some ⟨g, o, none⟩) n c] w fun e w' => e = .returned (Hd.val ⟨8, 0, (at_ l 1), 0, 2, false⟩) ∧ Below w.heap.size w w' := by
  have e0 : ((n : Int) == 0) = false := by simp; omega
  have hA : ∀ (W : World) (o' : Obj) (j : Nat), g < W.heap.size → (W.alloc o').cell? ⟨g, j, none⟩ = W.cell? ⟨g, j, none⟩ := fun W o' j h => World.cell?_alloc_lt W o' ⟨g, j, none⟩ h
  have g1 : g < w.heap.size + 1 := by omega
  have g2 : g < w.heap.size + 1 + 1 := by omega
  have e1 : ¬ c = 1 := by omega
  obtain ⟨b0, b1⟩ := hr.1.at_ 1
  go_enter Tryd.func12, Tryd.ntmps12
  go_wp2_with fail
  ((with_reducible refine (number_1 _ _ _ l _ ((hr.alloc _).alloc _) (by have := hn.out; omega)).mono ?_); rintro e w' ⟨rfl, rfl⟩)
  go_wp2_with fail
  refine bodyPost_ret (v := Hd.val ⟨8, 0, (at_ l 1), 0, 2, false⟩) (by simp [results, Tryd.results12, go_sem]) rfl ⟨rfl, ?_⟩
  repeat (first | exact Below.refl _ _ | (refine Below.alloc ?_ (by simp <;> omega) _))

set_option maxHeartbeats 1000000 in
set_option maxRecDepth 100000 in
theorem head_197_short (g o n c : Nat) (w : World) (_hnc : n ≤ c) (_hm : c ≤ 9223372036854775807) (hg : g < w.heap.size) (hn1 : 1 ≤ n) (hs : n < 3) (c0 : w.cell? ⟨g, o, none⟩ = some (.int .u8 197)) :
    Calls Tryd.prog 12 #[.slice (some ⟨g, o, none⟩) n c] w fun e w' => e = .returned (Hd.val ⟨8, 0, 0, 0, 0, true⟩) ∧ Below w.heap.size w w' := by
  have e0 : ((n : Int) == 0) = false := by simp; omega
  have hA : ∀ (W : World) (o' : Obj) (j : Nat), g < W.heap.size → (W.alloc o').cell? ⟨g, j, none⟩ = W.cell? ⟨g, j, none⟩ := fun W o' j h => World.cell?_alloc_lt W o' ⟨g, j, none⟩ h
  have g1 : g < w.heap.size + 1 := by omega
  have g2 : g < w.heap.size + 1 + 1 := by omega
  go_enter Tryd.func12, Tryd.ntmps12
  go_wp2_with fail
  refine bodyPost_ret (v := Hd.val ⟨8, 0, 0, 0, 0, true⟩) (by simp [results, Tryd.results12, go_sem]) rfl ⟨rfl, ?_⟩
  repeat (first | exact Below.refl _ _ | (refine Below.alloc ?_ (by simp <;> omega) _))

set_option maxHeartbeats 1000000 in
set_option maxRecDepth 100000 in
theorem head_197_whole (g o n c : Nat) (l : List Int) (w : World) (hr : Rd w (some ⟨g, o, none⟩) l) (hn : Hid (l.length = n)) (hnc : n ≤ c) (hm : c ≤ 9223372036854775807) (hg : g < w.heap.size) (hs : 3 ≤ n) (c0 : w.cell? ⟨g, o, none⟩ = some (.int .u8 197)) :
    Calls Tryd.prog 12 #[.slice (some ⟨g, o, none⟩) n c] w fun e w' => e = .returned (Hd.val ⟨8, 0, (be2 l 1), 0, 3, false⟩) ∧ Below w.heap.size w w' := by
  have e0 : ((n : Int) == 0) = false := by simp; omega
  have hA : ∀ (W : World) (o' : Obj) (j : Nat), g < W.heap.size → (W.alloc o').cell? ⟨g, j, none⟩ = W.cell? ⟨g, j, none⟩ := fun W o' j h => World.cell?_alloc_lt W o' ⟨g, j, none⟩ h
  have g1 : g < w.heap.size + 1 := by omega
  have g2 : g < w.heap.size + 1 + 1 := by omega
  have e1 : ¬ c = 1 := by omega
  obtain ⟨b0, b1⟩ := be2_range hr.1 1
  go_enter Tryd.func12, Tryd.ntmps12
  go_wp2_with fail
  ((with_reducible refine (number_2 _ _ _ l _ ((hr.alloc _).alloc _) (by have := hn.out; omega)).mono ?_); rintro e w' ⟨rfl, rfl⟩)
  go_wp2_with fail
  refine bodyPost_ret (v := Hd.val ⟨8, 0, (be2 l 1), 0, 3, false⟩) (by simp [results, Tryd.results12, go_sem]) rfl ⟨rfl, ?_⟩
  repeat (first | exact Below.refl _ _ | (refine Below.alloc ?_ (by simp <;> omega) _))

set_option maxHeartbeats 1000000 in
set_option maxRecDepth 100000 in
theorem head_198_short (g o n c : Nat) (w : World) (_hnc : n ≤ c) (_hm : c ≤ 9223372036854775807) (hg : g < w.heap.size) (hn1 : 1 ≤ n) (hs : n < 5) (c0 : w.cell? ⟨g, o, none⟩ = some (.int .u8 198)) :
    Calls Tryd.prog 12 #[.slice (some ⟨g, o, none⟩) n c] w fun e w' => e = .returned (Hd.val ⟨8, 0, 0, 0, 0, true⟩) ∧ Below w.heap.size w w' := by
  have e0 : ((n : Int) == 0) = false := by simp; omega
  have hA : ∀ (W : World) (o' : Obj) (j : Nat), g < W.heap.size → (W.alloc o').cell? ⟨g, j, none⟩ = W.cell? ⟨g, j, none⟩ := fun W o' j h => World.cell?_alloc_lt W o' ⟨g, j, none⟩ h
  have g1 : g < w.heap.size + 1 := by omega
  have g2 : g < w.heap.size + 1 + 1 := by omega
  go_enter Tryd.func12, Tryd.ntmps12
  go_wp2_with fail
  refine bodyPost_ret (v := Hd.val ⟨8, 0, 0, 0, 0, true⟩) (by simp [results, Tryd.results12, go_sem]) rfl ⟨rfl, ?_⟩
  repeat (first | exact Below.refl _ _ | (refine Below.alloc ?_ (by simp <;> omega) _))

set_option maxHeartbeats 1000000 in
set_option maxRecDepth 100000 in
theorem head_198_whole (g o n c : Nat) (l : List Int) (w : World) (hr : Rd w (some ⟨g, o, none⟩) l) (hn : Hid (l.length = n)) (hnc : n ≤ c) (hm : c ≤ 9223372036854775807) (hg : g < w.heap.size) (hs : 5 ≤ n) (c0 : w.cell? ⟨g, o, none⟩ = some (.int .u8 198)) :
    Calls Tryd.prog 12 #[.slice (some ⟨g, o, none⟩) n c] w fun e w' => e = .returned (Hd.val ⟨8, 0, (be4 l 1), 0, 5, false⟩) ∧ Below w.heap.size w w' := by
  have e0 : ((n : Int) == 0) = false := by simp; omega
  have hA : ∀ (W : World) (o' : Obj) (j : Nat), g < W.heap.size → (W.alloc o').cell? ⟨g, j, none⟩ = W.cell? ⟨g, j, none⟩ := fun W o' j h => World.cell?_alloc_lt W o' ⟨g, j, none⟩ h
  have g1 : g < w.heap.size + 1 := by omega
  have g2 : g < w.heap.size + 1 + 1 := by omega
  have e1 : ¬ c = 1 := by omega
  obtain ⟨b0, b1⟩ := be4_range hr.1 1
  go_enter Tryd.func12, Tryd.ntmps12
  go_wp2_with fail
  ((with_reducible refine (number_4 _ _ _ l _ ((hr.alloc _).alloc _) (by have := hn.out; omega)).mono ?_); rintro e w' ⟨rfl, rfl⟩)
  go_wp2_with fail
  refine bodyPost_ret (v := Hd.val ⟨8, 0, (be4 l 1), 0, 5, false⟩) (by simp [results, Tryd.results12, go_sem]) rfl ⟨rfl, ?_⟩
  repeat (first | exact Below.refl _ _ | (refine Below.alloc ?_ (by simp <;> omega) _))

set_option maxHeartbeats 1000000 in
set_option maxRecDepth 100000 in
theorem head_199_short (g o n c : Nat) (w : World) (_hnc : n ≤ c) (_hm : c ≤ 9223372036854775807) (hg : g < w.heap.size) (hn1 : 1 ≤ n) (hs : n < 3) (c0 : w.cell? ⟨g, o, none⟩ = some (.int .u8 199)) :
    Calls Tryd.prog 12 #[.slice (some ⟨g, o, none⟩) n c] w fun e w' => e = .returned (Hd.val ⟨11, 0, 0, 0, 0, true⟩) ∧ Below w.heap.size w w' := by
  have e0 : ((n : Int) == 0) = false := by simp; omega
  have hA : ∀ (W : World) (o' : Obj) (j : Nat), g < W.heap.size → (W.alloc o').cell? ⟨g, j, none⟩ = W.cell? ⟨g, j, none⟩ := fun W o' j h => World.cell?_alloc_lt W o' ⟨g, j, none⟩ h
  have g1 : g < w.heap.size + 1 := by omega
  have g2 : g < w.heap.size + 1 + 1 := by omega
  go_enter Tryd.func12, Tryd.ntmps12
  go_wp2_with fail
  refine bodyPost_ret (v := Hd.val ⟨11, 0, 0, 0, 0, true⟩) (by simp [results, Tryd.results12, go_sem]) rfl ⟨rfl, ?_⟩
  repeat (first | exact Below.refl _ _ | (refine Below.alloc ?_ (by simp <;> omega) _))

set_option maxHeartbeats 1000000 in
set_option maxRecDepth 100000 in
theorem head_199_whole (g o n c : Nat) (l : List Int) (w : World) (hr : Rd w (some ⟨g, o, none⟩) l) (hn : Hid (l.length = n)) (hnc : n ≤ c) (hm : c ≤ 9223372036854775807) (hg : g < w.heap.size) (hs : 3 ≤ n) (c0 : w.cell? ⟨g, o, none⟩ = some (.int .u8 199)) :
    Calls Tryd.prog 12 #[.slice (some ⟨g, o, none⟩) n c] w fun e w' => e = .returned (Hd.val ⟨11, 0, (at_ l 1), (s8 (at_ l 2)), 3, false⟩) ∧ Below w.heap.size w w' := by
  have e0 : ((n : Int) == 0) = false := by simp; omega
  have hA : ∀ (W : World) (o' : Obj) (j : Nat), g < W.heap.size → (W.alloc o').cell? ⟨g, j, none⟩ = W.cell? ⟨g, j, none⟩ := fun W o' j h => World.cell?_alloc_lt W o' ⟨g, j, none⟩ h
  have g1 : g < w.heap.size + 1 := by omega
  have g2 : g < w.heap.size + 1 + 1 := by omega
  have e1 : ¬ c = 1 := by omega
  obtain ⟨b0, b1⟩ := hr.1.at_ 1
  have cT : w.cell? ⟨g, o + 2, none⟩ = some (.int .u8 (at_ l 2)) := by
    obtain ⟨g', o', hA', -, hc⟩ := hr.2 (by have := hn.out; omega)
    injection hA' with hA'
    injection hA' with h1 h2
    subst h1; subst h2
    exact hc 2 (by have := hn.out; omega)
  go_enter Tryd.func12, Tryd.ntmps12
  go_wp2_with fail
  ((with_reducible refine (number_1 _ _ _ l _ ((hr.alloc _).alloc _) (by have := hn.out; omega)).mono ?_); rintro e w' ⟨rfl, rfl⟩)
  go_wp2_with fail
  refine bodyPost_ret (v := Hd.val ⟨11, 0, (at_ l 1), (s8 (at_ l 2)), 3, false⟩) (by simp [results, Tryd.results12, go_sem, s8]) rfl ⟨rfl, ?_⟩
  repeat (first | exact Below.refl _ _ | (refine Below.alloc ?_ (by simp <;> omega) _))

set_option maxHeartbeats 1000000 in
set_option maxRecDepth 100000 in
theorem head_200_short (g o n c : Nat) (w : World) (_hnc : n ≤ c) (_hm : c ≤ 9223372036854775807) (hg : g < w.heap.size) (hn1 : 1 ≤ n) (hs : n < 4) (c0 : w.cell? ⟨g, o, none⟩ = some (.int .u8 200)) :
    Calls Tryd.prog 12 #[.slice (some ⟨g, o, none⟩) n c] w fun e w' => e = .returned (Hd.val ⟨11, 0, 0, 0, 0, true⟩) ∧ Below w.heap.size w w' := by
  have e0 : ((n : Int) == 0) = false := by simp; omega
  have hA : ∀ (W : World) (o' : Obj) (j : Nat), g < W.heap.size → (W.alloc o').cell? ⟨g, j, none⟩ = W.cell? ⟨g, j, none⟩ := fun W o' j h => World.cell?_alloc_lt W o' ⟨g, j, none⟩ h
  have g1 : g < w.heap.size + 1 := by omega
  have g2 : g < w.heap.size + 1 + 1 := by omega
  go_enter Tryd.func12, Tryd.ntmps12
  go_wp2_with fail
  refine bodyPost_ret (v := Hd.val ⟨11, 0, 0, 0, 0, true⟩) (by simp [results, Tryd.results12, go_sem]) rfl ⟨rfl, ?_⟩
  repeat (first | exact Below.refl _ _ | (refine Below.alloc ?_ (by simp <;> omega) _))

set_option maxHeartbeats 1000000 in
set_option maxRecDepth 100000 in
theorem head_200_whole (g o n c : Nat) (l : List Int) (w : World) (hr : Rd w (some ⟨g, o, none⟩) l) (hn : Hid (l.length = n)) (hnc : n ≤ c) (hm : c ≤ 9223372036854775807) (hg : g < w.heap.size) (hs : 4 ≤ n) (c0 : w.cell? ⟨g, o, none⟩ = some (.int .u8 200)) :
    Calls Tryd.prog 12 #[.slice (some ⟨g, o, none⟩) n c] w fun e w' => e = .returned (Hd.val ⟨11, 0, (be2 l 1), (s8 (at_ l 3)), 4, false⟩) ∧ Below w.heap.size w w' := by
  have e0 : ((n : Int) == 0) = false := by simp; omega
  have hA : ∀ (W : World) (o' : Obj) (j : Nat), g < W.heap.size → (W.alloc o').cell? ⟨g, j, none⟩ = W.cell? ⟨g, j, none⟩ := fun W o' j h => World.cell?_alloc_lt W o' ⟨g, j, none⟩ h
  have g1 : g < w.heap.size + 1 := by omega
  have g2 : g < w.heap.size + 1 + 1 := by omega
  have e1 : ¬ c = 1 := by omega
  obtain ⟨b0, b1⟩ := be2_range hr.1 1
  have cT : w.cell? ⟨g, o + 3, none⟩ = some (.int .u8 (at_ l 3)) := by
    obtain ⟨g', o', hA', -, hc⟩ := hr.2 (by have := hn.out; omega)
    injection hA' with hA'
    injection hA' with h1 h2
    subst h1; subst h2
    exact hc 3 (by have := hn.out; omega)
  go_enter Tryd.func12, Tryd.ntmps12
  go_wp2_with fail
  ((with_reducible refine (number_2 _ _ _ l _ ((hr.alloc _).alloc _) (by have := hn.out; omega)).mono ?_); rintro e w' ⟨rfl, rfl⟩)
  go_wp2_with fail
  refine bodyPost_ret (v := Hd.val ⟨11, 0, (be2 l 1), (s8 (at_ l 3)), 4, false⟩) (by simp [results, Tryd.results12, go_sem, s8]) rfl ⟨rfl, ?_⟩
  repeat (first | exact Below.refl _ _ | (refine Below.alloc ?_ (by simp <;> omega) _))

set_option maxHeartbeats 1000000 in
set_option maxRecDepth 100000 in
theorem head_201_short (g o n c : Nat) (w : World) (_hnc : n ≤ c) (_hm : c ≤ 9223372036854775807) (hg : g < w.heap.size) (hn1 : 1 ≤ n) (hs : n < 6) (c0 : w.cell? ⟨g, o, none⟩ = some (.int .u8 201)) :
    Calls Tryd.prog 12 #[.slice (some ⟨g, o, none⟩) n c] w fun e w' => e = .returned (Hd.val ⟨11, 0, 0, 0, 0, true⟩) ∧ Below w.heap.size w w' := by
  have e0 : ((n : Int) == 0) = false := by simp; omega
  have hA : ∀ (W : World) (o' : Obj) (j : Nat), g < W.heap.size → (W.alloc o').cell? ⟨g, j, none⟩ = W.cell? ⟨g, j, none⟩ := fun W o' j h => World.cell?_alloc_lt W o' ⟨g, j, none⟩ h
  have g1 : g < w.heap.size + 1 := by omega
  have g2 : g < w.heap.size + 1 + 1 := by omega
  go_enter Tryd.func12, Tryd.ntmps12
  go_wp2_with fail
  refine bodyPost_ret (v := Hd.val ⟨11, 0, 0, 0, 0, true⟩) (by simp [results, Tryd.results12, go_sem]) rfl ⟨rfl, ?_⟩
  repeat (first | exact Below.refl _ _ | (refine Below.alloc ?_ (by simp <;> omega) _))

set_option maxHeartbeats 1000000 in
set_option maxRecDepth 100000 in
theorem head_201_whole (g o n c : Nat) (l : List Int) (w : World) (hr : Rd w (some ⟨g, o, none⟩) l) (hn : Hid (l.length = n)) (hnc : n ≤ c) (hm : c ≤ 9223372036854775807) (hg : g < w.heap.size) (hs : 6 ≤ n) (c0 : w.cell? ⟨g, o, none⟩ = some (.int .u8 201)) :
    Calls Tryd.prog 12 #[.slice (some ⟨g, o, none⟩) n c] w fun e w' => e = .returned (Hd.val ⟨11, 0, (be4 l 1), (s8 (at_ l 5)), 6, false⟩) ∧ Below w.heap.size w w' := by
  have e0 : ((n : Int) == 0) = false := by simp; omega
  have hA : ∀ (W : World) (o' : Obj) (j : Nat), g < W.heap.size → (W.alloc o').cell? ⟨g, j, none⟩ = W.cell? ⟨g, j, none⟩ := fun W o' j h => World.cell?_alloc_lt W o' ⟨g, j, none⟩ h
  have g1 : g < w.heap.size + 1 := by omega
  have g2 : g < w.heap.size + 1 + 1 := by omega
  have e1 : ¬ c = 1 := by omega
  obtain ⟨b0, b1⟩ := be4_range hr.1 1
  have cT : w.cell? ⟨g, o + 5, none⟩ = some (.int .u8 (at_ l 5)) := by
    obtain ⟨g', o', hA', -, hc⟩ := hr.2 (by have := hn.out; omega)
    injection hA' with hA'
    injection hA' with h1 h2
    subst h1; subst h2
    exact hc 5 (by have := hn.out; omega)
  go_enter Tryd.func12, Tryd.ntmps12
  go_wp2_with fail
  ((with_reducible refine (number_4 _ _ _ l _ ((hr.alloc _).alloc _) (by have := hn.out; omega)).mono ?_); rintro e w' ⟨rfl, rfl⟩)
  go_wp2_with fail
  refine bodyPost_ret (v := Hd.val ⟨11, 0, (be4 l 1), (s8 (at_ l 5)), 6, false⟩) (by simp [results, Tryd.results12, go_sem, s8]) rfl ⟨rfl, ?_⟩
  repeat (first | exact Below.refl _ _ | (refine Below.alloc ?_ (by simp <;> omega) _))

set_option maxHeartbeats 1000000 in
set_option maxRecDepth 100000 in
theorem head_202_short (g o n c : Nat) (w : World) (_hnc : n ≤ c) (_hm : c ≤ 9223372036854775807) (hg : g < w.heap.size) (hn1 : 1 ≤ n) (hs : n < 5) (c0 : w.cell? ⟨g, o, none⟩ = some (.int .u8 202)) :
    Calls Tryd.prog 12 #[.slice (some ⟨g, o, none⟩) n c] w fun e w' => e = .returned (Hd.val ⟨5, 0, 0, 0, 0, true⟩) ∧ Below w.heap.size w w' := by
  have e0 : ((n : Int) == 0) = false := by simp; omega
  have hA : ∀ (W : World) (o' : Obj) (j : Nat), g < W.heap.size → (W.alloc o').cell? ⟨g, j, none⟩ = W.cell? ⟨g, j, none⟩ := fun W o' j h => World.cell?_alloc_lt W o' ⟨g, j, none⟩ h
  have g1 : g < w.heap.size + 1 := by omega
  have g2 : g < w.heap.size + 1 + 1 := by omega
  go_enter Tryd.func12, Tryd.ntmps12
  go_wp2_with fail
  refine bodyPost_ret (v := Hd.val ⟨5, 0, 0, 0, 0, true⟩) (by simp [results, Tryd.results12, go_sem]) rfl ⟨rfl, ?_⟩
  repeat (first | exact Below.refl _ _ | (refine Below.alloc ?_ (by simp <;> omega) _))

set_option maxHeartbeats 1000000 in
set_option maxRecDepth 100000 in
theorem head_202_whole (g o n c : Nat) (l : List Int) (w : World) (hr : Rd w (some ⟨g, o, none⟩) l) (hn : Hid (l.length = n)) (hnc : n ≤ c) (hm : c ≤ 9223372036854775807) (hg : g < w.heap.size) (hs : 5 ≤ n) (c0 : w.cell? ⟨g, o, none⟩ = some (.int .u8 202)) :
    Calls Tryd.prog 12 #[.slice (some ⟨g, o, none⟩) n c] w fun e w' => e = .returned (Hd.val ⟨5, (be4 l 1), 0, 0, 5, false⟩) ∧ Below w.heap.size w w' := by
  have e0 : ((n : Int) == 0) = false := by simp; omega
  have hA : ∀ (W : World) (o' : Obj) (j : Nat), g < W.heap.size → (W.alloc o').cell? ⟨g, j, none⟩ = W.cell? ⟨g, j, none⟩ := fun W o' j h => World.cell?_alloc_lt W o' ⟨g, j, none⟩ h
  have g1 : g < w.heap.size + 1 := by omega
  have g2 : g < w.heap.size + 1 + 1 := by omega
  have e1 : ¬ c = 1 := by omega
  obtain ⟨b0, b1⟩ := be4_range hr.1 1
  go_enter Tryd.func12, Tryd.ntmps12
  go_wp2_with fail
  ((with_reducible refine (number_4 _ _ _ l _ ((hr.alloc _).alloc _) (by have := hn.out; omega)).mono ?_); rintro e w' ⟨rfl, rfl⟩)
  go_wp2_with fail
  refine bodyPost_ret (v := Hd.val ⟨5, (be4 l 1), 0, 0, 5, false⟩) (by simp [results, Tryd.results12, go_sem]) rfl ⟨rfl, ?_⟩
  repeat (first | exact Below.refl _ _ | (refine Below.alloc ?_ (by simp <;> omega) _))


end Go.Proofs.YtmhilpnagpkkiaaDoor
