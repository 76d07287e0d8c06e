/- msgp's getSize, walked: how many bytes an object has, and how many objects follow in it. Conditions: the slice reads as bytes; the two sentinels' variables hold what the program lays in them. -/
import Derived.Test.YtmhilpnagpkkiaaDoorSkipPlain
import Derived.Test.YtmhilpnagpkkiaaDoorInts
import Derived.Deep.RegionHeld3
namespace Go.Proofs.YtmhilpnagpkkiaaDoor
open Go Go.RowKit Go.Lib
set_option linter.unusedVariables false

theorem below_w {w w1 w2 : World} (h : Below w.heap.size w w1) (hb : Below w1.heap.size w1 w2) : Below w.heap.size w w2 := h.trans (hb.mono h.size)

set_option maxHeartbeats 2000000 in
set_option maxRecDepth 100000 in
theorem gs_zero (g o n c : Nat) (l : List Int) (w : World) (s m t : Int) (hr : Rd w (some ⟨g, o, none⟩) l) (hn : Hid (l.length = n)) (hnc : n ≤ c) (hm : c ≤ 9223372036854775807) (hg : g < w.heap.size) (hG : Hid (Glob w)) (hpos : 1 ≤ n) (x : Int) (c0 : w.cell? ⟨g, o, none⟩ = some (.int .u8 x)) (hgb : ∀ W : World, Calls Tryd.prog 72 #[.int .u8 x] W fun e w' => e = .returned (.agg #[.int .u8 s, .int .i8 m, .int .u8 t, .int .u8 0]) ∧ (W.alloc (.cells #[.int .u8 s, .int .i8 m, .int .u8 t, .int .u8 0] 134)).alloc (.cells #[.int .u8 s, .int .i8 m, .int .u8 t, .int .u8 0] 134) = w') (hs : s = 0) :
    Calls Tryd.prog 69 #[.slice (some ⟨g, o, none⟩) n c] w fun e w' => e = .returned (.tuple #[.int .u64 0, .int .u64 0, ePre x]) ∧ Below w.heap.size w w' := by
  have hA : ∀ (W : World) (o' : Obj) (g j : Nat), g < W.heap.size → (W.alloc o').cell? ⟨g, j, none⟩ = W.cell? ⟨g, j, none⟩ := fun W o' g j h => World.cell?_alloc_lt W o' ⟨g, j, none⟩ h
  have hA3 : ∀ (o1 o2 o3 : Obj) (j : Nat), (((w.alloc o1).alloc o2).alloc o3).cell? ⟨g, j, none⟩ = w.cell? ⟨g, j, none⟩ := fun o1 o2 o3 j => by rw [World.cell?_alloc_lt _ _ ⟨g, j, none⟩ (by simp; omega), World.cell?_alloc_lt _ _ ⟨g, j, none⟩ (by simp; omega), World.cell?_alloc_lt _ _ ⟨g, j, none⟩ (by simpa using hg)]
  have e0 : ((n : Int) == 0) = false := by simp; omega
  have es : (s == 0) = true := by simp [hs]
  go_enter Tryd.func69, Tryd.ntmps69
  go_wp2_with (first | (go_at_call 72; refine (hgb _).mono ?_; rintro e w' ⟨rfl, rfl⟩) | fail)
  go_quiet (fail)
  go_wp2_with fail
  all_goals
    go_ret3
    exact ⟨rfl, by repeat (first | exact Below.refl _ _ | (refine Below.alloc ?_ (by simp <;> omega) _) | (refine below_drewN ?_ _))⟩

set_option maxHeartbeats 2000000 in
set_option maxRecDepth 100000 in
theorem gs_fixed (g o n c : Nat) (l : List Int) (w : World) (s m t : Int) (hr : Rd w (some ⟨g, o, none⟩) l) (hn : Hid (l.length = n)) (hnc : n ≤ c) (hm : c ≤ 9223372036854775807) (hg : g < w.heap.size) (hG : Hid (Glob w)) (hpos : 1 ≤ n) (x : Int) (c0 : w.cell? ⟨g, o, none⟩ = some (.int .u8 x)) (hgb : ∀ W : World, Calls Tryd.prog 72 #[.int .u8 x] W fun e w' => e = .returned (.agg #[.int .u8 s, .int .i8 m, .int .u8 t, .int .u8 0]) ∧ (W.alloc (.cells #[.int .u8 s, .int .i8 m, .int .u8 t, .int .u8 0] 134)).alloc (.cells #[.int .u8 s, .int .i8 m, .int .u8 t, .int .u8 0] 134) = w') (hs : 1 ≤ s) (hs2 : s ≤ 32) (hm0 : 0 ≤ m) (hm1 : m ≤ 30) :
    Calls Tryd.prog 69 #[.slice (some ⟨g, o, none⟩) n c] w fun e w' => e = .returned (.tuple #[.int .u64 s, .int .u64 m, .nilIface]) ∧ Below w.heap.size w w' := by
  have hA : ∀ (W : World) (o' : Obj) (g j : Nat), g < W.heap.size → (W.alloc o').cell? ⟨g, j, none⟩ = W.cell? ⟨g, j, none⟩ := fun W o' g j h => World.cell?_alloc_lt W o' ⟨g, j, none⟩ h
  have hA3 : ∀ (o1 o2 o3 : Obj) (j : Nat), (((w.alloc o1).alloc o2).alloc o3).cell? ⟨g, j, none⟩ = w.cell? ⟨g, j, none⟩ := fun o1 o2 o3 j => by rw [World.cell?_alloc_lt _ _ ⟨g, j, none⟩ (by simp; omega), World.cell?_alloc_lt _ _ ⟨g, j, none⟩ (by simp; omega), World.cell?_alloc_lt _ _ ⟨g, j, none⟩ (by simpa using hg)]
  have e0 : ((n : Int) == 0) = false := by simp; omega
  have es : (s == 0) = false := by simp; omega
  go_enter Tryd.func69, Tryd.ntmps69
  go_wp2_with (first | (go_at_call 72; refine (hgb _).mono ?_; rintro e w' ⟨rfl, rfl⟩) | fail)
  go_quiet (fail)
  go_wp2_with fail
  all_goals
    go_ret3
    exact ⟨rfl, by repeat (first | exact Below.refl _ _ | (refine Below.alloc ?_ (by simp <;> omega) _) | (refine below_drewN ?_ _))⟩

set_option maxHeartbeats 2000000 in
set_option maxRecDepth 100000 in
theorem gs_short (g o n c : Nat) (l : List Int) (w : World) (s m t : Int) (hr : Rd w (some ⟨g, o, none⟩) l) (hn : Hid (l.length = n)) (hnc : n ≤ c) (hm : c ≤ 9223372036854775807) (hg : g < w.heap.size) (hG : Hid (Glob w)) (hpos : 1 ≤ n) (x : Int) (c0 : w.cell? ⟨g, o, none⟩ = some (.int .u8 x)) (hgb : ∀ W : World, Calls Tryd.prog 72 #[.int .u8 x] W fun e w' => e = .returned (.agg #[.int .u8 s, .int .i8 m, .int .u8 t, .int .u8 0]) ∧ (W.alloc (.cells #[.int .u8 s, .int .i8 m, .int .u8 t, .int .u8 0] 134)).alloc (.cells #[.int .u8 s, .int .i8 m, .int .u8 t, .int .u8 0] 134) = w') (hs : 1 ≤ s) (hs2 : s ≤ 32) (hm0 : m < 0) (hm1 : -7 ≤ m) (hl : (n : Int) < s) :
    Calls Tryd.prog 69 #[.slice (some ⟨g, o, none⟩) n c] w fun e w' => e = .returned (.tuple #[.int .u64 0, .int .u64 0, eShort]) ∧ Below w.heap.size w w' := by
  have hA : ∀ (W : World) (o' : Obj) (g j : Nat), g < W.heap.size → (W.alloc o').cell? ⟨g, j, none⟩ = W.cell? ⟨g, j, none⟩ := fun W o' g j h => World.cell?_alloc_lt W o' ⟨g, j, none⟩ h
  have hA3 : ∀ (o1 o2 o3 : Obj) (j : Nat), (((w.alloc o1).alloc o2).alloc o3).cell? ⟨g, j, none⟩ = w.cell? ⟨g, j, none⟩ := fun o1 o2 o3 j => by rw [World.cell?_alloc_lt _ _ ⟨g, j, none⟩ (by simp; omega), World.cell?_alloc_lt _ _ ⟨g, j, none⟩ (by simp; omega), World.cell?_alloc_lt _ _ ⟨g, j, none⟩ (by simpa using hg)]
  have e0 : ((n : Int) == 0) = false := by simp; omega
  have es : (s == 0) = false := by simp; omega
  have gs := hG.out.1
  have l1 := World.block_lt_of_cell? w _ gs
  simp only at l1
  go_enter Tryd.func69, Tryd.ntmps69
  go_wp2_with (first | (go_at_call 72; refine (hgb _).mono ?_; rintro e w' ⟨rfl, rfl⟩) | fail)
  go_quiet (fail)
  go_wp2_with fail
  all_goals try (go_quiet (fail); go_wp2_with fail)
  all_goals
    go_ret3
    exact ⟨rfl, by repeat (first | exact Below.refl _ _ | (refine Below.alloc ?_ (by simp <;> omega) _) | (refine below_drewN ?_ _))⟩

set_option maxHeartbeats 2000000 in
set_option maxRecDepth 100000 in
theorem gs_m1 (g o n c : Nat) (l : List Int) (w : World) (s m t : Int) (hr : Rd w (some ⟨g, o, none⟩) l) (hn : Hid (l.length = n)) (hnc : n ≤ c) (hm : c ≤ 9223372036854775807) (hg : g < w.heap.size) (hG : Hid (Glob w)) (hpos : 1 ≤ n) (x : Int) (c0 : w.cell? ⟨g, o, none⟩ = some (.int .u8 x)) (hgb : ∀ W : World, Calls Tryd.prog 72 #[.int .u8 x] W fun e w' => e = .returned (.agg #[.int .u8 s, .int .i8 m, .int .u8 t, .int .u8 0]) ∧ (W.alloc (.cells #[.int .u8 s, .int .i8 m, .int .u8 t, .int .u8 0] 134)).alloc (.cells #[.int .u8 s, .int .i8 m, .int .u8 t, .int .u8 0] 134) = w') (hs : 2 ≤ s) (hs2 : s ≤ 32) (hm0 : m = -1) (hl : s ≤ (n : Int)) :
    Calls Tryd.prog 69 #[.slice (some ⟨g, o, none⟩) n c] w fun e w' => e = .returned (.tuple #[.int .u64 (s + at_ l 1), .int .u64 0, .nilIface]) ∧ Below w.heap.size w w' := by
  have hA : ∀ (W : World) (o' : Obj) (g j : Nat), g < W.heap.size → (W.alloc o').cell? ⟨g, j, none⟩ = W.cell? ⟨g, j, none⟩ := fun W o' g j h => World.cell?_alloc_lt W o' ⟨g, j, none⟩ h
  have hA3 : ∀ (o1 o2 o3 : Obj) (j : Nat), (((w.alloc o1).alloc o2).alloc o3).cell? ⟨g, j, none⟩ = w.cell? ⟨g, j, none⟩ := fun o1 o2 o3 j => by rw [World.cell?_alloc_lt _ _ ⟨g, j, none⟩ (by simp; omega), World.cell?_alloc_lt _ _ ⟨g, j, none⟩ (by simp; omega), World.cell?_alloc_lt _ _ ⟨g, j, none⟩ (by simpa using hg)]
  have e0 : ((n : Int) == 0) = false := by simp; omega
  have es : (s == 0) = false := by simp; omega
  obtain ⟨b0, b1⟩ := hr.1.at_ 1
  have c1 : w.cell? ⟨g, o + 1, none⟩ = some (.int .u8 (at_ l 1)) := by
    obtain ⟨g', o', hA', -, hc⟩ := hr.2 (by have := hn.out; omega)
    injection hA' with hA'
    injection hA' with h1 h2
    subst h1; subst h2
    exact hc 1 (by have := hn.out; omega)
  generalize at_ l 1 = y at *
  subst hm0
  go_enter Tryd.func69, Tryd.ntmps69
  go_wp2_with (first | (go_at_call 72; refine (hgb _).mono ?_; rintro e w' ⟨rfl, rfl⟩) | fail)
  go_quiet (fail)
  go_wp2_with fail
  all_goals
    go_ret3
    exact ⟨rfl, by repeat (first | exact Below.refl _ _ | (refine Below.alloc ?_ (by simp <;> omega) _) | (refine below_drewN ?_ _))⟩

set_option maxHeartbeats 2000000 in
set_option maxRecDepth 100000 in
theorem gs_m2 (g o n c : Nat) (l : List Int) (w : World) (s m t : Int) (hr : Rd w (some ⟨g, o, none⟩) l) (hn : Hid (l.length = n)) (hnc : n ≤ c) (hm : c ≤ 9223372036854775807) (hg : g < w.heap.size) (hG : Hid (Glob w)) (hpos : 1 ≤ n) (x : Int) (c0 : w.cell? ⟨g, o, none⟩ = some (.int .u8 x)) (hgb : ∀ W : World, Calls Tryd.prog 72 #[.int .u8 x] W fun e w' => e = .returned (.agg #[.int .u8 s, .int .i8 m, .int .u8 t, .int .u8 0]) ∧ (W.alloc (.cells #[.int .u8 s, .int .i8 m, .int .u8 t, .int .u8 0] 134)).alloc (.cells #[.int .u8 s, .int .i8 m, .int .u8 t, .int .u8 0] 134) = w') (hs : 3 ≤ s) (hs2 : s ≤ 32) (hm0 : m = -2) (hl : s ≤ (n : Int)) :
    Calls Tryd.prog 69 #[.slice (some ⟨g, o, none⟩) n c] w fun e w' => e = .returned (.tuple #[.int .u64 (s + be2 l 1), .int .u64 0, .nilIface]) ∧ Below w.heap.size w w' := by
  have hA : ∀ (W : World) (o' : Obj) (g j : Nat), g < W.heap.size → (W.alloc o').cell? ⟨g, j, none⟩ = W.cell? ⟨g, j, none⟩ := fun W o' g j h => World.cell?_alloc_lt W o' ⟨g, j, none⟩ h
  have hA3 : ∀ (o1 o2 o3 : Obj) (j : Nat), (((w.alloc o1).alloc o2).alloc o3).cell? ⟨g, j, none⟩ = w.cell? ⟨g, j, none⟩ := fun o1 o2 o3 j => by rw [World.cell?_alloc_lt _ _ ⟨g, j, none⟩ (by simp; omega), World.cell?_alloc_lt _ _ ⟨g, j, none⟩ (by simp; omega), World.cell?_alloc_lt _ _ ⟨g, j, none⟩ (by simpa using hg)]
  have e0 : ((n : Int) == 0) = false := by simp; omega
  have es : (s == 0) = false := by simp; omega
  obtain ⟨b0, b1⟩ := be2_range hr.1 1
  have hR : ∀ (o1 o2 o3 : Obj) (k : Nat), Rd ((((w.alloc o1).alloc o2).alloc o3).drewN k) (some ⟨g, o + 1, none⟩) (l.drop 1) := fun o1 o2 o3 k => ((((hr.cut 1).alloc o1).alloc o2).alloc o3)
  have hd : be2 (l.drop 1) 0 = be2 l 1 := be2_drop l
  have ec : ¬ c = 1 := by omega
  have hq : (l.drop 1).length = n - 1 := by rw [List.length_drop, hn.out]
  have HQ := Lib.hid hq
  clear hq
  have HD := Lib.hid hd
  clear hd
  generalize be2 l 1 = y at *
  have i1 : (1 : Int) ≤ (n : Int) := by omega
  have i2 : (n : Int) ≤ (c : Int) := by omega
  have i3 : (1 : Int) ≤ (c : Int) := by omega
  have v0 := u64_wrap_id s (by omega) (by omega)
  have v1 := u64_wrap_id y (by omega) (by omega)
  have v2 := u64_wrap_id (s + y) (by omega) (by omega)
  subst hm0
  go_enter Tryd.func69, Tryd.ntmps69
  go_wp2_with (first | (go_at_call 72; refine (hgb _).mono ?_; rintro e w' ⟨rfl, rfl⟩) | fail)
  go_quiet (fail)
  go_wp2_with fail
  go_region_held3 (fun w' => True) (trivial) ((go_at_call 57; (refine (u16_c _ _ _ _ (l.drop 1) _ (hR _ _ _ _) HQ.out (by omega)).mono ?_); rintro e w1 ⟨rfl, hb1⟩; rw [HD.out]))
  all_goals
    go_wp2_with fail
    go_ret3
    exact ⟨rfl, below_w (by repeat (first | exact Below.refl _ _ | (refine Below.alloc ?_ (by simp <;> omega) _) | (refine below_drewN ?_ _))) hb1⟩

set_option maxHeartbeats 2000000 in
set_option maxRecDepth 100000 in
theorem gs_m3 (g o n c : Nat) (l : List Int) (w : World) (s m t : Int) (hr : Rd w (some ⟨g, o, none⟩) l) (hn : Hid (l.length = n)) (hnc : n ≤ c) (hm : c ≤ 9223372036854775807) (hg : g < w.heap.size) (hG : Hid (Glob w)) (hpos : 1 ≤ n) (x : Int) (c0 : w.cell? ⟨g, o, none⟩ = some (.int .u8 x)) (hgb : ∀ W : World, Calls Tryd.prog 72 #[.int .u8 x] W fun e w' => e = .returned (.agg #[.int .u8 s, .int .i8 m, .int .u8 t, .int .u8 0]) ∧ (W.alloc (.cells #[.int .u8 s, .int .i8 m, .int .u8 t, .int .u8 0] 134)).alloc (.cells #[.int .u8 s, .int .i8 m, .int .u8 t, .int .u8 0] 134) = w') (hs : 5 ≤ s) (hs2 : s ≤ 32) (hm0 : m = -3) (hl : s ≤ (n : Int)) :
    Calls Tryd.prog 69 #[.slice (some ⟨g, o, none⟩) n c] w fun e w' => e = .returned (.tuple #[.int .u64 (s + be4 l 1), .int .u64 0, .nilIface]) ∧ Below w.heap.size w w' := by
  have hA : ∀ (W : World) (o' : Obj) (g j : Nat), g < W.heap.size → (W.alloc o').cell? ⟨g, j, none⟩ = W.cell? ⟨g, j, none⟩ := fun W o' g j h => World.cell?_alloc_lt W o' ⟨g, j, none⟩ h
  have hA3 : ∀ (o1 o2 o3 : Obj) (j : Nat), (((w.alloc o1).alloc o2).alloc o3).cell? ⟨g, j, none⟩ = w.cell? ⟨g, j, none⟩ := fun o1 o2 o3 j => by rw [World.cell?_alloc_lt _ _ ⟨g, j, none⟩ (by simp; omega), World.cell?_alloc_lt _ _ ⟨g, j, none⟩ (by simp; omega), World.cell?_alloc_lt _ _ ⟨g, j, none⟩ (by simpa using hg)]
  have e0 : ((n : Int) == 0) = false := by simp; omega
  have es : (s == 0) = false := by simp; omega
  obtain ⟨b0, b1⟩ := be4_range hr.1 1
  have hR : ∀ (o1 o2 o3 : Obj) (k : Nat), Rd ((((w.alloc o1).alloc o2).alloc o3).drewN k) (some ⟨g, o + 1, none⟩) (l.drop 1) := fun o1 o2 o3 k => ((((hr.cut 1).alloc o1).alloc o2).alloc o3)
  have hd : be4 (l.drop 1) 0 = be4 l 1 := be4_drop l
  have ec : ¬ c = 1 := by omega
  have hq : (l.drop 1).length = n - 1 := by rw [List.length_drop, hn.out]
  have HQ := Lib.hid hq
  clear hq
  have HD := Lib.hid hd
  clear hd
  generalize be4 l 1 = y at *
  have i1 : (1 : Int) ≤ (n : Int) := by omega
  have i2 : (n : Int) ≤ (c : Int) := by omega
  have i3 : (1 : Int) ≤ (c : Int) := by omega
  have v0 := u64_wrap_id s (by omega) (by omega)
  have v1 := u64_wrap_id y (by omega) (by omega)
  have v2 := u64_wrap_id (s + y) (by omega) (by omega)
  subst hm0
  go_enter Tryd.func69, Tryd.ntmps69
  go_wp2_with (first | (go_at_call 72; refine (hgb _).mono ?_; rintro e w' ⟨rfl, rfl⟩) | fail)
  go_quiet (fail)
  go_wp2_with fail
  go_region_held3 (fun w' => True) (trivial) ((go_at_call 58; (refine (u32_c _ _ _ _ (l.drop 1) _ (hR _ _ _ _) HQ.out (by omega)).mono ?_); rintro e w1 ⟨rfl, hb1⟩; rw [HD.out]))
  all_goals
    go_wp2_with fail
    go_ret3
    exact ⟨rfl, below_w (by repeat (first | exact Below.refl _ _ | (refine Below.alloc ?_ (by simp <;> omega) _) | (refine below_drewN ?_ _))) hb1⟩

set_option maxHeartbeats 2000000 in
set_option maxRecDepth 100000 in
theorem gs_m4 (g o n c : Nat) (l : List Int) (w : World) (s m t : Int) (hr : Rd w (some ⟨g, o, none⟩) l) (hn : Hid (l.length = n)) (hnc : n ≤ c) (hm : c ≤ 9223372036854775807) (hg : g < w.heap.size) (hG : Hid (Glob w)) (hpos : 1 ≤ n) (x : Int) (c0 : w.cell? ⟨g, o, none⟩ = some (.int .u8 x)) (hgb : ∀ W : World, Calls Tryd.prog 72 #[.int .u8 x] W fun e w' => e = .returned (.agg #[.int .u8 s, .int .i8 m, .int .u8 t, .int .u8 0]) ∧ (W.alloc (.cells #[.int .u8 s, .int .i8 m, .int .u8 t, .int .u8 0] 134)).alloc (.cells #[.int .u8 s, .int .i8 m, .int .u8 t, .int .u8 0] 134) = w') (hs : 3 ≤ s) (hs2 : s ≤ 32) (hm0 : m = -4) (hl : s ≤ (n : Int)) :
    Calls Tryd.prog 69 #[.slice (some ⟨g, o, none⟩) n c] w fun e w' => e = .returned (.tuple #[.int .u64 s, .int .u64 (2 * be2 l 1), .nilIface]) ∧ Below w.heap.size w w' := by
  have hA : ∀ (W : World) (o' : Obj) (g j : Nat), g < W.heap.size → (W.alloc o').cell? ⟨g, j, none⟩ = W.cell? ⟨g, j, none⟩ := fun W o' g j h => World.cell?_alloc_lt W o' ⟨g, j, none⟩ h
  have hA3 : ∀ (o1 o2 o3 : Obj) (j : Nat), (((w.alloc o1).alloc o2).alloc o3).cell? ⟨g, j, none⟩ = w.cell? ⟨g, j, none⟩ := fun o1 o2 o3 j => by rw [World.cell?_alloc_lt _ _ ⟨g, j, none⟩ (by simp; omega), World.cell?_alloc_lt _ _ ⟨g, j, none⟩ (by simp; omega), World.cell?_alloc_lt _ _ ⟨g, j, none⟩ (by simpa using hg)]
  have e0 : ((n : Int) == 0) = false := by simp; omega
  have es : (s == 0) = false := by simp; omega
  obtain ⟨b0, b1⟩ := be2_range hr.1 1
  have hR : ∀ (o1 o2 o3 : Obj) (k : Nat), Rd ((((w.alloc o1).alloc o2).alloc o3).drewN k) (some ⟨g, o + 1, none⟩) (l.drop 1) := fun o1 o2 o3 k => ((((hr.cut 1).alloc o1).alloc o2).alloc o3)
  have hd : be2 (l.drop 1) 0 = be2 l 1 := be2_drop l
  have ec : ¬ c = 1 := by omega
  have hq : (l.drop 1).length = n - 1 := by rw [List.length_drop, hn.out]
  have HQ := Lib.hid hq
  clear hq
  have HD := Lib.hid hd
  clear hd
  generalize be2 l 1 = y at *
  have i1 : (1 : Int) ≤ (n : Int) := by omega
  have i2 : (n : Int) ≤ (c : Int) := by omega
  have i3 : (1 : Int) ≤ (c : Int) := by omega
  have v0 := u64_wrap_id s (by omega) (by omega)
  have v1 := u64_wrap_id y (by omega) (by omega)
  have v2 := u64_wrap_id (2 * y) (by omega) (by omega)
  subst hm0
  go_enter Tryd.func69, Tryd.ntmps69
  go_wp2_with (first | (go_at_call 72; refine (hgb _).mono ?_; rintro e w' ⟨rfl, rfl⟩) | fail)
  go_quiet (fail)
  go_wp2_with fail
  go_region_held3 (fun w' => True) (trivial) ((go_at_call 57; (refine (u16_c _ _ _ _ (l.drop 1) _ (hR _ _ _ _) HQ.out (by omega)).mono ?_); rintro e w1 ⟨rfl, hb1⟩; rw [HD.out]))
  all_goals
    go_wp2_with fail
    go_ret3
    exact ⟨rfl, below_w (by repeat (first | exact Below.refl _ _ | (refine Below.alloc ?_ (by simp <;> omega) _) | (refine below_drewN ?_ _))) hb1⟩

set_option maxHeartbeats 2000000 in
set_option maxRecDepth 100000 in
theorem gs_m5 (g o n c : Nat) (l : List Int) (w : World) (s m t : Int) (hr : Rd w (some ⟨g, o, none⟩) l) (hn : Hid (l.length = n)) (hnc : n ≤ c) (hm : c ≤ 9223372036854775807) (hg : g < w.heap.size) (hG : Hid (Glob w)) (hpos : 1 ≤ n) (x : Int) (c0 : w.cell? ⟨g, o, none⟩ = some (.int .u8 x)) (hgb : ∀ W : World, Calls Tryd.prog 72 #[.int .u8 x] W fun e w' => e = .returned (.agg #[.int .u8 s, .int .i8 m, .int .u8 t, .int .u8 0]) ∧ (W.alloc (.cells #[.int .u8 s, .int .i8 m, .int .u8 t, .int .u8 0] 134)).alloc (.cells #[.int .u8 s, .int .i8 m, .int .u8 t, .int .u8 0] 134) = w') (hs : 5 ≤ s) (hs2 : s ≤ 32) (hm0 : m = -5) (hl : s ≤ (n : Int)) :
    Calls Tryd.prog 69 #[.slice (some ⟨g, o, none⟩) n c] w fun e w' => e = .returned (.tuple #[.int .u64 s, .int .u64 (2 * be4 l 1), .nilIface]) ∧ Below w.heap.size w w' := by
  have hA : ∀ (W : World) (o' : Obj) (g j : Nat), g < W.heap.size → (W.alloc o').cell? ⟨g, j, none⟩ = W.cell? ⟨g, j, none⟩ := fun W o' g j h => World.cell?_alloc_lt W o' ⟨g, j, none⟩ h
  have hA3 : ∀ (o1 o2 o3 : Obj) (j : Nat), (((w.alloc o1).alloc o2).alloc o3).cell? ⟨g, j, none⟩ = w.cell? ⟨g, j, none⟩ := fun o1 o2 o3 j => by rw [World.cell?_alloc_lt _ _ ⟨g, j, none⟩ (by simp; omega), World.cell?_alloc_lt _ _ ⟨g, j, none⟩ (by simp; omega), World.cell?_alloc_lt _ _ ⟨g, j, none⟩ (by simpa using hg)]
  have e0 : ((n : Int) == 0) = false := by simp; omega
  have es : (s == 0) = false := by simp; omega
  obtain ⟨b0, b1⟩ := be4_range hr.1 1
  have hR : ∀ (o1 o2 o3 : Obj) (k : Nat), Rd ((((w.alloc o1).alloc o2).alloc o3).drewN k) (some ⟨g, o + 1, none⟩) (l.drop 1) := fun o1 o2 o3 k => ((((hr.cut 1).alloc o1).alloc o2).alloc o3)
  have hd : be4 (l.drop 1) 0 = be4 l 1 := be4_drop l
  have ec : ¬ c = 1 := by omega
  have hq : (l.drop 1).length = n - 1 := by rw [List.length_drop, hn.out]
  have HQ := Lib.hid hq
  clear hq
  have HD := Lib.hid hd
  clear hd
  generalize be4 l 1 = y at *
  have i1 : (1 : Int) ≤ (n : Int) := by omega
  have i2 : (n : Int) ≤ (c : Int) := by omega
  have i3 : (1 : Int) ≤ (c : Int) := by omega
  have v0 := u64_wrap_id s (by omega) (by omega)
  have v1 := u64_wrap_id y (by omega) (by omega)
  have v2 := u64_wrap_id (2 * y) (by omega) (by omega)
  subst hm0
  go_enter Tryd.func69, Tryd.ntmps69
  go_wp2_with (first | (go_at_call 72; refine (hgb _).mono ?_; rintro e w' ⟨rfl, rfl⟩) | fail)
  go_quiet (fail)
  go_wp2_with fail
  go_region_held3 (fun w' => True) (trivial) ((go_at_call 58; (refine (u32_c _ _ _ _ (l.drop 1) _ (hR _ _ _ _) HQ.out (by omega)).mono ?_); rintro e w1 ⟨rfl, hb1⟩; rw [HD.out]))
  all_goals
    go_wp2_with fail
    go_ret3
    exact ⟨rfl, below_w (by repeat (first | exact Below.refl _ _ | (refine Below.alloc ?_ (by simp <;> omega) _) | (refine below_drewN ?_ _))) hb1⟩

set_option maxHeartbeats 2000000 in
set_option maxRecDepth 100000 in
theorem gs_m6 (g o n c : Nat) (l : List Int) (w : World) (s m t : Int) (hr : Rd w (some ⟨g, o, none⟩) l) (hn : Hid (l.length = n)) (hnc : n ≤ c) (hm : c ≤ 9223372036854775807) (hg : g < w.heap.size) (hG : Hid (Glob w)) (hpos : 1 ≤ n) (x : Int) (c0 : w.cell? ⟨g, o, none⟩ = some (.int .u8 x)) (hgb : ∀ W : World, Calls Tryd.prog 72 #[.int .u8 x] W fun e w' => e = .returned (.agg #[.int .u8 s, .int .i8 m, .int .u8 t, .int .u8 0]) ∧ (W.alloc (.cells #[.int .u8 s, .int .i8 m, .int .u8 t, .int .u8 0] 134)).alloc (.cells #[.int .u8 s, .int .i8 m, .int .u8 t, .int .u8 0] 134) = w') (hs : 3 ≤ s) (hs2 : s ≤ 32) (hm0 : m = -6) (hl : s ≤ (n : Int)) :
    Calls Tryd.prog 69 #[.slice (some ⟨g, o, none⟩) n c] w fun e w' => e = .returned (.tuple #[.int .u64 s, .int .u64 (be2 l 1), .nilIface]) ∧ Below w.heap.size w w' := by
  have hA : ∀ (W : World) (o' : Obj) (g j : Nat), g < W.heap.size → (W.alloc o').cell? ⟨g, j, none⟩ = W.cell? ⟨g, j, none⟩ := fun W o' g j h => World.cell?_alloc_lt W o' ⟨g, j, none⟩ h
  have hA3 : ∀ (o1 o2 o3 : Obj) (j : Nat), (((w.alloc o1).alloc o2).alloc o3).cell? ⟨g, j, none⟩ = w.cell? ⟨g, j, none⟩ := fun o1 o2 o3 j => by rw [World.cell?_alloc_lt _ _ ⟨g, j, none⟩ (by simp; omega), World.cell?_alloc_lt _ _ ⟨g, j, none⟩ (by simp; omega), World.cell?_alloc_lt _ _ ⟨g, j, none⟩ (by simpa using hg)]
  have e0 : ((n : Int) == 0) = false := by simp; omega
  have es : (s == 0) = false := by simp; omega
  obtain ⟨b0, b1⟩ := be2_range hr.1 1
  have hR : ∀ (o1 o2 o3 : Obj) (k : Nat), Rd ((((w.alloc o1).alloc o2).alloc o3).drewN k) (some ⟨g, o + 1, none⟩) (l.drop 1) := fun o1 o2 o3 k => ((((hr.cut 1).alloc o1).alloc o2).alloc o3)
  have hd : be2 (l.drop 1) 0 = be2 l 1 := be2_drop l
  have ec : ¬ c = 1 := by omega
  have hq : (l.drop 1).length = n - 1 := by rw [List.length_drop, hn.out]
  have HQ := Lib.hid hq
  clear hq
  have HD := Lib.hid hd
  clear hd
  generalize be2 l 1 = y at *
  have i1 : (1 : Int) ≤ (n : Int) := by omega
  have i2 : (n : Int) ≤ (c : Int) := by omega
  have i3 : (1 : Int) ≤ (c : Int) := by omega
  have v0 := u64_wrap_id s (by omega) (by omega)
  have v1 := u64_wrap_id y (by omega) (by omega)
  have v2 := u64_wrap_id (2 * y) (by omega) (by omega)
  subst hm0
  go_enter Tryd.func69, Tryd.ntmps69
  go_wp2_with (first | (go_at_call 72; refine (hgb _).mono ?_; rintro e w' ⟨rfl, rfl⟩) | fail)
  go_quiet (fail)
  go_wp2_with fail
  go_region_held3 (fun w' => True) (trivial) ((go_at_call 57; (refine (u16_c _ _ _ _ (l.drop 1) _ (hR _ _ _ _) HQ.out (by omega)).mono ?_); rintro e w1 ⟨rfl, hb1⟩; rw [HD.out]))
  all_goals
    go_wp2_with fail
    go_ret3
    exact ⟨rfl, below_w (by repeat (first | exact Below.refl _ _ | (refine Below.alloc ?_ (by simp <;> omega) _) | (refine below_drewN ?_ _))) hb1⟩

set_option maxHeartbeats 2000000 in
set_option maxRecDepth 100000 in
theorem gs_m7 (g o n c : Nat) (l : List Int) (w : World) (s m t : Int) (hr : Rd w (some ⟨g, o, none⟩) l) (hn : Hid (l.length = n)) (hnc : n ≤ c) (hm : c ≤ 9223372036854775807) (hg : g < w.heap.size) (hG : Hid (Glob w)) (hpos : 1 ≤ n) (x : Int) (c0 : w.cell? ⟨g, o, none⟩ = some (.int .u8 x)) (hgb : ∀ W : World, Calls Tryd.prog 72 #[.int .u8 x] W fun e w' => e = .returned (.agg #[.int .u8 s, .int .i8 m, .int .u8 t, .int .u8 0]) ∧ (W.alloc (.cells #[.int .u8 s, .int .i8 m, .int .u8 t, .int .u8 0] 134)).alloc (.cells #[.int .u8 s, .int .i8 m, .int .u8 t, .int .u8 0] 134) = w') (hs : 5 ≤ s) (hs2 : s ≤ 32) (hm0 : m = -7) (hl : s ≤ (n : Int)) :
    Calls Tryd.prog 69 #[.slice (some ⟨g, o, none⟩) n c] w fun e w' => e = .returned (.tuple #[.int .u64 s, .int .u64 (be4 l 1), .nilIface]) ∧ Below w.heap.size w w' := by
  have hA : ∀ (W : World) (o' : Obj) (g j : Nat), g < W.heap.size → (W.alloc o').cell? ⟨g, j, none⟩ = W.cell? ⟨g, j, none⟩ := fun W o' g j h => World.cell?_alloc_lt W o' ⟨g, j, none⟩ h
  have hA3 : ∀ (o1 o2 o3 : Obj) (j : Nat), (((w.alloc o1).alloc o2).alloc o3).cell? ⟨g, j, none⟩ = w.cell? ⟨g, j, none⟩ := fun o1 o2 o3 j => by rw [World.cell?_alloc_lt _ _ ⟨g, j, none⟩ (by simp; omega), World.cell?_alloc_lt _ _ ⟨g, j, none⟩ (by simp; omega), World.cell?_alloc_lt _ _ ⟨g, j, none⟩ (by simpa using hg)]
  have e0 : ((n : Int) == 0) = false := by simp; omega
  have es : (s == 0) = false := by simp; omega
  obtain ⟨b0, b1⟩ := be4_range hr.1 1
  have hR : ∀ (o1 o2 o3 : Obj) (k : Nat), Rd ((((w.alloc o1).alloc o2).alloc o3).drewN k) (some ⟨g, o + 1, none⟩) (l.drop 1) := fun o1 o2 o3 k => ((((hr.cut 1).alloc o1).alloc o2).alloc o3)
  have hd : be4 (l.drop 1) 0 = be4 l 1 := be4_drop l
  have ec : ¬ c = 1 := by omega
  have hq : (l.drop 1).length = n - 1 := by rw [List.length_drop, hn.out]
  have HQ := Lib.hid hq
  clear hq
  have HD := Lib.hid hd
  clear hd
  generalize be4 l 1 = y at *
  have i1 : (1 : Int) ≤ (n : Int) := by omega
  have i2 : (n : Int) ≤ (c : Int) := by omega
  have i3 : (1 : Int) ≤ (c : Int) := by omega
  have v0 := u64_wrap_id s (by omega) (by omega)
  have v1 := u64_wrap_id y (by omega) (by omega)
  have v2 := u64_wrap_id (2 * y) (by omega) (by omega)
  subst hm0
  go_enter Tryd.func69, Tryd.ntmps69
  go_wp2_with (first | (go_at_call 72; refine (hgb _).mono ?_; rintro e w' ⟨rfl, rfl⟩) | fail)
  go_quiet (fail)
  go_wp2_with fail
  go_region_held3 (fun w' => True) (trivial) ((go_at_call 58; (refine (u32_c _ _ _ _ (l.drop 1) _ (hR _ _ _ _) HQ.out (by omega)).mono ?_); rintro e w1 ⟨rfl, hb1⟩; rw [HD.out]))
  all_goals
    go_wp2_with fail
    go_ret3
    exact ⟨rfl, below_w (by repeat (first | exact Below.refl _ _ | (refine Below.alloc ?_ (by simp <;> omega) _) | (refine below_drewN ?_ _))) hb1⟩

theorem getSize_c (A : Option Addr) (n c : Nat) (l : List Int) (w : World) (hr : Rd w A l) (hn : l.length = n) (hnc : n ≤ c) (hm : c ≤ maxLen) (hG : Glob w) :
    Calls Tryd.prog 69 #[.slice A n c] w fun e w' => e = .returned (.tuple #[.int .u64 (gsz l).1, .int .u64 (gsz l).2.1, (gsz l).2.2.val]) ∧ Below w.heap.size w w' := by
  have hm' : c ≤ 9223372036854775807 := by simp only [maxLen] at hm; omega
  have HN : Hid (l.length = n) := hn
  have HG : Hid (Glob w) := hG
  unfold gsz
  rcases Nat.eq_zero_or_pos n with rfl | hpos
  · rw [if_pos hn]
    obtain ⟨gs, gr⟩ := hG
    clear hn hnc hr HN
    go_enter Tryd.func69, Tryd.ntmps69
    go_wp2_with fail
    all_goals try (go_quiet (fail); go_wp2_with fail)
    all_goals
      go_ret3
      exact ⟨rfl, by first | exact Below.refl _ _ | exact below_drewN (Below.refl _ _) _⟩
  obtain ⟨g, o, rfl, hg, -, hc⟩ := hr.open_ (by omega)
  have c0 := hc 0 (by omega)
  rw [Nat.add_zero] at c0
  obtain ⟨hb0, hb1⟩ := hr.1.at_ 0
  obtain ⟨f1, f2, f3, f4, f5, f6, f7, f8, f9, f10, f11⟩ := fit _ hb0 hb1
  have hgb := fun W : World => getBytespec_c (at_ l 0) W hb0 hb1
  simp only [bval, bobj] at hgb
  rw [if_neg (by omega), hn]
  generalize bsz (at_ l 0) = s at *
  generalize bex (at_ l 0) = m at *
  generalize bty (at_ l 0) = t at *
  by_cases h1 : s = 0
  · rw [if_pos h1]; exact gs_zero g o n c l w s m t hr HN hnc hm' hg HG hpos _ c0 hgb h1
  rw [if_neg h1]
  by_cases h2 : 0 ≤ m
  · rw [if_pos h2]; exact gs_fixed g o n c l w s m t hr HN hnc hm' hg HG hpos _ c0 hgb (by omega) f2 h2 f4
  rw [if_neg h2]
  by_cases h3 : (n : Int) < s
  · rw [if_pos h3]; exact gs_short g o n c l w s m t hr HN hnc hm' hg HG hpos _ c0 hgb (by omega) f2 (by omega) f3 h3
  rw [if_neg h3]
  by_cases e1 : m = -1
  · rw [if_pos e1]; exact gs_m1 g o n c l w s m t hr HN hnc hm' hg HG hpos _ c0 hgb (f5 e1) f2 e1 (by omega)
  rw [if_neg e1]
  by_cases e2 : m = -2
  · rw [if_pos e2]; exact gs_m2 g o n c l w s m t hr HN hnc hm' hg HG hpos _ c0 hgb (f6 e2) f2 e2 (by omega)
  rw [if_neg e2]
  by_cases e3 : m = -3
  · rw [if_pos e3]; exact gs_m3 g o n c l w s m t hr HN hnc hm' hg HG hpos _ c0 hgb (f7 e3) f2 e3 (by omega)
  rw [if_neg e3]
  by_cases e4 : m = -4
  · rw [if_pos e4]; exact gs_m4 g o n c l w s m t hr HN hnc hm' hg HG hpos _ c0 hgb (f8 e4) f2 e4 (by omega)
  rw [if_neg e4]
  by_cases e5 : m = -5
  · rw [if_pos e5]; exact gs_m5 g o n c l w s m t hr HN hnc hm' hg HG hpos _ c0 hgb (f9 e5) f2 e5 (by omega)
  rw [if_neg e5]
  by_cases e6 : m = -6
  · rw [if_pos e6]; exact gs_m6 g o n c l w s m t hr HN hnc hm' hg HG hpos _ c0 hgb (f10 e6) f2 e6 (by omega)
  rw [if_neg e6]
  exact gs_m7 g o n c l w s m t hr HN hnc hm' hg HG hpos _ c0 hgb (f11 (by omega)) f2 (by omega) (by omega)

end Go.Proofs.YtmhilpnagpkkiaaDoor
