/- msgp's ReadInt64Bytes, walked, one theorem a first byte. Conditions: the slice reads as bytes; the two sentinels' variables hold what the program lays in them. -/
import Derived.Test.YtmhilpnagpkkiaaDoorRead
import Derived.Test.YtmhilpnagpkkiaaDoorInts
namespace Go.Proofs.YtmhilpnagpkkiaaDoor
open Go Go.RowKit Go.Lib
set_option linter.unusedVariables false

set_option maxHeartbeats 1000000 in
set_option maxRecDepth 100000 in
theorem ri_fixint (g o n c : Nat) (l : List Int) (w : World) (hr : Rd w (some ⟨g, o, none⟩) l) (hn : Hid (l.length = n)) (hnc : n ≤ c) (hm : c ≤ 9223372036854775807) (hg : g < w.heap.size) (hG : Glob w) (hs : 1 ≤ n) (x : Int) (x0 : 0 ≤ x) (x1 : x < 128) (c0 : w.cell? ⟨g, o, none⟩ = some (.int .u8 x)) :
    Calls Tryd.prog 42 #[.slice (some ⟨g, o, none⟩) n c] w (Ret3 w (.int .i64 x) (n - 1) .ok) := by
  have hA : ∀ (W : World) (o' : Obj) (j : Nat), g < W.heap.size → (W.alloc o').cell? ⟨g, j, none⟩ = W.cell? ⟨g, j, none⟩ := fun W o' j h => World.cell?_alloc_lt W o' ⟨g, j, none⟩ h
  obtain ⟨gs, gr⟩ := hG
  have e1 : (x / 128 == 0) = true := by simp; omega
  go_enter Tryd.func42, Tryd.ntmps42
  go_wp2_with (first | fail | go_in)
  all_goals
    go_ret3
    exact ⟨_, _, rfl, by first | exact Below.refl _ _ | assumption⟩
set_option maxHeartbeats 1000000 in
set_option maxRecDepth 100000 in
theorem ri_nfixint (g o n c : Nat) (l : List Int) (w : World) (hr : Rd w (some ⟨g, o, none⟩) l) (hn : Hid (l.length = n)) (hnc : n ≤ c) (hm : c ≤ 9223372036854775807) (hg : g < w.heap.size) (hG : Glob w) (hs : 1 ≤ n) (x : Int) (x0 : 224 ≤ x) (x1 : x < 256) (c0 : w.cell? ⟨g, o, none⟩ = some (.int .u8 x)) :
    Calls Tryd.prog 42 #[.slice (some ⟨g, o, none⟩) n c] w (Ret3 w (.int .i64 (s8 x)) (n - 1) .ok) := by
  have hA : ∀ (W : World) (o' : Obj) (j : Nat), g < W.heap.size → (W.alloc o').cell? ⟨g, j, none⟩ = W.cell? ⟨g, j, none⟩ := fun W o' j h => World.cell?_alloc_lt W o' ⟨g, j, none⟩ h
  obtain ⟨gs, gr⟩ := hG
  have e1 : (x / 128 == 0) = false := by simp; omega
  have e2 : (bits .and .u8 x 224 == 224) = true := by rw [and224 x (by omega) (by omega)]; simp; omega
  have e3 : IntKind.i8.wrap x = s8 x := rfl
  obtain ⟨t0, t1⟩ := s8_range x
  generalize s8 x = t at e3 t0 t1 ⊢
  go_enter Tryd.func42, Tryd.ntmps42
  go_wp2_with (first | fail | go_in)
  all_goals
    go_ret3
    exact ⟨_, _, rfl, by first | exact Below.refl _ _ | assumption⟩
set_option maxHeartbeats 1000000 in
set_option maxRecDepth 100000 in
theorem ri_low (g o n c : Nat) (l : List Int) (w : World) (hr : Rd w (some ⟨g, o, none⟩) l) (hn : Hid (l.length = n)) (hnc : n ≤ c) (hm : c ≤ 9223372036854775807) (hg : g < w.heap.size) (hG : Glob w) (hs : 1 ≤ n) (x : Int) (x0 : 128 ≤ x) (x1 : x < 204) (c0 : w.cell? ⟨g, o, none⟩ = some (.int .u8 x)) :
    Calls Tryd.prog 42 #[.slice (some ⟨g, o, none⟩) n c] w (Ret3 w (.int .i64 0) 0 (bp 8 x)) := by
  have hA : ∀ (W : World) (o' : Obj) (j : Nat), g < W.heap.size → (W.alloc o').cell? ⟨g, j, none⟩ = W.cell? ⟨g, j, none⟩ := fun W o' j h => World.cell?_alloc_lt W o' ⟨g, j, none⟩ h
  obtain ⟨gs, gr⟩ := hG
  have e1 : (x / 128 == 0) = false := by simp; omega
  have e2 : (bits .and .u8 x 224 == 224) = false := by rw [and224 x (by omega) (by omega)]; simp; omega
  go_enter Tryd.func42, Tryd.ntmps42
  go_wp2_with (first | (go_at_call 47; refine (badPrefix_c _ _ _ (by omega) (by omega)).mono ?_; rintro e w1 ⟨rfl, hb1⟩) | go_in)
  all_goals
    go_ret3
    exact ⟨_, _, rfl, by first | exact Below.refl _ _ | assumption⟩
set_option maxHeartbeats 1000000 in
set_option maxRecDepth 100000 in
theorem ri_high (g o n c : Nat) (l : List Int) (w : World) (hr : Rd w (some ⟨g, o, none⟩) l) (hn : Hid (l.length = n)) (hnc : n ≤ c) (hm : c ≤ 9223372036854775807) (hg : g < w.heap.size) (hG : Glob w) (hs : 1 ≤ n) (x : Int) (x0 : 212 ≤ x) (x1 : x < 224) (c0 : w.cell? ⟨g, o, none⟩ = some (.int .u8 x)) :
    Calls Tryd.prog 42 #[.slice (some ⟨g, o, none⟩) n c] w (Ret3 w (.int .i64 0) 0 (bp 8 x)) := by
  have hA : ∀ (W : World) (o' : Obj) (j : Nat), g < W.heap.size → (W.alloc o').cell? ⟨g, j, none⟩ = W.cell? ⟨g, j, none⟩ := fun W o' j h => World.cell?_alloc_lt W o' ⟨g, j, none⟩ h
  obtain ⟨gs, gr⟩ := hG
  have e1 : (x / 128 == 0) = false := by simp; omega
  have e2 : (bits .and .u8 x 224 == 224) = false := by rw [and224 x (by omega) (by omega)]; simp; omega
  go_enter Tryd.func42, Tryd.ntmps42
  go_wp2_with (first | (go_at_call 47; refine (badPrefix_c _ _ _ (by omega) (by omega)).mono ?_; rintro e w1 ⟨rfl, hb1⟩) | go_in)
  all_goals
    go_ret3
    exact ⟨_, _, rfl, by first | exact Below.refl _ _ | assumption⟩
set_option maxHeartbeats 1000000 in
set_option maxRecDepth 100000 in
theorem ri_204_short (g o n c : Nat) (l : List Int) (w : World) (hr : Rd w (some ⟨g, o, none⟩) l) (hn : Hid (l.length = n)) (hnc : n ≤ c) (hm : c ≤ 9223372036854775807) (hg : g < w.heap.size) (hG : Glob w) (hs : 1 ≤ n) (hs2 : n < 2) (c0 : w.cell? ⟨g, o, none⟩ = some (.int .u8 204)) :
    Calls Tryd.prog 42 #[.slice (some ⟨g, o, none⟩) n c] w (Ret3 w (.int .i64 0) 0 .short) := by
  have hA : ∀ (W : World) (o' : Obj) (j : Nat), g < W.heap.size → (W.alloc o').cell? ⟨g, j, none⟩ = W.cell? ⟨g, j, none⟩ := fun W o' j h => World.cell?_alloc_lt W o' ⟨g, j, none⟩ h
  obtain ⟨gs, gr⟩ := hG
  go_enter Tryd.func42, Tryd.ntmps42
  go_wp2_with (first | fail | go_in)
  all_goals
    go_ret3
    exact ⟨_, _, rfl, by first | exact Below.refl _ _ | assumption⟩
set_option maxHeartbeats 1000000 in
set_option maxRecDepth 100000 in
theorem ri_204_whole (g o n c : Nat) (l : List Int) (w : World) (hr : Rd w (some ⟨g, o, none⟩) l) (hn : Hid (l.length = n)) (hnc : n ≤ c) (hm : c ≤ 9223372036854775807) (hg : g < w.heap.size) (hG : Glob w) (hs : 2 ≤ n) (c0 : w.cell? ⟨g, o, none⟩ = some (.int .u8 204)) :
    Calls Tryd.prog 42 #[.slice (some ⟨g, o, none⟩) n c] w (Ret3 w (.int .i64 (at_ l 1)) (n - 2) .ok) := by
  have hA : ∀ (W : World) (o' : Obj) (j : Nat), g < W.heap.size → (W.alloc o').cell? ⟨g, j, none⟩ = W.cell? ⟨g, j, none⟩ := fun W o' j h => World.cell?_alloc_lt W o' ⟨g, j, none⟩ h
  obtain ⟨gs, gr⟩ := hG
  have ec : ¬ c = 1 := by omega
  obtain ⟨b0, b1⟩ := hr.1.at_ 1
  have c1 : w.cell? ⟨g, o + 1, none⟩ = some (.int .u8 (at_ l 1)) := by
    obtain ⟨g', o', hA', -, hc⟩ := hr.2 (by have := hn.out; omega)
    injection hA' with hA'
    injection hA' with h1 h2
    subst h1; subst h2
    exact hc 1 (by have := hn.out; omega)
  go_enter Tryd.func42, Tryd.ntmps42
  go_wp2_with (first | fail | go_in)
  all_goals
    go_ret3
    exact ⟨_, _, rfl, by first | exact Below.refl _ _ | assumption⟩
set_option maxHeartbeats 1000000 in
set_option maxRecDepth 100000 in
theorem ri_208_short (g o n c : Nat) (l : List Int) (w : World) (hr : Rd w (some ⟨g, o, none⟩) l) (hn : Hid (l.length = n)) (hnc : n ≤ c) (hm : c ≤ 9223372036854775807) (hg : g < w.heap.size) (hG : Glob w) (hs : 1 ≤ n) (hs2 : n < 2) (c0 : w.cell? ⟨g, o, none⟩ = some (.int .u8 208)) :
    Calls Tryd.prog 42 #[.slice (some ⟨g, o, none⟩) n c] w (Ret3 w (.int .i64 0) 0 .short) := by
  have hA : ∀ (W : World) (o' : Obj) (j : Nat), g < W.heap.size → (W.alloc o').cell? ⟨g, j, none⟩ = W.cell? ⟨g, j, none⟩ := fun W o' j h => World.cell?_alloc_lt W o' ⟨g, j, none⟩ h
  obtain ⟨gs, gr⟩ := hG
  go_enter Tryd.func42, Tryd.ntmps42
  go_wp2_with (first | fail | go_in)
  all_goals
    go_ret3
    exact ⟨_, _, rfl, by first | exact Below.refl _ _ | assumption⟩
set_option maxHeartbeats 1000000 in
set_option maxRecDepth 100000 in
theorem ri_208_whole (g o n c : Nat) (l : List Int) (w : World) (hr : Rd w (some ⟨g, o, none⟩) l) (hn : Hid (l.length = n)) (hnc : n ≤ c) (hm : c ≤ 9223372036854775807) (hg : g < w.heap.size) (hG : Glob w) (hs : 2 ≤ n) (c0 : w.cell? ⟨g, o, none⟩ = some (.int .u8 208)) :
    Calls Tryd.prog 42 #[.slice (some ⟨g, o, none⟩) n c] w (Ret3 w (.int .i64 (s8 (at_ l 1))) (n - 2) .ok) := by
  have hA : ∀ (W : World) (o' : Obj) (j : Nat), g < W.heap.size → (W.alloc o').cell? ⟨g, j, none⟩ = W.cell? ⟨g, j, none⟩ := fun W o' j h => World.cell?_alloc_lt W o' ⟨g, j, none⟩ h
  obtain ⟨gs, gr⟩ := hG
  have ec : ¬ c = 1 := by omega
  obtain ⟨b0, b1⟩ := hr.1.at_ 1
  have c1 : w.cell? ⟨g, o + 1, none⟩ = some (.int .u8 (at_ l 1)) := by
    obtain ⟨g', o', hA', -, hc⟩ := hr.2 (by have := hn.out; omega)
    injection hA' with hA'
    injection hA' with h1 h2
    subst h1; subst h2
    exact hc 1 (by have := hn.out; omega)
  have e3 : IntKind.i8.wrap (at_ l 1) = s8 (at_ l 1) := rfl
  obtain ⟨t0, t1⟩ := s8_range (at_ l 1)
  generalize s8 (at_ l 1) = t at e3 t0 t1 ⊢
  go_enter Tryd.func42, Tryd.ntmps42
  go_wp2_with (first | fail | go_in)
  all_goals
    go_ret3
    exact ⟨_, _, rfl, by first | exact Below.refl _ _ | assumption⟩
set_option maxHeartbeats 1000000 in
set_option maxRecDepth 100000 in
theorem ri_205_short (g o n c : Nat) (l : List Int) (w : World) (hr : Rd w (some ⟨g, o, none⟩) l) (hn : Hid (l.length = n)) (hnc : n ≤ c) (hm : c ≤ 9223372036854775807) (hg : g < w.heap.size) (hG : Glob w) (hs : 1 ≤ n) (hs2 : n < 3) (c0 : w.cell? ⟨g, o, none⟩ = some (.int .u8 205)) :
    Calls Tryd.prog 42 #[.slice (some ⟨g, o, none⟩) n c] w (Ret3 w (.int .i64 0) 0 .short) := by
  have hA : ∀ (W : World) (o' : Obj) (j : Nat), g < W.heap.size → (W.alloc o').cell? ⟨g, j, none⟩ = W.cell? ⟨g, j, none⟩ := fun W o' j h => World.cell?_alloc_lt W o' ⟨g, j, none⟩ h
  obtain ⟨gs, gr⟩ := hG
  go_enter Tryd.func42, Tryd.ntmps42
  go_wp2_with (first | fail | go_in)
  all_goals
    go_ret3
    exact ⟨_, _, rfl, by first | exact Below.refl _ _ | assumption⟩
set_option maxHeartbeats 1000000 in
set_option maxRecDepth 100000 in
theorem ri_205_whole (g o n c : Nat) (l : List Int) (w : World) (hr : Rd w (some ⟨g, o, none⟩) l) (hn : Hid (l.length = n)) (hnc : n ≤ c) (hm : c ≤ 9223372036854775807) (hg : g < w.heap.size) (hG : Glob w) (hs : 3 ≤ n) (c0 : w.cell? ⟨g, o, none⟩ = some (.int .u8 205)) :
    Calls Tryd.prog 42 #[.slice (some ⟨g, o, none⟩) n c] w (Ret3 w (.int .i64 (be2 l 1)) (n - 3) .ok) := by
  have hA : ∀ (W : World) (o' : Obj) (j : Nat), g < W.heap.size → (W.alloc o').cell? ⟨g, j, none⟩ = W.cell? ⟨g, j, none⟩ := fun W o' j h => World.cell?_alloc_lt W o' ⟨g, j, none⟩ h
  obtain ⟨gs, gr⟩ := hG
  have ec : ¬ c = 1 := by omega
  obtain ⟨b0, b1⟩ := be2_range hr.1 1
  go_enter Tryd.func42, Tryd.ntmps42
  go_wp2_with (first | (go_at_call 57; refine (u16_c _ _ _ _ (l.drop 1) _ (hr.cut 1) (by simp only [List.length_drop]; rw [hn.out]) (by omega)).mono ?_; rintro e w1 ⟨rfl, hb1⟩; rw [be2_drop]) | go_in)
  all_goals
    go_ret3
    exact ⟨_, _, rfl, by first | exact Below.refl _ _ | assumption⟩
set_option maxHeartbeats 1000000 in
set_option maxRecDepth 100000 in
theorem ri_209_short (g o n c : Nat) (l : List Int) (w : World) (hr : Rd w (some ⟨g, o, none⟩) l) (hn : Hid (l.length = n)) (hnc : n ≤ c) (hm : c ≤ 9223372036854775807) (hg : g < w.heap.size) (hG : Glob w) (hs : 1 ≤ n) (hs2 : n < 3) (c0 : w.cell? ⟨g, o, none⟩ = some (.int .u8 209)) :
    Calls Tryd.prog 42 #[.slice (some ⟨g, o, none⟩) n c] w (Ret3 w (.int .i64 0) 0 .short) := by
  have hA : ∀ (W : World) (o' : Obj) (j : Nat), g < W.heap.size → (W.alloc o').cell? ⟨g, j, none⟩ = W.cell? ⟨g, j, none⟩ := fun W o' j h => World.cell?_alloc_lt W o' ⟨g, j, none⟩ h
  obtain ⟨gs, gr⟩ := hG
  go_enter Tryd.func42, Tryd.ntmps42
  go_wp2_with (first | fail | go_in)
  all_goals
    go_ret3
    exact ⟨_, _, rfl, by first | exact Below.refl _ _ | assumption⟩
set_option maxHeartbeats 1000000 in
set_option maxRecDepth 100000 in
theorem ri_209_whole (g o n c : Nat) (l : List Int) (w : World) (hr : Rd w (some ⟨g, o, none⟩) l) (hn : Hid (l.length = n)) (hnc : n ≤ c) (hm : c ≤ 9223372036854775807) (hg : g < w.heap.size) (hG : Glob w) (hs : 3 ≤ n) (c0 : w.cell? ⟨g, o, none⟩ = some (.int .u8 209)) :
    Calls Tryd.prog 42 #[.slice (some ⟨g, o, none⟩) n c] w (Ret3 w (.int .i64 (s16 (be2 l 1))) (n - 3) .ok) := by
  have hA : ∀ (W : World) (o' : Obj) (j : Nat), g < W.heap.size → (W.alloc o').cell? ⟨g, j, none⟩ = W.cell? ⟨g, j, none⟩ := fun W o' j h => World.cell?_alloc_lt W o' ⟨g, j, none⟩ h
  obtain ⟨gs, gr⟩ := hG
  have ec : ¬ c = 1 := by omega
  obtain ⟨b0, b1⟩ := be2_range hr.1 1
  have e3 : IntKind.i16.wrap (be2 l 1) = s16 (be2 l 1) := rfl
  obtain ⟨t0, t1⟩ := s16_range (be2 l 1)
  generalize s16 (be2 l 1) = t at e3 t0 t1 ⊢
  go_enter Tryd.func42, Tryd.ntmps42
  go_wp2_with (first | (go_at_call 57; refine (u16_c _ _ _ _ (l.drop 1) _ (hr.cut 1) (by simp only [List.length_drop]; rw [hn.out]) (by omega)).mono ?_; rintro e w1 ⟨rfl, hb1⟩; rw [be2_drop]) | go_in)
  all_goals
    go_ret3
    exact ⟨_, _, rfl, by first | exact Below.refl _ _ | assumption⟩
set_option maxHeartbeats 1000000 in
set_option maxRecDepth 100000 in
theorem ri_206_short (g o n c : Nat) (l : List Int) (w : World) (hr : Rd w (some ⟨g, o, none⟩) l) (hn : Hid (l.length = n)) (hnc : n ≤ c) (hm : c ≤ 9223372036854775807) (hg : g < w.heap.size) (hG : Glob w) (hs : 1 ≤ n) (hs2 : n < 5) (c0 : w.cell? ⟨g, o, none⟩ = some (.int .u8 206)) :
    Calls Tryd.prog 42 #[.slice (some ⟨g, o, none⟩) n c] w (Ret3 w (.int .i64 0) 0 .short) := by
  have hA : ∀ (W : World) (o' : Obj) (j : Nat), g < W.heap.size → (W.alloc o').cell? ⟨g, j, none⟩ = W.cell? ⟨g, j, none⟩ := fun W o' j h => World.cell?_alloc_lt W o' ⟨g, j, none⟩ h
  obtain ⟨gs, gr⟩ := hG
  go_enter Tryd.func42, Tryd.ntmps42
  go_wp2_with (first | fail | go_in)
  all_goals
    go_ret3
    exact ⟨_, _, rfl, by first | exact Below.refl _ _ | assumption⟩
set_option maxHeartbeats 1000000 in
set_option maxRecDepth 100000 in
theorem ri_206_whole (g o n c : Nat) (l : List Int) (w : World) (hr : Rd w (some ⟨g, o, none⟩) l) (hn : Hid (l.length = n)) (hnc : n ≤ c) (hm : c ≤ 9223372036854775807) (hg : g < w.heap.size) (hG : Glob w) (hs : 5 ≤ n) (c0 : w.cell? ⟨g, o, none⟩ = some (.int .u8 206)) :
    Calls Tryd.prog 42 #[.slice (some ⟨g, o, none⟩) n c] w (Ret3 w (.int .i64 (be4 l 1)) (n - 5) .ok) := by
  have hA : ∀ (W : World) (o' : Obj) (j : Nat), g < W.heap.size → (W.alloc o').cell? ⟨g, j, none⟩ = W.cell? ⟨g, j, none⟩ := fun W o' j h => World.cell?_alloc_lt W o' ⟨g, j, none⟩ h
  obtain ⟨gs, gr⟩ := hG
  have ec : ¬ c = 1 := by omega
  obtain ⟨b0, b1⟩ := be4_range hr.1 1
  go_enter Tryd.func42, Tryd.ntmps42
  go_wp2_with (first | (go_at_call 58; refine (u32_c _ _ _ _ (l.drop 1) _ (hr.cut 1) (by simp only [List.length_drop]; rw [hn.out]) (by omega)).mono ?_; rintro e w1 ⟨rfl, hb1⟩; rw [be4_drop]) | go_in)
  all_goals
    go_ret3
    exact ⟨_, _, rfl, by first | exact Below.refl _ _ | assumption⟩
set_option maxHeartbeats 1000000 in
set_option maxRecDepth 100000 in
theorem ri_210_short (g o n c : Nat) (l : List Int) (w : World) (hr : Rd w (some ⟨g, o, none⟩) l) (hn : Hid (l.length = n)) (hnc : n ≤ c) (hm : c ≤ 9223372036854775807) (hg : g < w.heap.size) (hG : Glob w) (hs : 1 ≤ n) (hs2 : n < 5) (c0 : w.cell? ⟨g, o, none⟩ = some (.int .u8 210)) :
    Calls Tryd.prog 42 #[.slice (some ⟨g, o, none⟩) n c] w (Ret3 w (.int .i64 0) 0 .short) := by
  have hA : ∀ (W : World) (o' : Obj) (j : Nat), g < W.heap.size → (W.alloc o').cell? ⟨g, j, none⟩ = W.cell? ⟨g, j, none⟩ := fun W o' j h => World.cell?_alloc_lt W o' ⟨g, j, none⟩ h
  obtain ⟨gs, gr⟩ := hG
  go_enter Tryd.func42, Tryd.ntmps42
  go_wp2_with (first | fail | go_in)
  all_goals
    go_ret3
    exact ⟨_, _, rfl, by first | exact Below.refl _ _ | assumption⟩
set_option maxHeartbeats 1000000 in
set_option maxRecDepth 100000 in
theorem ri_210_whole (g o n c : Nat) (l : List Int) (w : World) (hr : Rd w (some ⟨g, o, none⟩) l) (hn : Hid (l.length = n)) (hnc : n ≤ c) (hm : c ≤ 9223372036854775807) (hg : g < w.heap.size) (hG : Glob w) (hs : 5 ≤ n) (c0 : w.cell? ⟨g, o, none⟩ = some (.int .u8 210)) :
    Calls Tryd.prog 42 #[.slice (some ⟨g, o, none⟩) n c] w (Ret3 w (.int .i64 (s32 (be4 l 1))) (n - 5) .ok) := by
  have hA : ∀ (W : World) (o' : Obj) (j : Nat), g < W.heap.size → (W.alloc o').cell? ⟨g, j, none⟩ = W.cell? ⟨g, j, none⟩ := fun W o' j h => World.cell?_alloc_lt W o' ⟨g, j, none⟩ h
  obtain ⟨gs, gr⟩ := hG
  have ec : ¬ c = 1 := by omega
  obtain ⟨b0, b1⟩ := be4_range hr.1 1
  have e3 : IntKind.i32.wrap (be4 l 1) = s32 (be4 l 1) := rfl
  obtain ⟨t0, t1⟩ := s32_range (be4 l 1)
  generalize s32 (be4 l 1) = t at e3 t0 t1 ⊢
  go_enter Tryd.func42, Tryd.ntmps42
  go_wp2_with (first | (go_at_call 58; refine (u32_c _ _ _ _ (l.drop 1) _ (hr.cut 1) (by simp only [List.length_drop]; rw [hn.out]) (by omega)).mono ?_; rintro e w1 ⟨rfl, hb1⟩; rw [be4_drop]) | go_in)
  all_goals
    go_ret3
    exact ⟨_, _, rfl, by first | exact Below.refl _ _ | assumption⟩
set_option maxHeartbeats 1000000 in
set_option maxRecDepth 100000 in
theorem ri_207_short (g o n c : Nat) (l : List Int) (w : World) (hr : Rd w (some ⟨g, o, none⟩) l) (hn : Hid (l.length = n)) (hnc : n ≤ c) (hm : c ≤ 9223372036854775807) (hg : g < w.heap.size) (hG : Glob w) (hs : 1 ≤ n) (hs2 : n < 9) (c0 : w.cell? ⟨g, o, none⟩ = some (.int .u8 207)) :
    Calls Tryd.prog 42 #[.slice (some ⟨g, o, none⟩) n c] w (Ret3 w (.int .i64 0) 0 .short) := by
  have hA : ∀ (W : World) (o' : Obj) (j : Nat), g < W.heap.size → (W.alloc o').cell? ⟨g, j, none⟩ = W.cell? ⟨g, j, none⟩ := fun W o' j h => World.cell?_alloc_lt W o' ⟨g, j, none⟩ h
  obtain ⟨gs, gr⟩ := hG
  go_enter Tryd.func42, Tryd.ntmps42
  go_wp2_with (first | fail | go_in)
  all_goals
    go_ret3
    exact ⟨_, _, rfl, by first | exact Below.refl _ _ | assumption⟩
set_option maxHeartbeats 1000000 in
set_option maxRecDepth 100000 in
theorem ri_207_whole (g o n c : Nat) (l : List Int) (w : World) (hr : Rd w (some ⟨g, o, none⟩) l) (hn : Hid (l.length = n)) (hnc : n ≤ c) (hm : c ≤ 9223372036854775807) (hg : g < w.heap.size) (hG : Glob w) (hs : 9 ≤ n) (c0 : w.cell? ⟨g, o, none⟩ = some (.int .u8 207)) (hv : be8 l 1 ≤ 9223372036854775807) :
    Calls Tryd.prog 42 #[.slice (some ⟨g, o, none⟩) n c] w (Ret3 w (.int .i64 (be8 l 1)) (n - 9) .ok) := by
  have hA : ∀ (W : World) (o' : Obj) (j : Nat), g < W.heap.size → (W.alloc o').cell? ⟨g, j, none⟩ = W.cell? ⟨g, j, none⟩ := fun W o' j h => World.cell?_alloc_lt W o' ⟨g, j, none⟩ h
  obtain ⟨gs, gr⟩ := hG
  have ec : ¬ c = 1 := by omega
  obtain ⟨b0, b1⟩ := be8_range hr.1 1
  go_enter Tryd.func42, Tryd.ntmps42
  go_wp2_with (first | (go_at_call 65; refine (u64_c _ _ _ _ (l.drop 1) _ (hr.cut 1) (by simp only [List.length_drop]; rw [hn.out]) (by omega)).mono ?_; rintro e w1 ⟨rfl, hb1⟩; rw [be8_drop]) | go_in)
  all_goals
    go_ret3
    exact ⟨_, _, rfl, by first | exact Below.refl _ _ | assumption⟩
set_option maxHeartbeats 1000000 in
set_option maxRecDepth 100000 in
theorem ri_207_over (g o n c : Nat) (l : List Int) (w : World) (hr : Rd w (some ⟨g, o, none⟩) l) (hn : Hid (l.length = n)) (hnc : n ≤ c) (hm : c ≤ 9223372036854775807) (hg : g < w.heap.size) (hG : Glob w) (hs : 9 ≤ n) (c0 : w.cell? ⟨g, o, none⟩ = some (.int .u8 207)) (hv : 9223372036854775807 < be8 l 1) :
    Calls Tryd.prog 42 #[.slice (some ⟨g, o, none⟩) n c] w (Ret3 w (.int .i64 0) 0 (.uover (be8 l 1) 64)) := by
  have hA : ∀ (W : World) (o' : Obj) (j : Nat), g < W.heap.size → (W.alloc o').cell? ⟨g, j, none⟩ = W.cell? ⟨g, j, none⟩ := fun W o' j h => World.cell?_alloc_lt W o' ⟨g, j, none⟩ h
  obtain ⟨gs, gr⟩ := hG
  have ec : ¬ c = 1 := by omega
  obtain ⟨b0, b1⟩ := be8_range hr.1 1
  go_enter Tryd.func42, Tryd.ntmps42
  go_wp2_with (first | (go_at_call 65; refine (u64_c _ _ _ _ (l.drop 1) _ (hr.cut 1) (by simp only [List.length_drop]; rw [hn.out]) (by omega)).mono ?_; rintro e w1 ⟨rfl, hb1⟩; rw [be8_drop]) | go_in)
  all_goals
    go_ret3
    exact ⟨_, _, rfl, by first | exact Below.refl _ _ | assumption⟩
set_option maxHeartbeats 1000000 in
set_option maxRecDepth 100000 in
theorem ri_211_short (g o n c : Nat) (l : List Int) (w : World) (hr : Rd w (some ⟨g, o, none⟩) l) (hn : Hid (l.length = n)) (hnc : n ≤ c) (hm : c ≤ 9223372036854775807) (hg : g < w.heap.size) (hG : Glob w) (hs : 1 ≤ n) (hs2 : n < 9) (c0 : w.cell? ⟨g, o, none⟩ = some (.int .u8 211)) :
    Calls Tryd.prog 42 #[.slice (some ⟨g, o, none⟩) n c] w (Ret3 w (.int .i64 0) 0 .short) := by
  have hA : ∀ (W : World) (o' : Obj) (j : Nat), g < W.heap.size → (W.alloc o').cell? ⟨g, j, none⟩ = W.cell? ⟨g, j, none⟩ := fun W o' j h => World.cell?_alloc_lt W o' ⟨g, j, none⟩ h
  obtain ⟨gs, gr⟩ := hG
  go_enter Tryd.func42, Tryd.ntmps42
  go_wp2_with (first | fail | go_in)
  all_goals
    go_ret3
    exact ⟨_, _, rfl, by first | exact Below.refl _ _ | assumption⟩
set_option maxHeartbeats 1000000 in
set_option maxRecDepth 100000 in
theorem ri_211_whole (g o n c : Nat) (l : List Int) (w : World) (hr : Rd w (some ⟨g, o, none⟩) l) (hn : Hid (l.length = n)) (hnc : n ≤ c) (hm : c ≤ 9223372036854775807) (hg : g < w.heap.size) (hG : Glob w) (hs : 9 ≤ n) (c0 : w.cell? ⟨g, o, none⟩ = some (.int .u8 211)) :
    Calls Tryd.prog 42 #[.slice (some ⟨g, o, none⟩) n c] w (Ret3 w (.int .i64 (s64 (be8 l 1))) (n - 9) .ok) := by
  have hA : ∀ (W : World) (o' : Obj) (j : Nat), g < W.heap.size → (W.alloc o').cell? ⟨g, j, none⟩ = W.cell? ⟨g, j, none⟩ := fun W o' j h => World.cell?_alloc_lt W o' ⟨g, j, none⟩ h
  obtain ⟨gs, gr⟩ := hG
  have ec : ¬ c = 1 := by omega
  obtain ⟨b0, b1⟩ := be8_range hr.1 1
  have e3 : IntKind.i64.wrap (be8 l 1) = s64 (be8 l 1) := rfl
  obtain ⟨t0, t1⟩ := s64_range (be8 l 1)
  generalize s64 (be8 l 1) = t at e3 t0 t1 ⊢
  go_enter Tryd.func42, Tryd.ntmps42
  go_wp2_with (first | (go_at_call 65; refine (u64_c _ _ _ _ (l.drop 1) _ (hr.cut 1) (by simp only [List.length_drop]; rw [hn.out]) (by omega)).mono ?_; rintro e w1 ⟨rfl, hb1⟩; rw [be8_drop]) | go_in)
  all_goals
    go_ret3
    exact ⟨_, _, rfl, by first | exact Below.refl _ _ | assumption⟩

end Go.Proofs.YtmhilpnagpkkiaaDoor
