/- msgp's readExt, walked: the type, the rest and the data of an extension. Conditions: the slice reads as bytes; the two sentinels' variables hold what the program lays in them. -/
import Derived.Test.YtpmdlbbgljcloaaDoorRead
import Derived.Test.YtpmdlbbgljcloaaDoorInts
import Derived.Test.YtpmdlbbgljcloaaDoorTextR
import Derived.Deep.RegionHeld3
namespace Go.Proofs.YtpmdlbbgljcloaaDoor
open Go Go.RowKit Go.Lib
set_option linter.unusedVariables false

theorem results_tmp4 {fn : Func} {t u v x : Tmp} (h : fn.results = #[.tmp t, .tmp u, .tmp v, .tmp x]) (tmps : Array Value) (P : Program) (w : World) :
    (results fn tmps).run P w = .ok (.tuple #[tmps.getD t undef, tmps.getD u undef, tmps.getD v undef, tmps.getD x undef]) w := by
  simp [results, h]

/-- 'The call answers a type, a rest of k bytes, data that read l, and no error.' -/
def RetE (w : World) (t : Int) (l : List Int) (k : Nat) (e : Ending) (w' : World) : Prop := ∃ A c B d, e = .returned (.tuple #[.int .i8 t, .slice B k d, .slice A l.length c, .nilIface]) ∧ Rd w' A l ∧ Below w.heap.size w w'
/-- 'The call answers an error.' -/
def RetX (w : World) (x : Er) (e : Ending) (w' : World) : Prop := ∃ A k c B m d, e = .returned (.tuple #[.int .i8 0, .slice A k c, .slice B m d, x.val]) ∧ Below w.heap.size w w'
theorem retE_mk {w w' : World} {t : Int} {l : List Int} {k : Nat} {A B : Option Addr} {c d m : Nat} (hm : l.length = m) (hr : Rd w' A l) (hb : Below w.heap.size w w') : RetE w t l k (.returned (.tuple #[.int .i8 t, .slice B k d, .slice A m c, .nilIface])) w' := by
  subst hm; exact ⟨_, _, _, _, rfl, hr, hb⟩

set_option maxHeartbeats 2000000 in
set_option maxRecDepth 100000 in
theorem re_short (g o n c : Nat) (l : List Int) (w : World) (hr : Rd w (some ⟨g, o, none⟩) l) (hn : Hid (l.length = n)) (hnc : n ≤ c) (hm : c ≤ 9223372036854775807) (hg : g < w.heap.size) (hG : Glob w) (hs : n < 3) :
    Calls Tryd.prog 123 #[.slice (some ⟨g, o, none⟩) n c] w (RetX w .short) := by
  have HG : Hid (Glob w) := hG
  have hA : ∀ (W : World) (o' : Obj) (j : Nat), g < W.heap.size → (W.alloc o').cell? ⟨g, j, none⟩ = W.cell? ⟨g, j, none⟩ := fun W o' j h => World.cell?_alloc_lt W o' ⟨g, j, none⟩ h
  obtain ⟨gs, gr⟩ := hG
  go_enter Tryd.func123, Tryd.ntmps123
  go_wp2_with fail
  all_goals try (go_quiet (fail); go_wp2_with fail)
  all_goals
    ((try simp only [Exit.inBlock, Exit.then]); refine bodyPost_ret (results_tmp4 rfl _ _ _) rfl ?_)
    exact ⟨_, _, _, _, _, _, rfl, by first | exact Below.refl _ _ | exact below_drewN (Below.refl _ _) _ | assumption⟩

set_option maxHeartbeats 2000000 in
set_option maxRecDepth 100000 in
theorem re_other (g o n c : Nat) (l : List Int) (w : World) (hr : Rd w (some ⟨g, o, none⟩) l) (hn : Hid (l.length = n)) (hnc : n ≤ c) (hm : c ≤ 9223372036854775807) (hg : g < w.heap.size) (hG : Glob w) (hs : 3 ≤ n) (x : Int) (x0 : 0 ≤ x) (x1 : x < 256) (y0 : x < 199 ∨ 201 < x) (y1 : x < 212 ∨ 216 < x) (c0 : w.cell? ⟨g, o, none⟩ = some (.int .u8 x)) :
    Calls Tryd.prog 123 #[.slice (some ⟨g, o, none⟩) n c] w (RetX w (bp 12 x)) := by
  have HG : Hid (Glob w) := hG
  have hA : ∀ (W : World) (o' : Obj) (j : Nat), g < W.heap.size → (W.alloc o').cell? ⟨g, j, none⟩ = W.cell? ⟨g, j, none⟩ := fun W o' j h => World.cell?_alloc_lt W o' ⟨g, j, none⟩ h
  obtain ⟨gs, gr⟩ := hG
  have e199 : (x == 199) = false := by simp; omega
  have e200 : (x == 200) = false := by simp; omega
  have e201 : (x == 201) = false := by simp; omega
  have e212 : (x == 212) = false := by simp; omega
  have e213 : (x == 213) = false := by simp; omega
  have e214 : (x == 214) = false := by simp; omega
  have e215 : (x == 215) = false := by simp; omega
  have e216 : (x == 216) = false := by simp; omega
  clear y0 y1
  go_enter Tryd.func123, Tryd.ntmps123
  go_wp2_with (go_at_call 108; refine (badPrefix_c _ _ _ (by omega) (by omega)).mono ?_; rintro e w1 ⟨rfl, hb1⟩)
  ((try simp only [Exit.inBlock, Exit.then]); refine bodyPost_ret (results_tmp4 rfl _ _ _) rfl ?_)
  exact ⟨_, _, _, _, _, _, rfl, hb1⟩

set_option maxHeartbeats 2000000 in
set_option maxRecDepth 100000 in
theorem re_212_short (g o n c : Nat) (l : List Int) (w : World) (hr : Rd w (some ⟨g, o, none⟩) l) (hn : Hid (l.length = n)) (hnc : n ≤ c) (hm : c ≤ 9223372036854775807) (hg : g < w.heap.size) (hG : Glob w) (hs : 3 ≤ n) (hv : n < 3) (c0 : w.cell? ⟨g, o, none⟩ = some (.int .u8 212)) :
    Calls Tryd.prog 123 #[.slice (some ⟨g, o, none⟩) n c] w (RetX w .short) := by
  have HG : Hid (Glob w) := hG
  have hA : ∀ (W : World) (o' : Obj) (j : Nat), g < W.heap.size → (W.alloc o').cell? ⟨g, j, none⟩ = W.cell? ⟨g, j, none⟩ := fun W o' j h => World.cell?_alloc_lt W o' ⟨g, j, none⟩ h
  obtain ⟨gs, gr⟩ := hG
  have c1 : w.cell? ⟨g, o + 1, none⟩ = some (.int .u8 (at_ l 1)) := by
    obtain ⟨g', o', hA', -, hc⟩ := hr.2 (by have := hn.out; omega)
    injection hA' with hA'
    injection hA' with h1 h2
    subst h1; subst h2
    exact hc 1 (by have := hn.out; omega)
  obtain ⟨b0, b1⟩ := hr.1.at_ 1
  have e3 : IntKind.i8.wrap (at_ l 1) = s8 (at_ l 1) := rfl
  obtain ⟨t0, t1⟩ := s8_range (at_ l 1)
  have ec : ¬ c = 2 := by omega
  generalize s8 (at_ l 1) = t at e3 t0 t1 ⊢
  generalize at_ l 1 = y at *
  go_enter Tryd.func123, Tryd.ntmps123
  go_wp2_with fail
  all_goals try (go_quiet (fail); go_wp2_with fail)
  all_goals
    ((try simp only [Exit.inBlock, Exit.then]); refine bodyPost_ret (results_tmp4 rfl _ _ _) rfl ?_)
    exact ⟨_, _, _, _, _, _, rfl, by first | exact Below.refl _ _ | exact below_drewN (Below.refl _ _) _ | assumption⟩

set_option maxHeartbeats 2000000 in
set_option maxRecDepth 100000 in
theorem re_212_whole (g o n c : Nat) (l : List Int) (w : World) (hr : Rd w (some ⟨g, o, none⟩) l) (hn : Hid (l.length = n)) (hnc : n ≤ c) (hm : c ≤ 9223372036854775807) (hg : g < w.heap.size) (hG : Glob w) (hs : 3 ≤ n) (c0 : w.cell? ⟨g, o, none⟩ = some (.int .u8 212)) :
    Calls Tryd.prog 123 #[.slice (some ⟨g, o, none⟩) n c] w (RetE w (s8 (at_ l 1)) ((l.drop 2).take 1) (n - 3)) := by
  have HG : Hid (Glob w) := hG
  have hA : ∀ (W : World) (o' : Obj) (j : Nat), g < W.heap.size → (W.alloc o').cell? ⟨g, j, none⟩ = W.cell? ⟨g, j, none⟩ := fun W o' j h => World.cell?_alloc_lt W o' ⟨g, j, none⟩ h
  obtain ⟨gs, gr⟩ := hG
  have c1 : w.cell? ⟨g, o + 1, none⟩ = some (.int .u8 (at_ l 1)) := by
    obtain ⟨g', o', hA', -, hc⟩ := hr.2 (by have := hn.out; omega)
    injection hA' with hA'
    injection hA' with h1 h2
    subst h1; subst h2
    exact hc 1 (by have := hn.out; omega)
  obtain ⟨b0, b1⟩ := hr.1.at_ 1
  have e3 : IntKind.i8.wrap (at_ l 1) = s8 (at_ l 1) := rfl
  obtain ⟨t0, t1⟩ := s8_range (at_ l 1)
  have ec : ¬ c = 2 := by omega
  generalize s8 (at_ l 1) = t at e3 t0 t1 ⊢
  generalize at_ l 1 = y at *
  have i1 : (3 : Int) ≤ n := by omega
  have i2 : (3 : Int) ≤ c := by omega
  go_enter Tryd.func123, Tryd.ntmps123
  go_wp2_with fail
  all_goals try (go_quiet (fail); go_wp2_with fail)
  all_goals
    ((try simp only [Exit.inBlock, Exit.then]); refine bodyPost_ret (results_tmp4 rfl _ _ _) rfl ?_)
    exact retE_mk (by have := hn.out; simp <;> omega) (hr.cutTake 2 1) (below_drewN (Below.refl _ _) _)

set_option maxHeartbeats 2000000 in
set_option maxRecDepth 100000 in
theorem re_213_short (g o n c : Nat) (l : List Int) (w : World) (hr : Rd w (some ⟨g, o, none⟩) l) (hn : Hid (l.length = n)) (hnc : n ≤ c) (hm : c ≤ 9223372036854775807) (hg : g < w.heap.size) (hG : Glob w) (hs : 3 ≤ n) (hv : n < 4) (c0 : w.cell? ⟨g, o, none⟩ = some (.int .u8 213)) :
    Calls Tryd.prog 123 #[.slice (some ⟨g, o, none⟩) n c] w (RetX w .short) := by
  have HG : Hid (Glob w) := hG
  have hA : ∀ (W : World) (o' : Obj) (j : Nat), g < W.heap.size → (W.alloc o').cell? ⟨g, j, none⟩ = W.cell? ⟨g, j, none⟩ := fun W o' j h => World.cell?_alloc_lt W o' ⟨g, j, none⟩ h
  obtain ⟨gs, gr⟩ := hG
  have c1 : w.cell? ⟨g, o + 1, none⟩ = some (.int .u8 (at_ l 1)) := by
    obtain ⟨g', o', hA', -, hc⟩ := hr.2 (by have := hn.out; omega)
    injection hA' with hA'
    injection hA' with h1 h2
    subst h1; subst h2
    exact hc 1 (by have := hn.out; omega)
  obtain ⟨b0, b1⟩ := hr.1.at_ 1
  have e3 : IntKind.i8.wrap (at_ l 1) = s8 (at_ l 1) := rfl
  obtain ⟨t0, t1⟩ := s8_range (at_ l 1)
  have ec : ¬ c = 2 := by omega
  generalize s8 (at_ l 1) = t at e3 t0 t1 ⊢
  generalize at_ l 1 = y at *
  go_enter Tryd.func123, Tryd.ntmps123
  go_wp2_with fail
  all_goals try (go_quiet (fail); go_wp2_with fail)
  all_goals
    ((try simp only [Exit.inBlock, Exit.then]); refine bodyPost_ret (results_tmp4 rfl _ _ _) rfl ?_)
    exact ⟨_, _, _, _, _, _, rfl, by first | exact Below.refl _ _ | exact below_drewN (Below.refl _ _) _ | assumption⟩

set_option maxHeartbeats 2000000 in
set_option maxRecDepth 100000 in
theorem re_213_whole (g o n c : Nat) (l : List Int) (w : World) (hr : Rd w (some ⟨g, o, none⟩) l) (hn : Hid (l.length = n)) (hnc : n ≤ c) (hm : c ≤ 9223372036854775807) (hg : g < w.heap.size) (hG : Glob w) (hs : 4 ≤ n) (c0 : w.cell? ⟨g, o, none⟩ = some (.int .u8 213)) :
    Calls Tryd.prog 123 #[.slice (some ⟨g, o, none⟩) n c] w (RetE w (s8 (at_ l 1)) ((l.drop 2).take 2) (n - 4)) := by
  have HG : Hid (Glob w) := hG
  have hA : ∀ (W : World) (o' : Obj) (j : Nat), g < W.heap.size → (W.alloc o').cell? ⟨g, j, none⟩ = W.cell? ⟨g, j, none⟩ := fun W o' j h => World.cell?_alloc_lt W o' ⟨g, j, none⟩ h
  obtain ⟨gs, gr⟩ := hG
  have c1 : w.cell? ⟨g, o + 1, none⟩ = some (.int .u8 (at_ l 1)) := by
    obtain ⟨g', o', hA', -, hc⟩ := hr.2 (by have := hn.out; omega)
    injection hA' with hA'
    injection hA' with h1 h2
    subst h1; subst h2
    exact hc 1 (by have := hn.out; omega)
  obtain ⟨b0, b1⟩ := hr.1.at_ 1
  have e3 : IntKind.i8.wrap (at_ l 1) = s8 (at_ l 1) := rfl
  obtain ⟨t0, t1⟩ := s8_range (at_ l 1)
  have ec : ¬ c = 2 := by omega
  generalize s8 (at_ l 1) = t at e3 t0 t1 ⊢
  generalize at_ l 1 = y at *
  have i1 : (4 : Int) ≤ n := by omega
  have i2 : (4 : Int) ≤ c := by omega
  go_enter Tryd.func123, Tryd.ntmps123
  go_wp2_with fail
  all_goals try (go_quiet (fail); go_wp2_with fail)
  all_goals
    ((try simp only [Exit.inBlock, Exit.then]); refine bodyPost_ret (results_tmp4 rfl _ _ _) rfl ?_)
    exact retE_mk (by have := hn.out; simp <;> omega) (hr.cutTake 2 2) (below_drewN (Below.refl _ _) _)

set_option maxHeartbeats 2000000 in
set_option maxRecDepth 100000 in
theorem re_214_short (g o n c : Nat) (l : List Int) (w : World) (hr : Rd w (some ⟨g, o, none⟩) l) (hn : Hid (l.length = n)) (hnc : n ≤ c) (hm : c ≤ 9223372036854775807) (hg : g < w.heap.size) (hG : Glob w) (hs : 3 ≤ n) (hv : n < 6) (c0 : w.cell? ⟨g, o, none⟩ = some (.int .u8 214)) :
    Calls Tryd.prog 123 #[.slice (some ⟨g, o, none⟩) n c] w (RetX w .short) := by
  have HG : Hid (Glob w) := hG
  have hA : ∀ (W : World) (o' : Obj) (j : Nat), g < W.heap.size → (W.alloc o').cell? ⟨g, j, none⟩ = W.cell? ⟨g, j, none⟩ := fun W o' j h => World.cell?_alloc_lt W o' ⟨g, j, none⟩ h
  obtain ⟨gs, gr⟩ := hG
  have c1 : w.cell? ⟨g, o + 1, none⟩ = some (.int .u8 (at_ l 1)) := by
    obtain ⟨g', o', hA', -, hc⟩ := hr.2 (by have := hn.out; omega)
    injection hA' with hA'
    injection hA' with h1 h2
    subst h1; subst h2
    exact hc 1 (by have := hn.out; omega)
  obtain ⟨b0, b1⟩ := hr.1.at_ 1
  have e3 : IntKind.i8.wrap (at_ l 1) = s8 (at_ l 1) := rfl
  obtain ⟨t0, t1⟩ := s8_range (at_ l 1)
  have ec : ¬ c = 2 := by omega
  generalize s8 (at_ l 1) = t at e3 t0 t1 ⊢
  generalize at_ l 1 = y at *
  go_enter Tryd.func123, Tryd.ntmps123
  go_wp2_with fail
  all_goals try (go_quiet (fail); go_wp2_with fail)
  all_goals
    ((try simp only [Exit.inBlock, Exit.then]); refine bodyPost_ret (results_tmp4 rfl _ _ _) rfl ?_)
    exact ⟨_, _, _, _, _, _, rfl, by first | exact Below.refl _ _ | exact below_drewN (Below.refl _ _) _ | assumption⟩

set_option maxHeartbeats 2000000 in
set_option maxRecDepth 100000 in
theorem re_214_whole (g o n c : Nat) (l : List Int) (w : World) (hr : Rd w (some ⟨g, o, none⟩) l) (hn : Hid (l.length = n)) (hnc : n ≤ c) (hm : c ≤ 9223372036854775807) (hg : g < w.heap.size) (hG : Glob w) (hs : 6 ≤ n) (c0 : w.cell? ⟨g, o, none⟩ = some (.int .u8 214)) :
    Calls Tryd.prog 123 #[.slice (some ⟨g, o, none⟩) n c] w (RetE w (s8 (at_ l 1)) ((l.drop 2).take 4) (n - 6)) := by
  have HG : Hid (Glob w) := hG
  have hA : ∀ (W : World) (o' : Obj) (j : Nat), g < W.heap.size → (W.alloc o').cell? ⟨g, j, none⟩ = W.cell? ⟨g, j, none⟩ := fun W o' j h => World.cell?_alloc_lt W o' ⟨g, j, none⟩ h
  obtain ⟨gs, gr⟩ := hG
  have c1 : w.cell? ⟨g, o + 1, none⟩ = some (.int .u8 (at_ l 1)) := by
    obtain ⟨g', o', hA', -, hc⟩ := hr.2 (by have := hn.out; omega)
    injection hA' with hA'
    injection hA' with h1 h2
    subst h1; subst h2
    exact hc 1 (by have := hn.out; omega)
  obtain ⟨b0, b1⟩ := hr.1.at_ 1
  have e3 : IntKind.i8.wrap (at_ l 1) = s8 (at_ l 1) := rfl
  obtain ⟨t0, t1⟩ := s8_range (at_ l 1)
  have ec : ¬ c = 2 := by omega
  generalize s8 (at_ l 1) = t at e3 t0 t1 ⊢
  generalize at_ l 1 = y at *
  have i1 : (6 : Int) ≤ n := by omega
  have i2 : (6 : Int) ≤ c := by omega
  go_enter Tryd.func123, Tryd.ntmps123
  go_wp2_with fail
  all_goals try (go_quiet (fail); go_wp2_with fail)
  all_goals
    ((try simp only [Exit.inBlock, Exit.then]); refine bodyPost_ret (results_tmp4 rfl _ _ _) rfl ?_)
    exact retE_mk (by have := hn.out; simp <;> omega) (hr.cutTake 2 4) (below_drewN (Below.refl _ _) _)

set_option maxHeartbeats 2000000 in
set_option maxRecDepth 100000 in
theorem re_215_short (g o n c : Nat) (l : List Int) (w : World) (hr : Rd w (some ⟨g, o, none⟩) l) (hn : Hid (l.length = n)) (hnc : n ≤ c) (hm : c ≤ 9223372036854775807) (hg : g < w.heap.size) (hG : Glob w) (hs : 3 ≤ n) (hv : n < 10) (c0 : w.cell? ⟨g, o, none⟩ = some (.int .u8 215)) :
    Calls Tryd.prog 123 #[.slice (some ⟨g, o, none⟩) n c] w (RetX w .short) := by
  have HG : Hid (Glob w) := hG
  have hA : ∀ (W : World) (o' : Obj) (j : Nat), g < W.heap.size → (W.alloc o').cell? ⟨g, j, none⟩ = W.cell? ⟨g, j, none⟩ := fun W o' j h => World.cell?_alloc_lt W o' ⟨g, j, none⟩ h
  obtain ⟨gs, gr⟩ := hG
  have c1 : w.cell? ⟨g, o + 1, none⟩ = some (.int .u8 (at_ l 1)) := by
    obtain ⟨g', o', hA', -, hc⟩ := hr.2 (by have := hn.out; omega)
    injection hA' with hA'
    injection hA' with h1 h2
    subst h1; subst h2
    exact hc 1 (by have := hn.out; omega)
  obtain ⟨b0, b1⟩ := hr.1.at_ 1
  have e3 : IntKind.i8.wrap (at_ l 1) = s8 (at_ l 1) := rfl
  obtain ⟨t0, t1⟩ := s8_range (at_ l 1)
  have ec : ¬ c = 2 := by omega
  generalize s8 (at_ l 1) = t at e3 t0 t1 ⊢
  generalize at_ l 1 = y at *
  go_enter Tryd.func123, Tryd.ntmps123
  go_wp2_with fail
  all_goals try (go_quiet (fail); go_wp2_with fail)
  all_goals
    ((try simp only [Exit.inBlock, Exit.then]); refine bodyPost_ret (results_tmp4 rfl _ _ _) rfl ?_)
    exact ⟨_, _, _, _, _, _, rfl, by first | exact Below.refl _ _ | exact below_drewN (Below.refl _ _) _ | assumption⟩

set_option maxHeartbeats 2000000 in
set_option maxRecDepth 100000 in
theorem re_215_whole (g o n c : Nat) (l : List Int) (w : World) (hr : Rd w (some ⟨g, o, none⟩) l) (hn : Hid (l.length = n)) (hnc : n ≤ c) (hm : c ≤ 9223372036854775807) (hg : g < w.heap.size) (hG : Glob w) (hs : 10 ≤ n) (c0 : w.cell? ⟨g, o, none⟩ = some (.int .u8 215)) :
    Calls Tryd.prog 123 #[.slice (some ⟨g, o, none⟩) n c] w (RetE w (s8 (at_ l 1)) ((l.drop 2).take 8) (n - 10)) := by
  have HG : Hid (Glob w) := hG
  have hA : ∀ (W : World) (o' : Obj) (j : Nat), g < W.heap.size → (W.alloc o').cell? ⟨g, j, none⟩ = W.cell? ⟨g, j, none⟩ := fun W o' j h => World.cell?_alloc_lt W o' ⟨g, j, none⟩ h
  obtain ⟨gs, gr⟩ := hG
  have c1 : w.cell? ⟨g, o + 1, none⟩ = some (.int .u8 (at_ l 1)) := by
    obtain ⟨g', o', hA', -, hc⟩ := hr.2 (by have := hn.out; omega)
    injection hA' with hA'
    injection hA' with h1 h2
    subst h1; subst h2
    exact hc 1 (by have := hn.out; omega)
  obtain ⟨b0, b1⟩ := hr.1.at_ 1
  have e3 : IntKind.i8.wrap (at_ l 1) = s8 (at_ l 1) := rfl
  obtain ⟨t0, t1⟩ := s8_range (at_ l 1)
  have ec : ¬ c = 2 := by omega
  generalize s8 (at_ l 1) = t at e3 t0 t1 ⊢
  generalize at_ l 1 = y at *
  have i1 : (10 : Int) ≤ n := by omega
  have i2 : (10 : Int) ≤ c := by omega
  go_enter Tryd.func123, Tryd.ntmps123
  go_wp2_with fail
  all_goals try (go_quiet (fail); go_wp2_with fail)
  all_goals
    ((try simp only [Exit.inBlock, Exit.then]); refine bodyPost_ret (results_tmp4 rfl _ _ _) rfl ?_)
    exact retE_mk (by have := hn.out; simp <;> omega) (hr.cutTake 2 8) (below_drewN (Below.refl _ _) _)

set_option maxHeartbeats 2000000 in
set_option maxRecDepth 100000 in
theorem re_216_short (g o n c : Nat) (l : List Int) (w : World) (hr : Rd w (some ⟨g, o, none⟩) l) (hn : Hid (l.length = n)) (hnc : n ≤ c) (hm : c ≤ 9223372036854775807) (hg : g < w.heap.size) (hG : Glob w) (hs : 3 ≤ n) (hv : n < 18) (c0 : w.cell? ⟨g, o, none⟩ = some (.int .u8 216)) :
    Calls Tryd.prog 123 #[.slice (some ⟨g, o, none⟩) n c] w (RetX w .short) := by
  have HG : Hid (Glob w) := hG
  have hA : ∀ (W : World) (o' : Obj) (j : Nat), g < W.heap.size → (W.alloc o').cell? ⟨g, j, none⟩ = W.cell? ⟨g, j, none⟩ := fun W o' j h => World.cell?_alloc_lt W o' ⟨g, j, none⟩ h
  obtain ⟨gs, gr⟩ := hG
  have c1 : w.cell? ⟨g, o + 1, none⟩ = some (.int .u8 (at_ l 1)) := by
    obtain ⟨g', o', hA', -, hc⟩ := hr.2 (by have := hn.out; omega)
    injection hA' with hA'
    injection hA' with h1 h2
    subst h1; subst h2
    exact hc 1 (by have := hn.out; omega)
  obtain ⟨b0, b1⟩ := hr.1.at_ 1
  have e3 : IntKind.i8.wrap (at_ l 1) = s8 (at_ l 1) := rfl
  obtain ⟨t0, t1⟩ := s8_range (at_ l 1)
  have ec : ¬ c = 2 := by omega
  generalize s8 (at_ l 1) = t at e3 t0 t1 ⊢
  generalize at_ l 1 = y at *
  go_enter Tryd.func123, Tryd.ntmps123
  go_wp2_with fail
  all_goals try (go_quiet (fail); go_wp2_with fail)
  all_goals
    ((try simp only [Exit.inBlock, Exit.then]); refine bodyPost_ret (results_tmp4 rfl _ _ _) rfl ?_)
    exact ⟨_, _, _, _, _, _, rfl, by first | exact Below.refl _ _ | exact below_drewN (Below.refl _ _) _ | assumption⟩

set_option maxHeartbeats 2000000 in
set_option maxRecDepth 100000 in
theorem re_216_whole (g o n c : Nat) (l : List Int) (w : World) (hr : Rd w (some ⟨g, o, none⟩) l) (hn : Hid (l.length = n)) (hnc : n ≤ c) (hm : c ≤ 9223372036854775807) (hg : g < w.heap.size) (hG : Glob w) (hs : 18 ≤ n) (c0 : w.cell? ⟨g, o, none⟩ = some (.int .u8 216)) :
    Calls Tryd.prog 123 #[.slice (some ⟨g, o, none⟩) n c] w (RetE w (s8 (at_ l 1)) ((l.drop 2).take 16) (n - 18)) := by
  have HG : Hid (Glob w) := hG
  have hA : ∀ (W : World) (o' : Obj) (j : Nat), g < W.heap.size → (W.alloc o').cell? ⟨g, j, none⟩ = W.cell? ⟨g, j, none⟩ := fun W o' j h => World.cell?_alloc_lt W o' ⟨g, j, none⟩ h
  obtain ⟨gs, gr⟩ := hG
  have c1 : w.cell? ⟨g, o + 1, none⟩ = some (.int .u8 (at_ l 1)) := by
    obtain ⟨g', o', hA', -, hc⟩ := hr.2 (by have := hn.out; omega)
    injection hA' with hA'
    injection hA' with h1 h2
    subst h1; subst h2
    exact hc 1 (by have := hn.out; omega)
  obtain ⟨b0, b1⟩ := hr.1.at_ 1
  have e3 : IntKind.i8.wrap (at_ l 1) = s8 (at_ l 1) := rfl
  obtain ⟨t0, t1⟩ := s8_range (at_ l 1)
  have ec : ¬ c = 2 := by omega
  generalize s8 (at_ l 1) = t at e3 t0 t1 ⊢
  generalize at_ l 1 = y at *
  have i1 : (18 : Int) ≤ n := by omega
  have i2 : (18 : Int) ≤ c := by omega
  go_enter Tryd.func123, Tryd.ntmps123
  go_wp2_with fail
  all_goals try (go_quiet (fail); go_wp2_with fail)
  all_goals
    ((try simp only [Exit.inBlock, Exit.then]); refine bodyPost_ret (results_tmp4 rfl _ _ _) rfl ?_)
    exact retE_mk (by have := hn.out; simp <;> omega) (hr.cutTake 2 16) (below_drewN (Below.refl _ _) _)

set_option maxHeartbeats 2000000 in
set_option maxRecDepth 100000 in
theorem re_199_zero (g o n c : Nat) (l : List Int) (w : World) (hr : Rd w (some ⟨g, o, none⟩) l) (hn : Hid (l.length = n)) (hnc : n ≤ c) (hm : c ≤ 9223372036854775807) (hg : g < w.heap.size) (hG : Glob w) (hs : 3 ≤ n) (m : Nat) (hz : m = 0) (hmb : m ≤ 4294967295) (hv : at_ l 1 = (m : Int)) (c0 : w.cell? ⟨g, o, none⟩ = some (.int .u8 199)) :
    Calls Tryd.prog 123 #[.slice (some ⟨g, o, none⟩) n c] w (RetE w (s8 (at_ l 2)) [] (n - 3)) := by
  have HG : Hid (Glob w) := hG
  have hA : ∀ (W : World) (o' : Obj) (j : Nat), g < W.heap.size → (W.alloc o').cell? ⟨g, j, none⟩ = W.cell? ⟨g, j, none⟩ := fun W o' j h => World.cell?_alloc_lt W o' ⟨g, j, none⟩ h
  obtain ⟨gs, gr⟩ := hG
  have c2 : w.cell? ⟨g, o + 2, none⟩ = some (.int .u8 (at_ l 2)) := by
    obtain ⟨g', o', hA', -, hc⟩ := hr.2 (by have := hn.out; omega)
    injection hA' with hA'
    injection hA' with h1 h2
    subst h1; subst h2
    exact hc 2 (by have := hn.out; omega)
  have c1 : w.cell? ⟨g, o + 1, none⟩ = some (.int .u8 (at_ l 1)) := by
    obtain ⟨g', o', hA', -, hc⟩ := hr.2 (by have := hn.out; omega)
    injection hA' with hA'
    injection hA' with h1 h2
    subst h1; subst h2
    exact hc 1 (by have := hn.out; omega)
  rw [hv] at c1
  have e3 : IntKind.i8.wrap (at_ l 2) = s8 (at_ l 2) := rfl
  obtain ⟨t0, t1⟩ := s8_range (at_ l 2)
  generalize s8 (at_ l 2) = t at e3 t0 t1 ⊢
  obtain ⟨z0, z1⟩ := hr.1.at_ 2
  generalize at_ l 2 = z at *
  have x0 : (m == 0) = true := by simp; omega
  have x1 : ((m : Int) == 0) = true := by simp; omega
  have vs : IntKind.i64.wrap ((3 : Int) + m) = (3 : Int) + m := IntWalk.i64_in _ (by omega)
  have vt : ((3 : Int) + m).toNat = m + 3 := by omega
  subst hz
  go_enter Tryd.func123, Tryd.ntmps123
  go_wp2_with fail
  all_goals try (go_quiet (fail); go_wp2_with fail)
  all_goals
    ((try simp only [Exit.inBlock, Exit.then]); refine bodyPost_ret (results_tmp4 rfl _ _ _) rfl ?_)
    exact retE_mk rfl (Rd.nil _ _) (by (first | exact Below.refl _ _ | exact below_drewN (Below.refl _ _) _))

set_option maxHeartbeats 2000000 in
set_option maxRecDepth 100000 in
theorem re_199_short (g o n c : Nat) (l : List Int) (w : World) (hr : Rd w (some ⟨g, o, none⟩) l) (hn : Hid (l.length = n)) (hnc : n ≤ c) (hm : c ≤ 9223372036854775807) (hg : g < w.heap.size) (hG : Glob w) (hs : 3 ≤ n) (m : Nat) (hz : 0 < m) (hsh : n < m + 3) (hmb : m ≤ 4294967295) (hv : at_ l 1 = (m : Int)) (c0 : w.cell? ⟨g, o, none⟩ = some (.int .u8 199)) :
    Calls Tryd.prog 123 #[.slice (some ⟨g, o, none⟩) n c] w (RetX w .short) := by
  have HG : Hid (Glob w) := hG
  have hA : ∀ (W : World) (o' : Obj) (j : Nat), g < W.heap.size → (W.alloc o').cell? ⟨g, j, none⟩ = W.cell? ⟨g, j, none⟩ := fun W o' j h => World.cell?_alloc_lt W o' ⟨g, j, none⟩ h
  obtain ⟨gs, gr⟩ := hG
  have c2 : w.cell? ⟨g, o + 2, none⟩ = some (.int .u8 (at_ l 2)) := by
    obtain ⟨g', o', hA', -, hc⟩ := hr.2 (by have := hn.out; omega)
    injection hA' with hA'
    injection hA' with h1 h2
    subst h1; subst h2
    exact hc 2 (by have := hn.out; omega)
  have c1 : w.cell? ⟨g, o + 1, none⟩ = some (.int .u8 (at_ l 1)) := by
    obtain ⟨g', o', hA', -, hc⟩ := hr.2 (by have := hn.out; omega)
    injection hA' with hA'
    injection hA' with h1 h2
    subst h1; subst h2
    exact hc 1 (by have := hn.out; omega)
  rw [hv] at c1
  have e3 : IntKind.i8.wrap (at_ l 2) = s8 (at_ l 2) := rfl
  obtain ⟨t0, t1⟩ := s8_range (at_ l 2)
  generalize s8 (at_ l 2) = t at e3 t0 t1 ⊢
  obtain ⟨z0, z1⟩ := hr.1.at_ 2
  generalize at_ l 2 = z at *
  have x0 : (m == 0) = false := by simp; omega
  have x1 : ((m : Int) == 0) = false := by simp; omega
  have vs : IntKind.i64.wrap ((3 : Int) + m) = (3 : Int) + m := IntWalk.i64_in _ (by omega)
  have vt : ((3 : Int) + m).toNat = m + 3 := by omega
  have i1 : ((n - 3 : Nat) : Int) < m := by omega
  go_enter Tryd.func123, Tryd.ntmps123
  go_wp2_with fail
  all_goals try (go_quiet (fail); go_wp2_with fail)
  all_goals
    ((try simp only [Exit.inBlock, Exit.then]); refine bodyPost_ret (results_tmp4 rfl _ _ _) rfl ?_)
    exact ⟨_, _, _, _, _, _, rfl, by (first | exact Below.refl _ _ | exact below_drewN (Below.refl _ _) _)⟩

set_option maxHeartbeats 2000000 in
set_option maxRecDepth 100000 in
theorem re_199_whole (g o n c : Nat) (l : List Int) (w : World) (hr : Rd w (some ⟨g, o, none⟩) l) (hn : Hid (l.length = n)) (hnc : n ≤ c) (hm : c ≤ 9223372036854775807) (hg : g < w.heap.size) (hG : Glob w) (hs : 3 ≤ n) (m : Nat) (hz : 0 < m) (hwh : m + 3 ≤ n) (hmb : m ≤ 4294967295) (hv : at_ l 1 = (m : Int)) (c0 : w.cell? ⟨g, o, none⟩ = some (.int .u8 199)) :
    Calls Tryd.prog 123 #[.slice (some ⟨g, o, none⟩) n c] w (RetE w (s8 (at_ l 2)) ((l.drop 3).take m) (n - (m + 3))) := by
  have HG : Hid (Glob w) := hG
  have hA : ∀ (W : World) (o' : Obj) (j : Nat), g < W.heap.size → (W.alloc o').cell? ⟨g, j, none⟩ = W.cell? ⟨g, j, none⟩ := fun W o' j h => World.cell?_alloc_lt W o' ⟨g, j, none⟩ h
  obtain ⟨gs, gr⟩ := hG
  have c2 : w.cell? ⟨g, o + 2, none⟩ = some (.int .u8 (at_ l 2)) := by
    obtain ⟨g', o', hA', -, hc⟩ := hr.2 (by have := hn.out; omega)
    injection hA' with hA'
    injection hA' with h1 h2
    subst h1; subst h2
    exact hc 2 (by have := hn.out; omega)
  have c1 : w.cell? ⟨g, o + 1, none⟩ = some (.int .u8 (at_ l 1)) := by
    obtain ⟨g', o', hA', -, hc⟩ := hr.2 (by have := hn.out; omega)
    injection hA' with hA'
    injection hA' with h1 h2
    subst h1; subst h2
    exact hc 1 (by have := hn.out; omega)
  rw [hv] at c1
  have e3 : IntKind.i8.wrap (at_ l 2) = s8 (at_ l 2) := rfl
  obtain ⟨t0, t1⟩ := s8_range (at_ l 2)
  generalize s8 (at_ l 2) = t at e3 t0 t1 ⊢
  obtain ⟨z0, z1⟩ := hr.1.at_ 2
  generalize at_ l 2 = z at *
  have x0 : (m == 0) = false := by simp; omega
  have x1 : ((m : Int) == 0) = false := by simp; omega
  have vs : IntKind.i64.wrap ((3 : Int) + m) = (3 : Int) + m := IntWalk.i64_in _ (by omega)
  have vt : ((3 : Int) + m).toNat = m + 3 := by omega
  have i1 : ¬ ((n - 3 : Nat) : Int) < m := by omega
  have i2 : (3 : Int) + m ≤ n := by omega
  have i3 : (3 : Int) + m ≤ c := by omega
  have i4 : (3 : Int) ≤ (3 : Int) + m := by omega
  have ec : ¬ c = 3 := by omega
  have hrk := hr.cutTake 3 m
  go_enter Tryd.func123, Tryd.ntmps123
  go_wp2_with fail
  all_goals try (go_quiet (fail); go_wp2_with fail)
  all_goals
    ((try simp only [Exit.inBlock, Exit.then]); refine bodyPost_ret (results_tmp4 rfl _ _ _) rfl ?_)
    exact retE_mk (by have := hn.out; simp <;> omega) (hrk.drewN _) (by (first | exact Below.refl _ _ | exact below_drewN (Below.refl _ _) _))

set_option maxHeartbeats 2000000 in
set_option maxRecDepth 100000 in
theorem re_200_none (g o n c : Nat) (l : List Int) (w : World) (hr : Rd w (some ⟨g, o, none⟩) l) (hn : Hid (l.length = n)) (hnc : n ≤ c) (hm : c ≤ 9223372036854775807) (hg : g < w.heap.size) (hG : Glob w) (hs : 3 ≤ n) (hs2 : n < 4) (c0 : w.cell? ⟨g, o, none⟩ = some (.int .u8 200)) :
    Calls Tryd.prog 123 #[.slice (some ⟨g, o, none⟩) n c] w (RetX w .short) := by
  have HG : Hid (Glob w) := hG
  have hA : ∀ (W : World) (o' : Obj) (j : Nat), g < W.heap.size → (W.alloc o').cell? ⟨g, j, none⟩ = W.cell? ⟨g, j, none⟩ := fun W o' j h => World.cell?_alloc_lt W o' ⟨g, j, none⟩ h
  obtain ⟨gs, gr⟩ := hG
  go_enter Tryd.func123, Tryd.ntmps123
  go_wp2_with fail
  all_goals try (go_quiet (fail); go_wp2_with fail)
  all_goals
    ((try simp only [Exit.inBlock, Exit.then]); refine bodyPost_ret (results_tmp4 rfl _ _ _) rfl ?_)
    exact ⟨_, _, _, _, _, _, rfl, by first | exact Below.refl _ _ | exact below_drewN (Below.refl _ _) _ | assumption⟩

set_option maxHeartbeats 2000000 in
set_option maxRecDepth 100000 in
theorem re_200_zero (g o n c : Nat) (l : List Int) (w : World) (hr : Rd w (some ⟨g, o, none⟩) l) (hn : Hid (l.length = n)) (hnc : n ≤ c) (hm : c ≤ 9223372036854775807) (hg : g < w.heap.size) (hG : Glob w) (hs : 4 ≤ n) (m : Nat) (hz : m = 0) (hmb : m ≤ 4294967295) (hv : be2 l 1 = (m : Int)) (c0 : w.cell? ⟨g, o, none⟩ = some (.int .u8 200)) :
    Calls Tryd.prog 123 #[.slice (some ⟨g, o, none⟩) n c] w (RetE w (s8 (at_ l 3)) [] (n - 4)) := by
  have HG : Hid (Glob w) := hG
  have hA : ∀ (W : World) (o' : Obj) (j : Nat), g < W.heap.size → (W.alloc o').cell? ⟨g, j, none⟩ = W.cell? ⟨g, j, none⟩ := fun W o' j h => World.cell?_alloc_lt W o' ⟨g, j, none⟩ h
  obtain ⟨gs, gr⟩ := hG
  have c3 : w.cell? ⟨g, o + 3, none⟩ = some (.int .u8 (at_ l 3)) := by
    obtain ⟨g', o', hA', -, hc⟩ := hr.2 (by have := hn.out; omega)
    injection hA' with hA'
    injection hA' with h1 h2
    subst h1; subst h2
    exact hc 3 (by have := hn.out; omega)
  have e3 : IntKind.i8.wrap (at_ l 3) = s8 (at_ l 3) := rfl
  obtain ⟨t0, t1⟩ := s8_range (at_ l 3)
  generalize s8 (at_ l 3) = t at e3 t0 t1 ⊢
  obtain ⟨z0, z1⟩ := hr.1.at_ 3
  generalize at_ l 3 = z at *
  have hR : Rd w.drew (some ⟨g, o + 1, none⟩) (l.drop 1) := hr.cut 1
  have hq : (l.drop 1).length = n - 1 := by rw [List.length_drop, hn.out]
  have HQ := Lib.hid hq
  clear hq
  have hd : be2 (l.drop 1) 0 = (m : Int) := by rw [be2_drop, hv]
  have HD := Lib.hid hd
  clear hd hv
  have i5 : (1 : Int) ≤ (n : Int) := by omega
  have i6 : (n : Int) ≤ (c : Int) := by omega
  have i7 : (1 : Int) ≤ (c : Int) := by omega
  have ec1 : ¬ c = 1 := by omega
  have vm : IntKind.i64.wrap (m : Int) = m := IntWalk.i64_in _ (by omega)
  have x0 : (m == 0) = true := by simp; omega
  have x1 : ((m : Int) == 0) = true := by simp; omega
  have vs : IntKind.i64.wrap ((4 : Int) + m) = (4 : Int) + m := IntWalk.i64_in _ (by omega)
  have vt : ((4 : Int) + m).toNat = m + 4 := by omega
  subst hz
  go_enter Tryd.func123, Tryd.ntmps123
  go_wp2_with fail
  go_region_held3 (fun w' => True) (trivial) ((go_at_call 105; (refine (u16_c _ _ _ _ (l.drop 1) _ hR HQ.out (by omega)).mono ?_); rintro e w1 ⟨rfl, hb1⟩; rw [HD.out]; have hb1 := ((Below.refl w.heap.size w).drew).trans hb1; have gs1 := (HG.out.mono hb1).1; have lw1 := hb1.size; have c3x : w1.cell? ⟨g, o + 3, none⟩ = some (.int .u8 z) := (hb1.cell (p := ⟨g, o + 3, none⟩) hg).trans c3))
  all_goals
    go_wp2_with fail
  all_goals try (go_quiet (fail); go_wp2_with fail)
  all_goals
    ((try simp only [Exit.inBlock, Exit.then]); refine bodyPost_ret (results_tmp4 rfl _ _ _) rfl ?_)
    exact retE_mk rfl (Rd.nil _ _) (by (first | exact hb1 | exact Below.refl _ _ | exact below_drewN (Below.refl _ _) _ | exact below_drewN hb1 _))

set_option maxHeartbeats 2000000 in
set_option maxRecDepth 100000 in
theorem re_200_short (g o n c : Nat) (l : List Int) (w : World) (hr : Rd w (some ⟨g, o, none⟩) l) (hn : Hid (l.length = n)) (hnc : n ≤ c) (hm : c ≤ 9223372036854775807) (hg : g < w.heap.size) (hG : Glob w) (hs : 4 ≤ n) (m : Nat) (hz : 0 < m) (hsh : n < m + 4) (hmb : m ≤ 4294967295) (hv : be2 l 1 = (m : Int)) (c0 : w.cell? ⟨g, o, none⟩ = some (.int .u8 200)) :
    Calls Tryd.prog 123 #[.slice (some ⟨g, o, none⟩) n c] w (RetX w .short) := by
  have HG : Hid (Glob w) := hG
  have hA : ∀ (W : World) (o' : Obj) (j : Nat), g < W.heap.size → (W.alloc o').cell? ⟨g, j, none⟩ = W.cell? ⟨g, j, none⟩ := fun W o' j h => World.cell?_alloc_lt W o' ⟨g, j, none⟩ h
  obtain ⟨gs, gr⟩ := hG
  have c3 : w.cell? ⟨g, o + 3, none⟩ = some (.int .u8 (at_ l 3)) := by
    obtain ⟨g', o', hA', -, hc⟩ := hr.2 (by have := hn.out; omega)
    injection hA' with hA'
    injection hA' with h1 h2
    subst h1; subst h2
    exact hc 3 (by have := hn.out; omega)
  have e3 : IntKind.i8.wrap (at_ l 3) = s8 (at_ l 3) := rfl
  obtain ⟨t0, t1⟩ := s8_range (at_ l 3)
  generalize s8 (at_ l 3) = t at e3 t0 t1 ⊢
  obtain ⟨z0, z1⟩ := hr.1.at_ 3
  generalize at_ l 3 = z at *
  have hR : Rd w.drew (some ⟨g, o + 1, none⟩) (l.drop 1) := hr.cut 1
  have hq : (l.drop 1).length = n - 1 := by rw [List.length_drop, hn.out]
  have HQ := Lib.hid hq
  clear hq
  have hd : be2 (l.drop 1) 0 = (m : Int) := by rw [be2_drop, hv]
  have HD := Lib.hid hd
  clear hd hv
  have i5 : (1 : Int) ≤ (n : Int) := by omega
  have i6 : (n : Int) ≤ (c : Int) := by omega
  have i7 : (1 : Int) ≤ (c : Int) := by omega
  have ec1 : ¬ c = 1 := by omega
  have vm : IntKind.i64.wrap (m : Int) = m := IntWalk.i64_in _ (by omega)
  have x0 : (m == 0) = false := by simp; omega
  have x1 : ((m : Int) == 0) = false := by simp; omega
  have vs : IntKind.i64.wrap ((4 : Int) + m) = (4 : Int) + m := IntWalk.i64_in _ (by omega)
  have vt : ((4 : Int) + m).toNat = m + 4 := by omega
  have i1 : ((n - 4 : Nat) : Int) < m := by omega
  go_enter Tryd.func123, Tryd.ntmps123
  go_wp2_with fail
  go_region_held3 (fun w' => True) (trivial) ((go_at_call 105; (refine (u16_c _ _ _ _ (l.drop 1) _ hR HQ.out (by omega)).mono ?_); rintro e w1 ⟨rfl, hb1⟩; rw [HD.out]; have hb1 := ((Below.refl w.heap.size w).drew).trans hb1; have gs1 := (HG.out.mono hb1).1; have lw1 := hb1.size; have c3x : w1.cell? ⟨g, o + 3, none⟩ = some (.int .u8 z) := (hb1.cell (p := ⟨g, o + 3, none⟩) hg).trans c3))
  all_goals
    go_wp2_with fail
  all_goals try (go_quiet (fail); go_wp2_with fail)
  all_goals
    ((try simp only [Exit.inBlock, Exit.then]); refine bodyPost_ret (results_tmp4 rfl _ _ _) rfl ?_)
    exact ⟨_, _, _, _, _, _, rfl, by (first | exact hb1 | exact Below.refl _ _ | exact below_drewN (Below.refl _ _) _ | exact below_drewN hb1 _)⟩

set_option maxHeartbeats 2000000 in
set_option maxRecDepth 100000 in
theorem re_200_whole (g o n c : Nat) (l : List Int) (w : World) (hr : Rd w (some ⟨g, o, none⟩) l) (hn : Hid (l.length = n)) (hnc : n ≤ c) (hm : c ≤ 9223372036854775807) (hg : g < w.heap.size) (hG : Glob w) (hs : 4 ≤ n) (m : Nat) (hz : 0 < m) (hwh : m + 4 ≤ n) (hmb : m ≤ 4294967295) (hv : be2 l 1 = (m : Int)) (c0 : w.cell? ⟨g, o, none⟩ = some (.int .u8 200)) :
    Calls Tryd.prog 123 #[.slice (some ⟨g, o, none⟩) n c] w (RetE w (s8 (at_ l 3)) ((l.drop 4).take m) (n - (m + 4))) := by
  have HG : Hid (Glob w) := hG
  have hA : ∀ (W : World) (o' : Obj) (j : Nat), g < W.heap.size → (W.alloc o').cell? ⟨g, j, none⟩ = W.cell? ⟨g, j, none⟩ := fun W o' j h => World.cell?_alloc_lt W o' ⟨g, j, none⟩ h
  obtain ⟨gs, gr⟩ := hG
  have c3 : w.cell? ⟨g, o + 3, none⟩ = some (.int .u8 (at_ l 3)) := by
    obtain ⟨g', o', hA', -, hc⟩ := hr.2 (by have := hn.out; omega)
    injection hA' with hA'
    injection hA' with h1 h2
    subst h1; subst h2
    exact hc 3 (by have := hn.out; omega)
  have e3 : IntKind.i8.wrap (at_ l 3) = s8 (at_ l 3) := rfl
  obtain ⟨t0, t1⟩ := s8_range (at_ l 3)
  generalize s8 (at_ l 3) = t at e3 t0 t1 ⊢
  obtain ⟨z0, z1⟩ := hr.1.at_ 3
  generalize at_ l 3 = z at *
  have hR : Rd w.drew (some ⟨g, o + 1, none⟩) (l.drop 1) := hr.cut 1
  have hq : (l.drop 1).length = n - 1 := by rw [List.length_drop, hn.out]
  have HQ := Lib.hid hq
  clear hq
  have hd : be2 (l.drop 1) 0 = (m : Int) := by rw [be2_drop, hv]
  have HD := Lib.hid hd
  clear hd hv
  have i5 : (1 : Int) ≤ (n : Int) := by omega
  have i6 : (n : Int) ≤ (c : Int) := by omega
  have i7 : (1 : Int) ≤ (c : Int) := by omega
  have ec1 : ¬ c = 1 := by omega
  have vm : IntKind.i64.wrap (m : Int) = m := IntWalk.i64_in _ (by omega)
  have x0 : (m == 0) = false := by simp; omega
  have x1 : ((m : Int) == 0) = false := by simp; omega
  have vs : IntKind.i64.wrap ((4 : Int) + m) = (4 : Int) + m := IntWalk.i64_in _ (by omega)
  have vt : ((4 : Int) + m).toNat = m + 4 := by omega
  have i1 : ¬ ((n - 4 : Nat) : Int) < m := by omega
  have i2 : (4 : Int) + m ≤ n := by omega
  have i3 : (4 : Int) + m ≤ c := by omega
  have i4 : (4 : Int) ≤ (4 : Int) + m := by omega
  have ec : ¬ c = 4 := by omega
  have hrk := hr.cutTake 4 m
  go_enter Tryd.func123, Tryd.ntmps123
  go_wp2_with fail
  go_region_held3 (fun w' => True) (trivial) ((go_at_call 105; (refine (u16_c _ _ _ _ (l.drop 1) _ hR HQ.out (by omega)).mono ?_); rintro e w1 ⟨rfl, hb1⟩; rw [HD.out]; have hb1 := ((Below.refl w.heap.size w).drew).trans hb1; have gs1 := (HG.out.mono hb1).1; have lw1 := hb1.size; have c3x : w1.cell? ⟨g, o + 3, none⟩ = some (.int .u8 z) := (hb1.cell (p := ⟨g, o + 3, none⟩) hg).trans c3))
  all_goals
    go_wp2_with fail
  all_goals try (go_quiet (fail); go_wp2_with fail)
  all_goals
    ((try simp only [Exit.inBlock, Exit.then]); refine bodyPost_ret (results_tmp4 rfl _ _ _) rfl ?_)
    exact retE_mk (by have := hn.out; simp <;> omega) ((hrk.mono hb1).drewN _) (by (first | exact hb1 | exact Below.refl _ _ | exact below_drewN (Below.refl _ _) _ | exact below_drewN hb1 _))

set_option maxHeartbeats 2000000 in
set_option maxRecDepth 100000 in
theorem re_201_none (g o n c : Nat) (l : List Int) (w : World) (hr : Rd w (some ⟨g, o, none⟩) l) (hn : Hid (l.length = n)) (hnc : n ≤ c) (hm : c ≤ 9223372036854775807) (hg : g < w.heap.size) (hG : Glob w) (hs : 3 ≤ n) (hs2 : n < 6) (c0 : w.cell? ⟨g, o, none⟩ = some (.int .u8 201)) :
    Calls Tryd.prog 123 #[.slice (some ⟨g, o, none⟩) n c] w (RetX w .short) := by
  have HG : Hid (Glob w) := hG
  have hA : ∀ (W : World) (o' : Obj) (j : Nat), g < W.heap.size → (W.alloc o').cell? ⟨g, j, none⟩ = W.cell? ⟨g, j, none⟩ := fun W o' j h => World.cell?_alloc_lt W o' ⟨g, j, none⟩ h
  obtain ⟨gs, gr⟩ := hG
  go_enter Tryd.func123, Tryd.ntmps123
  go_wp2_with fail
  all_goals try (go_quiet (fail); go_wp2_with fail)
  all_goals
    ((try simp only [Exit.inBlock, Exit.then]); refine bodyPost_ret (results_tmp4 rfl _ _ _) rfl ?_)
    exact ⟨_, _, _, _, _, _, rfl, by first | exact Below.refl _ _ | exact below_drewN (Below.refl _ _) _ | assumption⟩

set_option maxHeartbeats 2000000 in
set_option maxRecDepth 100000 in
theorem re_201_zero (g o n c : Nat) (l : List Int) (w : World) (hr : Rd w (some ⟨g, o, none⟩) l) (hn : Hid (l.length = n)) (hnc : n ≤ c) (hm : c ≤ 9223372036854775807) (hg : g < w.heap.size) (hG : Glob w) (hs : 6 ≤ n) (m : Nat) (hz : m = 0) (hmb : m ≤ 4294967295) (hv : be4 l 1 = (m : Int)) (c0 : w.cell? ⟨g, o, none⟩ = some (.int .u8 201)) :
    Calls Tryd.prog 123 #[.slice (some ⟨g, o, none⟩) n c] w (RetE w (s8 (at_ l 5)) [] (n - 6)) := by
  have HG : Hid (Glob w) := hG
  have hA : ∀ (W : World) (o' : Obj) (j : Nat), g < W.heap.size → (W.alloc o').cell? ⟨g, j, none⟩ = W.cell? ⟨g, j, none⟩ := fun W o' j h => World.cell?_alloc_lt W o' ⟨g, j, none⟩ h
  obtain ⟨gs, gr⟩ := hG
  have c5 : w.cell? ⟨g, o + 5, none⟩ = some (.int .u8 (at_ l 5)) := by
    obtain ⟨g', o', hA', -, hc⟩ := hr.2 (by have := hn.out; omega)
    injection hA' with hA'
    injection hA' with h1 h2
    subst h1; subst h2
    exact hc 5 (by have := hn.out; omega)
  have e3 : IntKind.i8.wrap (at_ l 5) = s8 (at_ l 5) := rfl
  obtain ⟨t0, t1⟩ := s8_range (at_ l 5)
  generalize s8 (at_ l 5) = t at e3 t0 t1 ⊢
  obtain ⟨z0, z1⟩ := hr.1.at_ 5
  generalize at_ l 5 = z at *
  have hR : Rd w.drew (some ⟨g, o + 1, none⟩) (l.drop 1) := hr.cut 1
  have hq : (l.drop 1).length = n - 1 := by rw [List.length_drop, hn.out]
  have HQ := Lib.hid hq
  clear hq
  have hd : be4 (l.drop 1) 0 = (m : Int) := by rw [be4_drop, hv]
  have HD := Lib.hid hd
  clear hd hv
  have i5 : (1 : Int) ≤ (n : Int) := by omega
  have i6 : (n : Int) ≤ (c : Int) := by omega
  have i7 : (1 : Int) ≤ (c : Int) := by omega
  have ec1 : ¬ c = 1 := by omega
  have vm : IntKind.i64.wrap (m : Int) = m := IntWalk.i64_in _ (by omega)
  have x0 : (m == 0) = true := by simp; omega
  have x1 : ((m : Int) == 0) = true := by simp; omega
  have vs : IntKind.i64.wrap ((6 : Int) + m) = (6 : Int) + m := IntWalk.i64_in _ (by omega)
  have vt : ((6 : Int) + m).toNat = m + 6 := by omega
  subst hz
  go_enter Tryd.func123, Tryd.ntmps123
  go_wp2_with fail
  go_region_held3 (fun w' => True) (trivial) ((go_at_call 106; (refine (u32_c _ _ _ _ (l.drop 1) _ hR HQ.out (by omega)).mono ?_); rintro e w1 ⟨rfl, hb1⟩; rw [HD.out]; have hb1 := ((Below.refl w.heap.size w).drew).trans hb1; have gs1 := (HG.out.mono hb1).1; have lw1 := hb1.size; have c5x : w1.cell? ⟨g, o + 5, none⟩ = some (.int .u8 z) := (hb1.cell (p := ⟨g, o + 5, none⟩) hg).trans c5))
  all_goals
    go_wp2_with fail
  all_goals try (go_quiet (fail); go_wp2_with fail)
  all_goals
    ((try simp only [Exit.inBlock, Exit.then]); refine bodyPost_ret (results_tmp4 rfl _ _ _) rfl ?_)
    exact retE_mk rfl (Rd.nil _ _) (by (first | exact hb1 | exact Below.refl _ _ | exact below_drewN (Below.refl _ _) _ | exact below_drewN hb1 _))

set_option maxHeartbeats 2000000 in
set_option maxRecDepth 100000 in
theorem re_201_short (g o n c : Nat) (l : List Int) (w : World) (hr : Rd w (some ⟨g, o, none⟩) l) (hn : Hid (l.length = n)) (hnc : n ≤ c) (hm : c ≤ 9223372036854775807) (hg : g < w.heap.size) (hG : Glob w) (hs : 6 ≤ n) (m : Nat) (hz : 0 < m) (hsh : n < m + 6) (hmb : m ≤ 4294967295) (hv : be4 l 1 = (m : Int)) (c0 : w.cell? ⟨g, o, none⟩ = some (.int .u8 201)) :
    Calls Tryd.prog 123 #[.slice (some ⟨g, o, none⟩) n c] w (RetX w .short) := by
  have HG : Hid (Glob w) := hG
  have hA : ∀ (W : World) (o' : Obj) (j : Nat), g < W.heap.size → (W.alloc o').cell? ⟨g, j, none⟩ = W.cell? ⟨g, j, none⟩ := fun W o' j h => World.cell?_alloc_lt W o' ⟨g, j, none⟩ h
  obtain ⟨gs, gr⟩ := hG
  have c5 : w.cell? ⟨g, o + 5, none⟩ = some (.int .u8 (at_ l 5)) := by
    obtain ⟨g', o', hA', -, hc⟩ := hr.2 (by have := hn.out; omega)
    injection hA' with hA'
    injection hA' with h1 h2
    subst h1; subst h2
    exact hc 5 (by have := hn.out; omega)
  have e3 : IntKind.i8.wrap (at_ l 5) = s8 (at_ l 5) := rfl
  obtain ⟨t0, t1⟩ := s8_range (at_ l 5)
  generalize s8 (at_ l 5) = t at e3 t0 t1 ⊢
  obtain ⟨z0, z1⟩ := hr.1.at_ 5
  generalize at_ l 5 = z at *
  have hR : Rd w.drew (some ⟨g, o + 1, none⟩) (l.drop 1) := hr.cut 1
  have hq : (l.drop 1).length = n - 1 := by rw [List.length_drop, hn.out]
  have HQ := Lib.hid hq
  clear hq
  have hd : be4 (l.drop 1) 0 = (m : Int) := by rw [be4_drop, hv]
  have HD := Lib.hid hd
  clear hd hv
  have i5 : (1 : Int) ≤ (n : Int) := by omega
  have i6 : (n : Int) ≤ (c : Int) := by omega
  have i7 : (1 : Int) ≤ (c : Int) := by omega
  have ec1 : ¬ c = 1 := by omega
  have vm : IntKind.i64.wrap (m : Int) = m := IntWalk.i64_in _ (by omega)
  have x0 : (m == 0) = false := by simp; omega
  have x1 : ((m : Int) == 0) = false := by simp; omega
  have vs : IntKind.i64.wrap ((6 : Int) + m) = (6 : Int) + m := IntWalk.i64_in _ (by omega)
  have vt : ((6 : Int) + m).toNat = m + 6 := by omega
  have i1 : ((n - 6 : Nat) : Int) < m := by omega
  go_enter Tryd.func123, Tryd.ntmps123
  go_wp2_with fail
  go_region_held3 (fun w' => True) (trivial) ((go_at_call 106; (refine (u32_c _ _ _ _ (l.drop 1) _ hR HQ.out (by omega)).mono ?_); rintro e w1 ⟨rfl, hb1⟩; rw [HD.out]; have hb1 := ((Below.refl w.heap.size w).drew).trans hb1; have gs1 := (HG.out.mono hb1).1; have lw1 := hb1.size; have c5x : w1.cell? ⟨g, o + 5, none⟩ = some (.int .u8 z) := (hb1.cell (p := ⟨g, o + 5, none⟩) hg).trans c5))
  all_goals
    go_wp2_with fail
  all_goals try (go_quiet (fail); go_wp2_with fail)
  all_goals
    ((try simp only [Exit.inBlock, Exit.then]); refine bodyPost_ret (results_tmp4 rfl _ _ _) rfl ?_)
    exact ⟨_, _, _, _, _, _, rfl, by (first | exact hb1 | exact Below.refl _ _ | exact below_drewN (Below.refl _ _) _ | exact below_drewN hb1 _)⟩

set_option maxHeartbeats 2000000 in
set_option maxRecDepth 100000 in
theorem re_201_whole (g o n c : Nat) (l : List Int) (w : World) (hr : Rd w (some ⟨g, o, none⟩) l) (hn : Hid (l.length = n)) (hnc : n ≤ c) (hm : c ≤ 9223372036854775807) (hg : g < w.heap.size) (hG : Glob w) (hs : 6 ≤ n) (m : Nat) (hz : 0 < m) (hwh : m + 6 ≤ n) (hmb : m ≤ 4294967295) (hv : be4 l 1 = (m : Int)) (c0 : w.cell? ⟨g, o, none⟩ = some (.int .u8 201)) :
    Calls Tryd.prog 123 #[.slice (some ⟨g, o, none⟩) n c] w (RetE w (s8 (at_ l 5)) ((l.drop 6).take m) (n - (m + 6))) := by
  have HG : Hid (Glob w) := hG
  have hA : ∀ (W : World) (o' : Obj) (j : Nat), g < W.heap.size → (W.alloc o').cell? ⟨g, j, none⟩ = W.cell? ⟨g, j, none⟩ := fun W o' j h => World.cell?_alloc_lt W o' ⟨g, j, none⟩ h
  obtain ⟨gs, gr⟩ := hG
  have c5 : w.cell? ⟨g, o + 5, none⟩ = some (.int .u8 (at_ l 5)) := by
    obtain ⟨g', o', hA', -, hc⟩ := hr.2 (by have := hn.out; omega)
    injection hA' with hA'
    injection hA' with h1 h2
    subst h1; subst h2
    exact hc 5 (by have := hn.out; omega)
  have e3 : IntKind.i8.wrap (at_ l 5) = s8 (at_ l 5) := rfl
  obtain ⟨t0, t1⟩ := s8_range (at_ l 5)
  generalize s8 (at_ l 5) = t at e3 t0 t1 ⊢
  obtain ⟨z0, z1⟩ := hr.1.at_ 5
  generalize at_ l 5 = z at *
  have hR : Rd w.drew (some ⟨g, o + 1, none⟩) (l.drop 1) := hr.cut 1
  have hq : (l.drop 1).length = n - 1 := by rw [List.length_drop, hn.out]
  have HQ := Lib.hid hq
  clear hq
  have hd : be4 (l.drop 1) 0 = (m : Int) := by rw [be4_drop, hv]
  have HD := Lib.hid hd
  clear hd hv
  have i5 : (1 : Int) ≤ (n : Int) := by omega
  have i6 : (n : Int) ≤ (c : Int) := by omega
  have i7 : (1 : Int) ≤ (c : Int) := by omega
  have ec1 : ¬ c = 1 := by omega
  have vm : IntKind.i64.wrap (m : Int) = m := IntWalk.i64_in _ (by omega)
  have x0 : (m == 0) = false := by simp; omega
  have x1 : ((m : Int) == 0) = false := by simp; omega
  have vs : IntKind.i64.wrap ((6 : Int) + m) = (6 : Int) + m := IntWalk.i64_in _ (by omega)
  have vt : ((6 : Int) + m).toNat = m + 6 := by omega
  have i1 : ¬ ((n - 6 : Nat) : Int) < m := by omega
  have i2 : (6 : Int) + m ≤ n := by omega
  have i3 : (6 : Int) + m ≤ c := by omega
  have i4 : (6 : Int) ≤ (6 : Int) + m := by omega
  have ec : ¬ c = 6 := by omega
  have hrk := hr.cutTake 6 m
  go_enter Tryd.func123, Tryd.ntmps123
  go_wp2_with fail
  go_region_held3 (fun w' => True) (trivial) ((go_at_call 106; (refine (u32_c _ _ _ _ (l.drop 1) _ hR HQ.out (by omega)).mono ?_); rintro e w1 ⟨rfl, hb1⟩; rw [HD.out]; have hb1 := ((Below.refl w.heap.size w).drew).trans hb1; have gs1 := (HG.out.mono hb1).1; have lw1 := hb1.size; have c5x : w1.cell? ⟨g, o + 5, none⟩ = some (.int .u8 z) := (hb1.cell (p := ⟨g, o + 5, none⟩) hg).trans c5))
  all_goals
    go_wp2_with fail
  all_goals try (go_quiet (fail); go_wp2_with fail)
  all_goals
    ((try simp only [Exit.inBlock, Exit.then]); refine bodyPost_ret (results_tmp4 rfl _ _ _) rfl ?_)
    exact retE_mk (by have := hn.out; simp <;> omega) ((hrk.mono hb1).drewN _) (by (first | exact hb1 | exact Below.refl _ _ | exact below_drewN (Below.refl _ _) _ | exact below_drewN hb1 _))

set_option maxHeartbeats 1000000 in
set_option maxRecDepth 100000 in
theorem re_tiny (A : Option Addr) (n c : Nat) (w : World) (hG : Glob w) (hs : n < 3) : Calls Tryd.prog 123 #[.slice A n c] w (RetX w .short) := by
  obtain ⟨gs, gr⟩ := hG
  go_enter Tryd.func123, Tryd.ntmps123
  go_wp2_with fail
  all_goals try (go_quiet (fail); go_wp2_with fail)
  all_goals
    ((try simp only [Exit.inBlock, Exit.then]); refine bodyPost_ret (results_tmp4 rfl _ _ _) rfl ?_)
    exact ⟨_, _, _, _, _, _, rfl, by first | exact Below.refl _ _ | exact below_drewN (Below.refl _ _) _ | assumption⟩

/-- The data behind what stands ahead, the rest; or an error. -/
def bodyE (l : List Int) (t : Int) (k m : Nat) : Except Er (Int × List Int × Nat) := if l.length < m + k then .error .short else .ok (t, (l.drop k).take m, l.length - (m + k))
/-- The type, the data, what is left; or an error. -/
def extR (l : List Int) : Except Er (Int × List Int × Nat) :=
  if l.length < 3 then .error .short else
  if at_ l 0 = 212 then bodyE l (s8 (at_ l 1)) 2 1 else
  if at_ l 0 = 213 then bodyE l (s8 (at_ l 1)) 2 2 else
  if at_ l 0 = 214 then bodyE l (s8 (at_ l 1)) 2 4 else
  if at_ l 0 = 215 then bodyE l (s8 (at_ l 1)) 2 8 else
  if at_ l 0 = 216 then bodyE l (s8 (at_ l 1)) 2 16 else
  if at_ l 0 = 199 then bodyE l (s8 (at_ l 2)) 3 (at_ l 1).toNat else
  if at_ l 0 = 200 then (if l.length < 4 then .error .short else bodyE l (s8 (at_ l 3)) 4 (be2 l 1).toNat) else
  if at_ l 0 = 201 then (if l.length < 6 then .error .short else bodyE l (s8 (at_ l 5)) 6 (be4 l 1).toNat) else
  .error (bp 12 (at_ l 0))
/-- 'The call answers what extR says.' -/
def RetEX (w : World) (x : Except Er (Int × List Int × Nat)) (e : Ending) (w' : World) : Prop := (∃ t d k, x = .ok (t, d, k) ∧ RetE w t d k e w') ∨ (∃ r, x = .error r ∧ r.code ≠ 0 ∧ RetX w r e w')
theorem bp_code (m c : Int) : (bp m c).code ≠ 0 := by unfold bp; split <;> simp [Er.code]
theorem retEX_err {w : World} {x : Except Er (Int × List Int × Nat)} {r : Er} (hx : x = .error r) (hr : r.code ≠ 0) {f : FuncId} {a : Array Value} (h : Calls Tryd.prog f a w (RetX w r)) : Calls Tryd.prog f a w (RetEX w x) := h.mono fun _ _ h => .inr ⟨r, hx, hr, h⟩
theorem retEX_ok {w : World} {x : Except Er (Int × List Int × Nat)} {t : Int} {d : List Int} {k : Nat} (hx : x = .ok (t, d, k)) {f : FuncId} {a : Array Value} (h : Calls Tryd.prog f a w (RetE w t d k)) : Calls Tryd.prog f a w (RetEX w x) := h.mono fun _ _ h => .inl ⟨t, d, k, hx, h⟩
theorem bodyE_short {l : List Int} {t : Int} {k m : Nat} (h : l.length < m + k) : bodyE l t k m = .error .short := by unfold bodyE; rw [if_pos h]
theorem bodyE_ok {l : List Int} {t : Int} {k m n : Nat} (hn : l.length = n) (h : ¬ n < m + k) : bodyE l t k m = .ok (t, (l.drop k).take m, n - (m + k)) := by unfold bodyE; rw [hn, if_neg h]

theorem re_c (A : Option Addr) (n c : Nat) (l : List Int) (w : World) (hr : Rd w A l) (hn : l.length = n) (hnc : n ≤ c) (hm : c ≤ maxLen) (hG : Glob w) :
    Calls Tryd.prog 123 #[.slice A n c] w (RetEX w (extR l)) := by
  have hm' : c ≤ 9223372036854775807 := by simp only [maxLen] at hm; omega
  have HN : Hid (l.length = n) := hn
  unfold extR
  rw [hn]
  by_cases h3 : n < 3
  · rw [if_pos h3]; exact retEX_err rfl (by decide) (re_tiny A n c w hG h3)
  rw [if_neg h3]
  obtain ⟨g, o, rfl, hg, -, hc⟩ := hr.open_ (by omega)
  have c0 := hc 0 (by omega)
  rw [Nat.add_zero] at c0
  have hb := hr.1.at_ 0
  have hb1 := hr.1.at_ 1
  have hb2 := be2_range hr.1 1
  have hb4 := be4_range hr.1 1
  by_cases h212 : at_ l 0 = 212
  · rw [if_pos h212]
    rw [h212] at c0
    by_cases hs : n < 3
    · exact retEX_err (bodyE_short (by omega)) (by decide) (re_212_short g o n c l w hr HN hnc hm' hg hG (by omega) (by omega) c0)
    · exact retEX_ok (bodyE_ok hn (by omega)) (re_212_whole g o n c l w hr HN hnc hm' hg hG (by omega) c0)
  rw [if_neg h212]
  by_cases h213 : at_ l 0 = 213
  · rw [if_pos h213]
    rw [h213] at c0
    by_cases hs : n < 4
    · exact retEX_err (bodyE_short (by omega)) (by decide) (re_213_short g o n c l w hr HN hnc hm' hg hG (by omega) (by omega) c0)
    · exact retEX_ok (bodyE_ok hn (by omega)) (re_213_whole g o n c l w hr HN hnc hm' hg hG (by omega) c0)
  rw [if_neg h213]
  by_cases h214 : at_ l 0 = 214
  · rw [if_pos h214]
    rw [h214] at c0
    by_cases hs : n < 6
    · exact retEX_err (bodyE_short (by omega)) (by decide) (re_214_short g o n c l w hr HN hnc hm' hg hG (by omega) (by omega) c0)
    · exact retEX_ok (bodyE_ok hn (by omega)) (re_214_whole g o n c l w hr HN hnc hm' hg hG (by omega) c0)
  rw [if_neg h214]
  by_cases h215 : at_ l 0 = 215
  · rw [if_pos h215]
    rw [h215] at c0
    by_cases hs : n < 10
    · exact retEX_err (bodyE_short (by omega)) (by decide) (re_215_short g o n c l w hr HN hnc hm' hg hG (by omega) (by omega) c0)
    · exact retEX_ok (bodyE_ok hn (by omega)) (re_215_whole g o n c l w hr HN hnc hm' hg hG (by omega) c0)
  rw [if_neg h215]
  by_cases h216 : at_ l 0 = 216
  · rw [if_pos h216]
    rw [h216] at c0
    by_cases hs : n < 18
    · exact retEX_err (bodyE_short (by omega)) (by decide) (re_216_short g o n c l w hr HN hnc hm' hg hG (by omega) (by omega) c0)
    · exact retEX_ok (bodyE_ok hn (by omega)) (re_216_whole g o n c l w hr HN hnc hm' hg hG (by omega) c0)
  rw [if_neg h216]
  by_cases h199 : at_ l 0 = 199
  · rw [if_pos h199]
    rw [h199] at c0
    obtain ⟨m, hv⟩ := Int.eq_ofNat_of_zero_le (show 0 ≤ at_ l 1 by omega)
    rw [hv, Int.toNat_natCast]
    by_cases hz : m = 0
    · have h := retEX_ok rfl (re_199_zero g o n c l w hr HN hnc hm' hg hG (by omega) m hz (by omega) hv c0)
      subst hz
      rw [bodyE_ok hn (by omega)]
      simpa using h
    by_cases hs : n < m + 3
    · exact retEX_err (bodyE_short (by omega)) (by decide) (re_199_short g o n c l w hr HN hnc hm' hg hG (by omega) m (by omega) hs (by omega) hv c0)
    · exact retEX_ok (bodyE_ok hn hs) (re_199_whole g o n c l w hr HN hnc hm' hg hG (by omega) m (by omega) (by omega) (by omega) hv c0)
  rw [if_neg h199]
  by_cases h200 : at_ l 0 = 200
  · rw [if_pos h200]
    rw [h200] at c0
    by_cases hs0 : n < 4
    · rw [if_pos hs0]; exact retEX_err rfl (by decide) (re_200_none g o n c l w hr HN hnc hm' hg hG (by omega) hs0 c0)
    rw [if_neg hs0]
    obtain ⟨m, hv⟩ := Int.eq_ofNat_of_zero_le (show 0 ≤ be2 l 1 by omega)
    rw [hv, Int.toNat_natCast]
    by_cases hz : m = 0
    · have h := retEX_ok rfl (re_200_zero g o n c l w hr HN hnc hm' hg hG (by omega) m hz (by omega) hv c0)
      subst hz
      rw [bodyE_ok hn (by omega)]
      simpa using h
    by_cases hs : n < m + 4
    · exact retEX_err (bodyE_short (by omega)) (by decide) (re_200_short g o n c l w hr HN hnc hm' hg hG (by omega) m (by omega) hs (by omega) hv c0)
    · exact retEX_ok (bodyE_ok hn hs) (re_200_whole g o n c l w hr HN hnc hm' hg hG (by omega) m (by omega) (by omega) (by omega) hv c0)
  rw [if_neg h200]
  by_cases h201 : at_ l 0 = 201
  · rw [if_pos h201]
    rw [h201] at c0
    by_cases hs0 : n < 6
    · rw [if_pos hs0]; exact retEX_err rfl (by decide) (re_201_none g o n c l w hr HN hnc hm' hg hG (by omega) hs0 c0)
    rw [if_neg hs0]
    obtain ⟨m, hv⟩ := Int.eq_ofNat_of_zero_le (show 0 ≤ be4 l 1 by omega)
    rw [hv, Int.toNat_natCast]
    by_cases hz : m = 0
    · have h := retEX_ok rfl (re_201_zero g o n c l w hr HN hnc hm' hg hG (by omega) m hz (by omega) hv c0)
      subst hz
      rw [bodyE_ok hn (by omega)]
      simpa using h
    by_cases hs : n < m + 6
    · exact retEX_err (bodyE_short (by omega)) (by decide) (re_201_short g o n c l w hr HN hnc hm' hg hG (by omega) m (by omega) hs (by omega) hv c0)
    · exact retEX_ok (bodyE_ok hn hs) (re_201_whole g o n c l w hr HN hnc hm' hg hG (by omega) m (by omega) (by omega) (by omega) hv c0)
  rw [if_neg h201]
  exact retEX_err rfl (bp_code _ _) (re_other g o n c l w hr HN hnc hm' hg hG (by omega) _ hb.1 hb.2 (by omega) (by omega) c0)

end Go.Proofs.YtpmdlbbgljcloaaDoor
