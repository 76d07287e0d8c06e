/- msgp's ReadStringZC, and the thin package's ReadText, walked. Conditions: the slice reads as bytes; the two sentinels' variables hold what the program lays in them. -/
import Derived.Test.YtpmdlbbgljcloaaDoorRead
import Derived.Test.YtpmdlbbgljcloaaDoorInts
import Derived.Test.YtpmdlbbgljcloaaDoorSame
namespace Go.Proofs.YtpmdlbbgljcloaaDoor
open Go Go.RowKit Go.Lib
set_option linter.unusedVariables false

theorem last5 (x : Int) (h0 : 0 ≤ x) (h1 : x < 256) : bits .and .u8 x 31 = x % 32 := by
  rw [u8_and x 31 h0 h1 (by omega) (by omega)]
  show ((x.toNat &&& 31 : Nat) : Int) = x % 32
  rw [nat_mask5]
  omega

set_option maxHeartbeats 1000000 in
set_option maxRecDepth 100000 in
theorem getType_c (c : Int) (w : World) (h0 : 0 ≤ c) (h1 : c < 256) : Calls Tryd.prog 112 #[.int .u8 c] w fun e w' => e = .returned (.int .u8 (bty c)) ∧ Below w.heap.size w w' := by
  have hf := field_typ c
  go_enter Tryd.func112, Tryd.ntmps112
  go_wp2_with (go_at_call 136; refine (getBytespec_c _ _ h0 h1).mono ?_; rintro e w' ⟨rfl, rfl⟩)
  go_ret
  exact ⟨rfl, by repeat (first | exact Below.refl _ _ | (refine Below.alloc ?_ (by simp <;> omega) _))⟩

/-- 'The call answers bytes that read l, a rest of k bytes, and this error.' -/
def RetZ (w : World) (l : List Int) (k : Nat) (x : Er) (e : Ending) (w' : World) : Prop := ∃ A c B d, e = .returned (.tuple #[.slice A l.length c, .slice B k d, x.val]) ∧ Rd w' A l ∧ Below w.heap.size w w'

theorem retZ_mk {w w' : World} {l : List Int} {k : Nat} {x : Er} {A B : Option Addr} {c d m : Nat} (hm : l.length = m) (hr : Rd w' A l) (hb : Below w.heap.size w w') : RetZ w l k x (.returned (.tuple #[.slice A m c, .slice B k d, x.val])) w' := by
  subst hm; exact ⟨_, _, _, _, rfl, hr, hb⟩

/-- What stands ahead: its size, the length, the error. -/
def strH (l : List Int) : Nat × Int × Er :=
  if l.length = 0 then (0, 0, .short) else
  if 160 ≤ at_ l 0 ∧ at_ l 0 < 192 then (1, at_ l 0 % 32, .ok) else
  if at_ l 0 = 217 then (if l.length < 2 then (0, 0, .short) else (2, at_ l 1, .ok)) else
  if at_ l 0 = 218 then (if l.length < 3 then (0, 0, .short) else (3, be2 l 1, .ok)) else
  if at_ l 0 = 219 then (if l.length < 5 then (0, 0, .short) else (5, be4 l 1, .ok)) else
  (0, 0, .type 1 (bty (at_ l 0)))
/-- The bytes behind what stands ahead, what is left, the error. -/
def bodyOf (l : List Int) (h : Nat × Int × Er) : List Int × Nat × Er :=
  if h.2.2.code = 0 then (if (l.length : Int) - h.1 < h.2.1 then ([], 0, .short) else ((l.drop h.1).take h.2.1.toNat, l.length - h.1 - h.2.1.toNat, .ok)) else ([], 0, h.2.2)
def rdStr (l : List Int) : List Int × Nat × Er := bodyOf l (strH l)
theorem bodyOf_err (l : List Int) (k : Nat) (x : Int) (r : Er) (h : r.code ≠ 0) : bodyOf l (k, x, r) = ([], 0, r) := by simp only [bodyOf]; rw [if_neg h]
theorem bodyOf_short (l : List Int) (k : Nat) (x : Int) (h : (l.length : Int) - k < x) : bodyOf l (k, x, .ok) = ([], 0, .short) := by simp only [bodyOf]; rw [if_pos (by rfl), if_pos h]
theorem bodyOf_ok (l : List Int) (k : Nat) (x : Int) (h : ¬ (l.length : Int) - k < x) : bodyOf l (k, x, .ok) = ((l.drop k).take x.toNat, l.length - k - x.toNat, .ok) := by simp only [bodyOf]; rw [if_pos (by rfl), if_neg h]

set_option maxHeartbeats 1000000 in
set_option maxRecDepth 100000 in
theorem rs_other (g o n c : Nat) (l : List Int) (w : World) (hr : Rd w (some ⟨g, o, none⟩) l) (hn : Hid (l.length = n)) (hnc : n ≤ c) (hm : c ≤ 9223372036854775807) (hg : g < w.heap.size) (hG : Glob w) (hs : 1 ≤ n) (x : Int) (x0 : 0 ≤ x) (x1 : x < 256) (y0 : x < 160 ∨ 192 ≤ x) (y1 : x ≠ 217) (y2 : x ≠ 218) (y3 : x ≠ 219) (c0 : w.cell? ⟨g, o, none⟩ = some (.int .u8 x)) :
    Calls Tryd.prog 117 #[.slice (some ⟨g, o, none⟩) n c] w (RetZ w [] 0 (.type 1 (bty x))) := by
  have HG : Hid (Glob w) := hG
  have hA : ∀ (W : World) (o' : Obj) (j : Nat), g < W.heap.size → (W.alloc o').cell? ⟨g, j, none⟩ = W.cell? ⟨g, j, none⟩ := fun W o' j h => World.cell?_alloc_lt W o' ⟨g, j, none⟩ h
  obtain ⟨gs, gr⟩ := hG
  have e1 : (bits .and .u8 x 224 == 160) = false := by rw [and224 x (by omega) (by omega)]; simp; omega
  have e2 : (x == 217) = false := by simpa using y1
  have e3 : (x == 218) = false := by simpa using y2
  have e4 : (x == 219) = false := by simpa using y3
  clear y0 y1 y2 y3
  go_enter Tryd.func117, Tryd.ntmps117
  go_wp2_with (first | (go_at_call 112; refine (getType_c _ _ (by omega) (by omega)).mono ?_; rintro e w1 ⟨rfl, hb1⟩) | go_in)
  all_goals
    go_ret3
    exact ⟨_, _, _, _, rfl, Rd.nil _ _, by first | exact Below.refl _ _ | (refine below_via (Below.refl _ _) ?_; assumption) | assumption⟩

set_option maxHeartbeats 1000000 in
set_option maxRecDepth 100000 in
theorem rs_0_short (g o n c : Nat) (l : List Int) (w : World) (hr : Rd w (some ⟨g, o, none⟩) l) (hn : Hid (l.length = n)) (hnc : n ≤ c) (hm : c ≤ 9223372036854775807) (hg : g < w.heap.size) (hG : Glob w) (hs : 1 ≤ n) (x : Int) (x0 : 160 ≤ x) (x1 : x < 192) (c0 : w.cell? ⟨g, o, none⟩ = some (.int .u8 x)) (hv : (n : Int) - 1 < x % 32) :
    Calls Tryd.prog 117 #[.slice (some ⟨g, o, none⟩) n c] w (RetZ w [] 0 .short) := by
  have HG : Hid (Glob w) := hG
  have hA : ∀ (W : World) (o' : Obj) (j : Nat), g < W.heap.size → (W.alloc o').cell? ⟨g, j, none⟩ = W.cell? ⟨g, j, none⟩ := fun W o' j h => World.cell?_alloc_lt W o' ⟨g, j, none⟩ h
  obtain ⟨gs, gr⟩ := hG
  have e1 : (bits .and .u8 x 224 == 160) = true := by rw [and224 x (by omega) (by omega)]; simp; omega
  have e2 := last5 x (by omega) (by omega)
  have t0 : 0 ≤ x % 32 := by omega
  have t1 : x % 32 < 32 := by omega
  generalize x % 32 = t at *
  have hq : ((n - 1 : Nat) : Int) < t := by omega
  have hq2 : ((n - 1 - 0 : Nat) : Int) < t := by omega
  go_enter Tryd.func117, Tryd.ntmps117
  go_wp2_with (first | fail | go_in)
  all_goals
    go_ret3
    exact ⟨_, _, _, _, rfl, Rd.nil _ _, by first | exact Below.refl _ _ | assumption⟩

set_option maxHeartbeats 1000000 in
set_option maxRecDepth 100000 in
theorem rs_0_empty (g o n c : Nat) (l : List Int) (w : World) (hr : Rd w (some ⟨g, o, none⟩) l) (hn : Hid (l.length = n)) (hnc : n ≤ c) (hm : c ≤ 9223372036854775807) (hg : g < w.heap.size) (hG : Glob w) (hs : 1 ≤ n) (x : Int) (x0 : 160 ≤ x) (x1 : x < 192) (c0 : w.cell? ⟨g, o, none⟩ = some (.int .u8 x)) (hv : x % 32 = 0) :
    Calls Tryd.prog 117 #[.slice (some ⟨g, o, none⟩) n c] w (RetZ w [] (n - 1) .ok) := by
  have HG : Hid (Glob w) := hG
  have hA : ∀ (W : World) (o' : Obj) (j : Nat), g < W.heap.size → (W.alloc o').cell? ⟨g, j, none⟩ = W.cell? ⟨g, j, none⟩ := fun W o' j h => World.cell?_alloc_lt W o' ⟨g, j, none⟩ h
  obtain ⟨gs, gr⟩ := hG
  have e1 : (bits .and .u8 x 224 == 160) = true := by rw [and224 x (by omega) (by omega)]; simp; omega
  have e2 := last5 x (by omega) (by omega)
  have t0 : 0 ≤ x % 32 := by omega
  have t1 : x % 32 < 32 := by omega
  generalize x % 32 = t at *
  go_enter Tryd.func117, Tryd.ntmps117
  go_wp2_with (first | fail | go_in)
  all_goals
    go_ret3
    exact ⟨_, _, _, _, rfl, Rd.nil _ _, by first | exact Below.refl _ _ | assumption⟩

set_option maxHeartbeats 1000000 in
set_option maxRecDepth 100000 in
theorem rs_0_whole (g o n c : Nat) (l : List Int) (w : World) (hr : Rd w (some ⟨g, o, none⟩) l) (hn : Hid (l.length = n)) (hnc : n ≤ c) (hm : c ≤ 9223372036854775807) (hg : g < w.heap.size) (hG : Glob w) (hs : 1 ≤ n) (x : Int) (x0 : 160 ≤ x) (x1 : x < 192) (c0 : w.cell? ⟨g, o, none⟩ = some (.int .u8 x)) (hv0 : 0 < x % 32) (hv : x % 32 ≤ (n : Int) - 1) :
    Calls Tryd.prog 117 #[.slice (some ⟨g, o, none⟩) n c] w (RetZ w ((l.drop 1).take (x % 32).toNat) (n - 1 - (x % 32).toNat) .ok) := by
  have HG : Hid (Glob w) := hG
  have hA : ∀ (W : World) (o' : Obj) (j : Nat), g < W.heap.size → (W.alloc o').cell? ⟨g, j, none⟩ = W.cell? ⟨g, j, none⟩ := fun W o' j h => World.cell?_alloc_lt W o' ⟨g, j, none⟩ h
  obtain ⟨gs, gr⟩ := hG
  have e1 : (bits .and .u8 x 224 == 160) = true := by rw [and224 x (by omega) (by omega)]; simp; omega
  have e2 := last5 x (by omega) (by omega)
  have t0 : 0 ≤ x % 32 := by omega
  have t1 : x % 32 < 32 := by omega
  have ec : ¬ c = 1 := by omega
  generalize x % 32 = t at *
  go_enter Tryd.func117, Tryd.ntmps117
  go_wp2_with (first | fail | go_in)
  all_goals
    go_ret3
    exact retZ_mk (by have := hn.out; simp <;> omega) (by first | exact hr.cutTake 1 _ | simpa using hr.cutTake 1 _) (by first | exact Below.refl _ _ | assumption)

set_option maxHeartbeats 1000000 in
set_option maxRecDepth 100000 in
theorem rs_1_none (g o n c : Nat) (l : List Int) (w : World) (hr : Rd w (some ⟨g, o, none⟩) l) (hn : Hid (l.length = n)) (hnc : n ≤ c) (hm : c ≤ 9223372036854775807) (hg : g < w.heap.size) (hG : Glob w) (hs : 1 ≤ n) (hs2 : n < 2) (c0 : w.cell? ⟨g, o, none⟩ = some (.int .u8 217)) :
    Calls Tryd.prog 117 #[.slice (some ⟨g, o, none⟩) n c] w (RetZ w [] 0 .short) := by
  have HG : Hid (Glob w) := hG
  have hA : ∀ (W : World) (o' : Obj) (j : Nat), g < W.heap.size → (W.alloc o').cell? ⟨g, j, none⟩ = W.cell? ⟨g, j, none⟩ := fun W o' j h => World.cell?_alloc_lt W o' ⟨g, j, none⟩ h
  obtain ⟨gs, gr⟩ := hG
  go_enter Tryd.func117, Tryd.ntmps117
  go_wp2_with (first | fail | go_in)
  all_goals
    go_ret3
    exact ⟨_, _, _, _, rfl, Rd.nil _ _, by first | exact Below.refl _ _ | assumption⟩

set_option maxHeartbeats 1000000 in
set_option maxRecDepth 100000 in
theorem rs_1_short (g o n c : Nat) (l : List Int) (w : World) (hr : Rd w (some ⟨g, o, none⟩) l) (hn : Hid (l.length = n)) (hnc : n ≤ c) (hm : c ≤ 9223372036854775807) (hg : g < w.heap.size) (hG : Glob w) (hs : 2 ≤ n) (c0 : w.cell? ⟨g, o, none⟩ = some (.int .u8 217)) (hv : (n : Int) - 2 < at_ l 1) :
    Calls Tryd.prog 117 #[.slice (some ⟨g, o, none⟩) n c] w (RetZ w [] 0 .short) := by
  have HG : Hid (Glob w) := hG
  have hA : ∀ (W : World) (o' : Obj) (j : Nat), g < W.heap.size → (W.alloc o').cell? ⟨g, j, none⟩ = W.cell? ⟨g, j, none⟩ := fun W o' j h => World.cell?_alloc_lt W o' ⟨g, j, none⟩ h
  obtain ⟨gs, gr⟩ := hG
  obtain ⟨t0, t1⟩ := hr.1.at_ 1
  have c1 : w.cell? ⟨g, o + 1, none⟩ = some (.int .u8 (at_ l 1)) := by
    obtain ⟨g', o', hA', -, hc⟩ := hr.2 (by have := hn.out; omega)
    injection hA' with hA'
    injection hA' with h1 h2
    subst h1; subst h2
    exact hc 1 (by have := hn.out; omega)
  have ec : ¬ c = 1 := by omega
  generalize at_ l 1 = t at *
  have hq : ((n - 2 : Nat) : Int) < t := by omega
  have hq2 : ((n - 1 - 1 : Nat) : Int) < t := by omega
  go_enter Tryd.func117, Tryd.ntmps117
  go_wp2_with (first | fail | go_in)
  all_goals
    go_ret3
    exact ⟨_, _, _, _, rfl, Rd.nil _ _, by first | exact Below.refl _ _ | assumption⟩

set_option maxHeartbeats 1000000 in
set_option maxRecDepth 100000 in
theorem rs_1_empty (g o n c : Nat) (l : List Int) (w : World) (hr : Rd w (some ⟨g, o, none⟩) l) (hn : Hid (l.length = n)) (hnc : n ≤ c) (hm : c ≤ 9223372036854775807) (hg : g < w.heap.size) (hG : Glob w) (hs : 2 ≤ n) (c0 : w.cell? ⟨g, o, none⟩ = some (.int .u8 217)) (hv : at_ l 1 = 0) :
    Calls Tryd.prog 117 #[.slice (some ⟨g, o, none⟩) n c] w (RetZ w [] (n - 2) .ok) := by
  have HG : Hid (Glob w) := hG
  have hA : ∀ (W : World) (o' : Obj) (j : Nat), g < W.heap.size → (W.alloc o').cell? ⟨g, j, none⟩ = W.cell? ⟨g, j, none⟩ := fun W o' j h => World.cell?_alloc_lt W o' ⟨g, j, none⟩ h
  obtain ⟨gs, gr⟩ := hG
  obtain ⟨t0, t1⟩ := hr.1.at_ 1
  have c1 : w.cell? ⟨g, o + 1, none⟩ = some (.int .u8 (at_ l 1)) := by
    obtain ⟨g', o', hA', -, hc⟩ := hr.2 (by have := hn.out; omega)
    injection hA' with hA'
    injection hA' with h1 h2
    subst h1; subst h2
    exact hc 1 (by have := hn.out; omega)
  have ec : ¬ c = 1 := by omega
  generalize at_ l 1 = t at *
  go_enter Tryd.func117, Tryd.ntmps117
  go_wp2_with (first | fail | go_in)
  all_goals
    go_ret3
    exact ⟨_, _, _, _, rfl, Rd.nil _ _, by first | exact Below.refl _ _ | assumption⟩

set_option maxHeartbeats 1000000 in
set_option maxRecDepth 100000 in
theorem rs_1_whole (g o n c : Nat) (l : List Int) (w : World) (hr : Rd w (some ⟨g, o, none⟩) l) (hn : Hid (l.length = n)) (hnc : n ≤ c) (hm : c ≤ 9223372036854775807) (hg : g < w.heap.size) (hG : Glob w) (hs : 2 ≤ n) (c0 : w.cell? ⟨g, o, none⟩ = some (.int .u8 217)) (hv0 : 0 < at_ l 1) (hv : at_ l 1 ≤ (n : Int) - 2) :
    Calls Tryd.prog 117 #[.slice (some ⟨g, o, none⟩) n c] w (RetZ w ((l.drop 2).take (at_ l 1).toNat) (n - 2 - (at_ l 1).toNat) .ok) := by
  have HG : Hid (Glob w) := hG
  have hA : ∀ (W : World) (o' : Obj) (j : Nat), g < W.heap.size → (W.alloc o').cell? ⟨g, j, none⟩ = W.cell? ⟨g, j, none⟩ := fun W o' j h => World.cell?_alloc_lt W o' ⟨g, j, none⟩ h
  obtain ⟨gs, gr⟩ := hG
  obtain ⟨t0, t1⟩ := hr.1.at_ 1
  have c1 : w.cell? ⟨g, o + 1, none⟩ = some (.int .u8 (at_ l 1)) := by
    obtain ⟨g', o', hA', -, hc⟩ := hr.2 (by have := hn.out; omega)
    injection hA' with hA'
    injection hA' with h1 h2
    subst h1; subst h2
    exact hc 1 (by have := hn.out; omega)
  have ec : ¬ c = 1 := by omega
  have ec3 : ¬ c - 1 = 1 := by omega
  generalize at_ l 1 = t at *
  go_enter Tryd.func117, Tryd.ntmps117
  go_wp2_with (first | fail | go_in)
  all_goals
    go_ret3
    exact retZ_mk (by have := hn.out; simp <;> omega) (by first | exact hr.cutTake 2 _ | simpa using hr.cutTake 2 _) (by first | exact Below.refl _ _ | assumption)

set_option maxHeartbeats 1000000 in
set_option maxRecDepth 100000 in
theorem rs_2_none (g o n c : Nat) (l : List Int) (w : World) (hr : Rd w (some ⟨g, o, none⟩) l) (hn : Hid (l.length = n)) (hnc : n ≤ c) (hm : c ≤ 9223372036854775807) (hg : g < w.heap.size) (hG : Glob w) (hs : 1 ≤ n) (hs2 : n < 3) (c0 : w.cell? ⟨g, o, none⟩ = some (.int .u8 218)) :
    Calls Tryd.prog 117 #[.slice (some ⟨g, o, none⟩) n c] w (RetZ w [] 0 .short) := by
  have HG : Hid (Glob w) := hG
  have hA : ∀ (W : World) (o' : Obj) (j : Nat), g < W.heap.size → (W.alloc o').cell? ⟨g, j, none⟩ = W.cell? ⟨g, j, none⟩ := fun W o' j h => World.cell?_alloc_lt W o' ⟨g, j, none⟩ h
  obtain ⟨gs, gr⟩ := hG
  go_enter Tryd.func117, Tryd.ntmps117
  go_wp2_with (first | fail | go_in)
  all_goals
    go_ret3
    exact ⟨_, _, _, _, rfl, Rd.nil _ _, by first | exact Below.refl _ _ | assumption⟩

set_option maxHeartbeats 1000000 in
set_option maxRecDepth 100000 in
theorem rs_2_short (g o n c : Nat) (l : List Int) (w : World) (hr : Rd w (some ⟨g, o, none⟩) l) (hn : Hid (l.length = n)) (hnc : n ≤ c) (hm : c ≤ 9223372036854775807) (hg : g < w.heap.size) (hG : Glob w) (hs : 3 ≤ n) (c0 : w.cell? ⟨g, o, none⟩ = some (.int .u8 218)) (hv : (n : Int) - 3 < be2 l 1) :
    Calls Tryd.prog 117 #[.slice (some ⟨g, o, none⟩) n c] w (RetZ w [] 0 .short) := by
  have HG : Hid (Glob w) := hG
  have hA : ∀ (W : World) (o' : Obj) (j : Nat), g < W.heap.size → (W.alloc o').cell? ⟨g, j, none⟩ = W.cell? ⟨g, j, none⟩ := fun W o' j h => World.cell?_alloc_lt W o' ⟨g, j, none⟩ h
  obtain ⟨gs, gr⟩ := hG
  obtain ⟨t0, t1⟩ := be2_range hr.1 1
  have ec : ¬ c = 1 := by omega
  have hq : ((n - 3 : Nat) : Int) < be2 l 1 := by omega
  have hq2 : ((n - 1 - 2 : Nat) : Int) < be2 l 1 := by omega
  go_enter Tryd.func117, Tryd.ntmps117
  go_wp2_with (first | (go_at_call 105; refine (u16_c _ _ _ _ (l.drop 1) _ (hr.cut 1) (by simp only [List.length_drop]; rw [hn.out]) (by omega)).mono ?_; rintro e w1 ⟨rfl, hb1⟩; rw [be2_drop]; have gs1 := (HG.out.mono hb1).1) | go_in)
  all_goals
    go_ret3
    exact ⟨_, _, _, _, rfl, Rd.nil _ _, by first | exact Below.refl _ _ | assumption⟩

set_option maxHeartbeats 1000000 in
set_option maxRecDepth 100000 in
theorem rs_2_empty (g o n c : Nat) (l : List Int) (w : World) (hr : Rd w (some ⟨g, o, none⟩) l) (hn : Hid (l.length = n)) (hnc : n ≤ c) (hm : c ≤ 9223372036854775807) (hg : g < w.heap.size) (hG : Glob w) (hs : 3 ≤ n) (c0 : w.cell? ⟨g, o, none⟩ = some (.int .u8 218)) (hv : be2 l 1 = 0) :
    Calls Tryd.prog 117 #[.slice (some ⟨g, o, none⟩) n c] w (RetZ w [] (n - 3) .ok) := by
  have HG : Hid (Glob w) := hG
  have hA : ∀ (W : World) (o' : Obj) (j : Nat), g < W.heap.size → (W.alloc o').cell? ⟨g, j, none⟩ = W.cell? ⟨g, j, none⟩ := fun W o' j h => World.cell?_alloc_lt W o' ⟨g, j, none⟩ h
  obtain ⟨gs, gr⟩ := hG
  obtain ⟨t0, t1⟩ := be2_range hr.1 1
  have ec : ¬ c = 1 := by omega
  go_enter Tryd.func117, Tryd.ntmps117
  go_wp2_with (first | (go_at_call 105; refine (u16_c _ _ _ _ (l.drop 1) _ (hr.cut 1) (by simp only [List.length_drop]; rw [hn.out]) (by omega)).mono ?_; rintro e w1 ⟨rfl, hb1⟩; rw [be2_drop]; have gs1 := (HG.out.mono hb1).1) | go_in)
  all_goals
    go_ret3
    exact ⟨_, _, _, _, rfl, Rd.nil _ _, by first | exact Below.refl _ _ | assumption⟩

set_option maxHeartbeats 1000000 in
set_option maxRecDepth 100000 in
theorem rs_2_whole (g o n c : Nat) (l : List Int) (w : World) (hr : Rd w (some ⟨g, o, none⟩) l) (hn : Hid (l.length = n)) (hnc : n ≤ c) (hm : c ≤ 9223372036854775807) (hg : g < w.heap.size) (hG : Glob w) (hs : 3 ≤ n) (c0 : w.cell? ⟨g, o, none⟩ = some (.int .u8 218)) (hv0 : 0 < be2 l 1) (hv : be2 l 1 ≤ (n : Int) - 3) :
    Calls Tryd.prog 117 #[.slice (some ⟨g, o, none⟩) n c] w (RetZ w ((l.drop 3).take (be2 l 1).toNat) (n - 3 - (be2 l 1).toNat) .ok) := by
  have HG : Hid (Glob w) := hG
  have hA : ∀ (W : World) (o' : Obj) (j : Nat), g < W.heap.size → (W.alloc o').cell? ⟨g, j, none⟩ = W.cell? ⟨g, j, none⟩ := fun W o' j h => World.cell?_alloc_lt W o' ⟨g, j, none⟩ h
  obtain ⟨gs, gr⟩ := hG
  obtain ⟨t0, t1⟩ := be2_range hr.1 1
  have ec : ¬ c = 1 := by omega
  have ec3 : ¬ c - 1 = 2 := by omega
  go_enter Tryd.func117, Tryd.ntmps117
  go_wp2_with (first | (go_at_call 105; refine (u16_c _ _ _ _ (l.drop 1) _ (hr.cut 1) (by simp only [List.length_drop]; rw [hn.out]) (by omega)).mono ?_; rintro e w1 ⟨rfl, hb1⟩; rw [be2_drop]; have gs1 := (HG.out.mono hb1).1) | go_in)
  all_goals
    go_ret3
    exact retZ_mk (by have := hn.out; simp <;> omega) (by first | exact (hr.cutTake 3 _).mono hb1 | simpa using (hr.cutTake 3 _).mono hb1) (by first | exact Below.refl _ _ | assumption)

set_option maxHeartbeats 1000000 in
set_option maxRecDepth 100000 in
theorem rs_4_none (g o n c : Nat) (l : List Int) (w : World) (hr : Rd w (some ⟨g, o, none⟩) l) (hn : Hid (l.length = n)) (hnc : n ≤ c) (hm : c ≤ 9223372036854775807) (hg : g < w.heap.size) (hG : Glob w) (hs : 1 ≤ n) (hs2 : n < 5) (c0 : w.cell? ⟨g, o, none⟩ = some (.int .u8 219)) :
    Calls Tryd.prog 117 #[.slice (some ⟨g, o, none⟩) n c] w (RetZ w [] 0 .short) := by
  have HG : Hid (Glob w) := hG
  have hA : ∀ (W : World) (o' : Obj) (j : Nat), g < W.heap.size → (W.alloc o').cell? ⟨g, j, none⟩ = W.cell? ⟨g, j, none⟩ := fun W o' j h => World.cell?_alloc_lt W o' ⟨g, j, none⟩ h
  obtain ⟨gs, gr⟩ := hG
  go_enter Tryd.func117, Tryd.ntmps117
  go_wp2_with (first | fail | go_in)
  all_goals
    go_ret3
    exact ⟨_, _, _, _, rfl, Rd.nil _ _, by first | exact Below.refl _ _ | assumption⟩

set_option maxHeartbeats 1000000 in
set_option maxRecDepth 100000 in
theorem rs_4_short (g o n c : Nat) (l : List Int) (w : World) (hr : Rd w (some ⟨g, o, none⟩) l) (hn : Hid (l.length = n)) (hnc : n ≤ c) (hm : c ≤ 9223372036854775807) (hg : g < w.heap.size) (hG : Glob w) (hs : 5 ≤ n) (c0 : w.cell? ⟨g, o, none⟩ = some (.int .u8 219)) (hv : (n : Int) - 5 < be4 l 1) :
    Calls Tryd.prog 117 #[.slice (some ⟨g, o, none⟩) n c] w (RetZ w [] 0 .short) := by
  have HG : Hid (Glob w) := hG
  have hA : ∀ (W : World) (o' : Obj) (j : Nat), g < W.heap.size → (W.alloc o').cell? ⟨g, j, none⟩ = W.cell? ⟨g, j, none⟩ := fun W o' j h => World.cell?_alloc_lt W o' ⟨g, j, none⟩ h
  obtain ⟨gs, gr⟩ := hG
  obtain ⟨t0, t1⟩ := be4_range hr.1 1
  have ec : ¬ c = 1 := by omega
  have hq : ((n - 5 : Nat) : Int) < be4 l 1 := by omega
  have hq2 : ((n - 1 - 4 : Nat) : Int) < be4 l 1 := by omega
  go_enter Tryd.func117, Tryd.ntmps117
  go_wp2_with (first | (go_at_call 106; refine (u32_c _ _ _ _ (l.drop 1) _ (hr.cut 1) (by simp only [List.length_drop]; rw [hn.out]) (by omega)).mono ?_; rintro e w1 ⟨rfl, hb1⟩; rw [be4_drop]; have gs1 := (HG.out.mono hb1).1) | go_in)
  all_goals
    go_ret3
    exact ⟨_, _, _, _, rfl, Rd.nil _ _, by first | exact Below.refl _ _ | assumption⟩

set_option maxHeartbeats 1000000 in
set_option maxRecDepth 100000 in
theorem rs_4_empty (g o n c : Nat) (l : List Int) (w : World) (hr : Rd w (some ⟨g, o, none⟩) l) (hn : Hid (l.length = n)) (hnc : n ≤ c) (hm : c ≤ 9223372036854775807) (hg : g < w.heap.size) (hG : Glob w) (hs : 5 ≤ n) (c0 : w.cell? ⟨g, o, none⟩ = some (.int .u8 219)) (hv : be4 l 1 = 0) :
    Calls Tryd.prog 117 #[.slice (some ⟨g, o, none⟩) n c] w (RetZ w [] (n - 5) .ok) := by
  have HG : Hid (Glob w) := hG
  have hA : ∀ (W : World) (o' : Obj) (j : Nat), g < W.heap.size → (W.alloc o').cell? ⟨g, j, none⟩ = W.cell? ⟨g, j, none⟩ := fun W o' j h => World.cell?_alloc_lt W o' ⟨g, j, none⟩ h
  obtain ⟨gs, gr⟩ := hG
  obtain ⟨t0, t1⟩ := be4_range hr.1 1
  have ec : ¬ c = 1 := by omega
  go_enter Tryd.func117, Tryd.ntmps117
  go_wp2_with (first | (go_at_call 106; refine (u32_c _ _ _ _ (l.drop 1) _ (hr.cut 1) (by simp only [List.length_drop]; rw [hn.out]) (by omega)).mono ?_; rintro e w1 ⟨rfl, hb1⟩; rw [be4_drop]; have gs1 := (HG.out.mono hb1).1) | go_in)
  all_goals
    go_ret3
    exact ⟨_, _, _, _, rfl, Rd.nil _ _, by first | exact Below.refl _ _ | assumption⟩

set_option maxHeartbeats 1000000 in
set_option maxRecDepth 100000 in
theorem rs_4_whole (g o n c : Nat) (l : List Int) (w : World) (hr : Rd w (some ⟨g, o, none⟩) l) (hn : Hid (l.length = n)) (hnc : n ≤ c) (hm : c ≤ 9223372036854775807) (hg : g < w.heap.size) (hG : Glob w) (hs : 5 ≤ n) (c0 : w.cell? ⟨g, o, none⟩ = some (.int .u8 219)) (hv0 : 0 < be4 l 1) (hv : be4 l 1 ≤ (n : Int) - 5) :
    Calls Tryd.prog 117 #[.slice (some ⟨g, o, none⟩) n c] w (RetZ w ((l.drop 5).take (be4 l 1).toNat) (n - 5 - (be4 l 1).toNat) .ok) := by
  have HG : Hid (Glob w) := hG
  have hA : ∀ (W : World) (o' : Obj) (j : Nat), g < W.heap.size → (W.alloc o').cell? ⟨g, j, none⟩ = W.cell? ⟨g, j, none⟩ := fun W o' j h => World.cell?_alloc_lt W o' ⟨g, j, none⟩ h
  obtain ⟨gs, gr⟩ := hG
  obtain ⟨t0, t1⟩ := be4_range hr.1 1
  have ec : ¬ c = 1 := by omega
  have ec3 : ¬ c - 1 = 4 := by omega
  go_enter Tryd.func117, Tryd.ntmps117
  go_wp2_with (first | (go_at_call 106; refine (u32_c _ _ _ _ (l.drop 1) _ (hr.cut 1) (by simp only [List.length_drop]; rw [hn.out]) (by omega)).mono ?_; rintro e w1 ⟨rfl, hb1⟩; rw [be4_drop]; have gs1 := (HG.out.mono hb1).1) | go_in)
  all_goals
    go_ret3
    exact retZ_mk (by have := hn.out; simp <;> omega) (by first | exact (hr.cutTake 5 _).mono hb1 | simpa using (hr.cutTake 5 _).mono hb1) (by first | exact Below.refl _ _ | assumption)

set_option maxHeartbeats 1000000 in
set_option maxRecDepth 100000 in
theorem rs_empty (A : Option Addr) (c : Nat) (w : World) (hG : Glob w) : Calls Tryd.prog 117 #[.slice A 0 c] w (RetZ w [] 0 .short) := by
  obtain ⟨gs, gr⟩ := hG
  go_enter Tryd.func117, Tryd.ntmps117
  go_wp2_with fail
  all_goals try (go_quiet (fail); go_wp2_with fail)
  all_goals
    go_ret3
    exact ⟨_, _, _, _, rfl, Rd.nil _ _, by first | exact Below.refl _ _ | exact below_drewN (Below.refl _ _) _⟩

theorem rs_c (A : Option Addr) (n c : Nat) (l : List Int) (w : World) (hr : Rd w A l) (hn : l.length = n) (hnc : n ≤ c) (hm : c ≤ maxLen) (hG : Glob w) :
    Calls Tryd.prog 117 #[.slice A n c] w (RetZ w (rdStr l).1 (rdStr l).2.1 (rdStr l).2.2) := by
  have hm' : c ≤ 9223372036854775807 := by simp only [maxLen] at hm; omega
  have HN : Hid (l.length = n) := hn
  unfold rdStr strH
  rw [hn]
  rcases Nat.eq_zero_or_pos n with rfl | hpos
  · rw [if_pos rfl, bodyOf_err _ _ _ _ (by decide)]; exact rs_empty A c w hG
  obtain ⟨g, o, rfl, hg, -, hc⟩ := hr.open_ (by omega)
  have c0 := hc 0 (by omega)
  rw [Nat.add_zero] at c0
  have hb := hr.1.at_ 0
  have hb1 := hr.1.at_ 1
  have hb2 := be2_range hr.1 1
  have hb4 := be4_range hr.1 1
  rw [if_neg (by omega)]
  by_cases h1 : 160 ≤ at_ l 0 ∧ at_ l 0 < 192
  · rw [if_pos h1]
    by_cases hv : (l.length : Int) - (1 : Nat) < at_ l 0 % 32
    · rw [bodyOf_short _ _ _ hv]; exact rs_0_short g o n c l w hr HN hnc hm' hg hG (by omega) _ h1.1 h1.2 c0 (by omega)
    rw [bodyOf_ok _ _ _ hv]
    by_cases hz : at_ l 0 % 32 = 0
    · have hk := rs_0_empty g o n c l w hr HN hnc hm' hg hG (by omega) _ h1.1 h1.2 c0 hz
      rw [hz]; simpa [hn] using hk
    · rw [hn]; exact rs_0_whole g o n c l w hr HN hnc hm' hg hG (by omega) _ h1.1 h1.2 c0 (by omega) (by omega)
  rw [if_neg h1]
  by_cases h217 : at_ l 0 = 217
  · rw [if_pos h217]
    rw [h217] at c0
    by_cases hs : n < 2
    · rw [if_pos hs, bodyOf_err _ _ _ _ (by decide)]; exact rs_1_none g o n c l w hr HN hnc hm' hg hG hpos hs c0
    rw [if_neg hs]
    by_cases hv : (l.length : Int) - (2 : Nat) < at_ l 1
    · rw [bodyOf_short _ _ _ hv]; exact rs_1_short g o n c l w hr HN hnc hm' hg hG (by omega) c0 (by omega)
    rw [bodyOf_ok _ _ _ hv]
    by_cases hz : at_ l 1 = 0
    · have hk := rs_1_empty g o n c l w hr HN hnc hm' hg hG (by omega) c0 hz
      rw [hz]; simpa [hn] using hk
    · rw [hn]; exact rs_1_whole g o n c l w hr HN hnc hm' hg hG (by omega) c0 (by omega) (by omega)
  rw [if_neg h217]
  by_cases h218 : at_ l 0 = 218
  · rw [if_pos h218]
    rw [h218] at c0
    by_cases hs : n < 3
    · rw [if_pos hs, bodyOf_err _ _ _ _ (by decide)]; exact rs_2_none g o n c l w hr HN hnc hm' hg hG hpos hs c0
    rw [if_neg hs]
    by_cases hv : (l.length : Int) - (3 : Nat) < be2 l 1
    · rw [bodyOf_short _ _ _ hv]; exact rs_2_short g o n c l w hr HN hnc hm' hg hG (by omega) c0 (by omega)
    rw [bodyOf_ok _ _ _ hv]
    by_cases hz : be2 l 1 = 0
    · have hk := rs_2_empty g o n c l w hr HN hnc hm' hg hG (by omega) c0 hz
      rw [hz]; simpa [hn] using hk
    · rw [hn]; exact rs_2_whole g o n c l w hr HN hnc hm' hg hG (by omega) c0 (by omega) (by omega)
  rw [if_neg h218]
  by_cases h219 : at_ l 0 = 219
  · rw [if_pos h219]
    rw [h219] at c0
    by_cases hs : n < 5
    · rw [if_pos hs, bodyOf_err _ _ _ _ (by decide)]; exact rs_4_none g o n c l w hr HN hnc hm' hg hG hpos hs c0
    rw [if_neg hs]
    by_cases hv : (l.length : Int) - (5 : Nat) < be4 l 1
    · rw [bodyOf_short _ _ _ hv]; exact rs_4_short g o n c l w hr HN hnc hm' hg hG (by omega) c0 (by omega)
    rw [bodyOf_ok _ _ _ hv]
    by_cases hz : be4 l 1 = 0
    · have hk := rs_4_empty g o n c l w hr HN hnc hm' hg hG (by omega) c0 hz
      rw [hz]; simpa [hn] using hk
    · rw [hn]; exact rs_4_whole g o n c l w hr HN hnc hm' hg hG (by omega) c0 (by omega) (by omega)
  rw [if_neg h219]
  rw [bodyOf_err _ _ _ _ (by simp [Er.code])]
  exact rs_other g o n c l w hr HN hnc hm' hg hG hpos _ hb.1 hb.2 (by omega) h217 h218 h219 c0

/-- No error, or nothing read. -/
theorem bodyOf_nil (l : List Int) (h : Nat × Int × Er) (he : (bodyOf l h).2.2 ≠ .ok) : (bodyOf l h).1 = [] := by
  unfold bodyOf at he ⊢
  split
  · split
    · rfl
    · rename_i h1 h2
      rw [if_pos h1, if_neg h2] at he
      exact absurd rfl he
  · rfl
theorem bodyOf_byts (l : List Int) (h : Nat × Int × Er) (hb : Byts l) : Byts (bodyOf l h).1 := by
  unfold bodyOf
  split
  · split
    · exact Byts.nil
    · exact (hb.drop _).take _
  · exact Byts.nil
theorem bodyOf_len (l : List Int) (h : Nat × Int × Er) : (bodyOf l h).1.length ≤ l.length := by
  unfold bodyOf
  split
  · split
    · exact Nat.zero_le _
    · simp only [List.length_take, List.length_drop]; omega
  · exact Nat.zero_le _

/-- 'The call answers this text, a rest of k bytes, and this error.' -/
def RetS (w : World) (l : List Int) (k : Nat) (x : Er) (e : Ending) (w' : World) : Prop := ∃ A c, e = .returned (.tuple #[.string (strOfNums l), .slice A k c, x.val]) ∧ Below w.heap.size w w'

set_option maxHeartbeats 1000000 in
set_option maxRecDepth 100000 in
theorem readString_c (A : Option Addr) (n c : Nat) (l : List Int) (w : World) (hr : Rd w A l) (hn : l.length = n) (hnc : n ≤ c) (hm : c ≤ maxLen) (hG : Glob w) :
    Calls Tryd.prog 80 #[.slice A n c] w (RetS w (rdStr l).1 (rdStr l).2.1 (rdStr l).2.2) := by
  have hcall := rs_c A n c l w hr hn hnc hm hG
  generalize rdStr l = R at hcall ⊢
  obtain ⟨L, k, r⟩ := R
  simp only at hcall
  simp only []
  clear hr hn hnc hm hG
  go_enter Tryd.func80, Tryd.ntmps80
  go_wp2_with fail
  ((with_reducible refine hcall.mono ?_); rintro e w1 ⟨A1, c1, A2, c2, rfl, hr1, hb1⟩)
  have k1 := run_string_of hr1 _ c1 rfl
  go_wp2_with fail
  go_ret3
  exact ⟨_, _, rfl, hb1⟩

set_option maxHeartbeats 1000000 in
set_option maxRecDepth 100000 in
theorem implText_c (A : Option Addr) (n c : Nat) (l : List Int) (w : World) (hr : Rd w A l) (hn : l.length = n) (hle : n ≤ 1000000000000) (hG : Glob w) :
    Calls Tryd.prog 36 #[.slice A n c] w fun e w' => e = .returned (.tuple #[.string (strOfNums (rdStr l).1), .int .i64 (rdStr l).2.1, .int .i64 (rdStr l).2.2.code]) ∧ Below w.heap.size w w' := by
  have HN : Hid (l.length = n) := hn
  have HG : Hid (Glob w) := hG
  have hcall : ∀ (A : Option Addr) (c : Nat) (w : World), Rd w A l → l.length ≤ c → c ≤ maxLen → Glob w → Calls Tryd.prog 80 #[.slice A l.length c] w (RetS w (rdStr l).1 (rdStr l).2.1 (rdStr l).2.2) := fun A c w a b d e => readString_c A _ c l w a rfl b d e
  have herr := bodyOf_nil l (strH l)
  rw [show bodyOf l (strH l) = rdStr l from rfl] at herr
  generalize rdStr l = R at hcall herr ⊢
  obtain ⟨L, k, r⟩ := R
  simp only at hcall herr
  simp only []
  clear hn hG
  go_enter Tryd.func36, Tryd.ntmps36
  go_wp2_with fail
  ((with_reducible refine (clone_c _ _ _ l _ hr HN.out hle).mono ?_); rintro e w1 ⟨v, rfl, hown, hb1⟩)
  obtain ⟨A1, c1, rfl, hc1, hm1, hr1⟩ := hown.open_ hr.1
  go_wp2_with fail
  ((with_reducible refine (hcall _ _ _ hr1 hc1 hm1 (HG.out.mono hb1)).mono ?_); rintro e w2 ⟨A2, c2, rfl, hb2⟩)
  cases r
  · go_wp2_with fail
    go_ret3
    exact ⟨rfl, below_step hb1 hb2⟩
  all_goals
    obtain rfl := herr (by intro h; cases h)
    go_wp2_with fail
    ((with_reducible refine (codeOf_c _ _ ((HG.out.mono hb1).mono hb2)).mono ?_); rintro e w3 ⟨rfl, hb3⟩)
    go_wp2_with fail
    go_ret3
    exact ⟨rfl, below_step (below_step hb1 hb2) hb3⟩

end Go.Proofs.YtpmdlbbgljcloaaDoor
