/- msgp's ReadBytesBytes, and the thin package's ReadBin, walked. Conditions: the slice reads as bytes; the two sentinels' variables hold what the program lays in them. -/
import Derived.Test.YtpmdlbbgljcloaaDoorTextR
import Derived.Test.YtpmdlbbgljcloaaDoorRow
namespace Go.Proofs.YtpmdlbbgljcloaaDoor
open Go Go.RowKit Go.Lib
set_option linter.unusedVariables false

/-- 'The call answers bytes of its own that read l, a rest of k bytes, and this error.' -/
def RetB (w : World) (l : List Int) (k : Nat) (x : Er) (e : Ending) (w' : World) : Prop := ∃ v B d, e = .returned (.tuple #[v, .slice B k d, x.val]) ∧ Own w' w.heap.size v l ∧ Below w.heap.size w w'

/-- What stands ahead: its size, the length, the error. -/
def binH (l : List Int) : Nat × Int × Er :=
  if l.length = 0 then (0, 0, .short) else
  if at_ l 0 = 196 then (if l.length < 2 then (0, 0, .short) else (2, at_ l 1, .ok)) else
  if at_ l 0 = 197 then (if l.length < 3 then (0, 0, .short) else (3, be2 l 1, .ok)) else
  if at_ l 0 = 198 then (if l.length < 5 then (0, 0, .short) else (5, be4 l 1, .ok)) else
  (0, 0, bp 2 (at_ l 0))
def rdBin (l : List Int) : List Int × Nat × Er := bodyOf l (binH l)

set_option maxHeartbeats 1000000 in
set_option maxRecDepth 100000 in
theorem rb_other (g o n c : Nat) (l : List Int) (w : World) (hr : Rd w (some ⟨g, o, none⟩) l) (hn : Hid (l.length = n)) (hnc : n ≤ c) (hm : c ≤ 9223372036854775807) (hg : g < w.heap.size) (hG : Glob w) (hs : 1 ≤ n) (x : Int) (x0 : 0 ≤ x) (x1 : x < 256) (y1 : x ≠ 196) (y2 : x ≠ 197) (y3 : x ≠ 198) (c0 : w.cell? ⟨g, o, none⟩ = some (.int .u8 x)) :
    Calls Tryd.prog 121 #[.slice (some ⟨g, o, none⟩) n c, .slice none 0 0, .bool false] w (RetB w [] 0 (bp 2 x)) := by
  have HG : Hid (Glob w) := hG
  have hA : ∀ (W : World) (o' : Obj) (j : Nat), g < W.heap.size → (W.alloc o').cell? ⟨g, j, none⟩ = W.cell? ⟨g, j, none⟩ := fun W o' j h => World.cell?_alloc_lt W o' ⟨g, j, none⟩ h
  obtain ⟨gs, gr⟩ := hG
  have e2 : (x == 196) = false := by simpa using y1
  have e3 : (x == 197) = false := by simpa using y2
  have e4 : (x == 198) = false := by simpa using y3
  clear y1 y2 y3
  go_enter Tryd.func121, Tryd.ntmps121
  go_wp2_with (first | (go_at_call 108; refine (badPrefix_c _ _ _ (by omega) (by omega)).mono ?_; rintro e w1 ⟨rfl, hb1⟩) | go_in)
  all_goals
    go_ret3
    exact ⟨_, _, _, rfl, World.ownsRow_nil _ _ _ _, by first | exact Below.refl _ _ | assumption⟩

set_option maxHeartbeats 1000000 in
set_option maxRecDepth 100000 in
theorem rb_1_none (g o n c : Nat) (l : List Int) (w : World) (hr : Rd w (some ⟨g, o, none⟩) l) (hn : Hid (l.length = n)) (hnc : n ≤ c) (hm : c ≤ 9223372036854775807) (hg : g < w.heap.size) (hG : Glob w) (hs : 1 ≤ n) (hs2 : n < 2) (c0 : w.cell? ⟨g, o, none⟩ = some (.int .u8 196)) :
    Calls Tryd.prog 121 #[.slice (some ⟨g, o, none⟩) n c, .slice none 0 0, .bool false] w (RetB w [] 0 .short) := by
  have HG : Hid (Glob w) := hG
  have hA : ∀ (W : World) (o' : Obj) (j : Nat), g < W.heap.size → (W.alloc o').cell? ⟨g, j, none⟩ = W.cell? ⟨g, j, none⟩ := fun W o' j h => World.cell?_alloc_lt W o' ⟨g, j, none⟩ h
  obtain ⟨gs, gr⟩ := hG
  go_enter Tryd.func121, Tryd.ntmps121
  go_wp2_with (first | fail | go_in)
  all_goals
    go_ret3
    exact ⟨_, _, _, rfl, World.ownsRow_nil _ _ _ _, by first | exact Below.refl _ _ | assumption⟩

set_option maxHeartbeats 1000000 in
set_option maxRecDepth 100000 in
theorem rb_1_short (g o n c : Nat) (l : List Int) (w : World) (hr : Rd w (some ⟨g, o, none⟩) l) (hn : Hid (l.length = n)) (hnc : n ≤ c) (hm : c ≤ 9223372036854775807) (hg : g < w.heap.size) (hG : Glob w) (hs : 2 ≤ n) (c0 : w.cell? ⟨g, o, none⟩ = some (.int .u8 196)) (hv : (n : Int) - 2 < at_ l 1) :
    Calls Tryd.prog 121 #[.slice (some ⟨g, o, none⟩) n c, .slice none 0 0, .bool false] w (RetB w [] 0 .short) := by
  have HG : Hid (Glob w) := hG
  have hA : ∀ (W : World) (o' : Obj) (j : Nat), g < W.heap.size → (W.alloc o').cell? ⟨g, j, none⟩ = W.cell? ⟨g, j, none⟩ := fun W o' j h => World.cell?_alloc_lt W o' ⟨g, j, none⟩ h
  obtain ⟨gs, gr⟩ := hG
  obtain ⟨t0, t1⟩ := hr.1.at_ 1
  have c1 : w.cell? ⟨g, o + 1, none⟩ = some (.int .u8 (at_ l 1)) := by
    obtain ⟨g', o', hA', -, hc⟩ := hr.2 (by have := hn.out; omega)
    injection hA' with hA'
    injection hA' with h1 h2
    subst h1; subst h2
    exact hc 1 (by have := hn.out; omega)
  have ec : ¬ c = 1 := by omega
  generalize at_ l 1 = t at *
  have hq : ((n - 2 : Nat) : Int) < t := by omega
  have hq2 : ((n - 1 - 1 : Nat) : Int) < t := by omega
  go_enter Tryd.func121, Tryd.ntmps121
  go_wp2_with (first | fail | go_in)
  all_goals
    go_ret3
    exact ⟨_, _, _, rfl, World.ownsRow_nil _ _ _ _, by first | exact Below.refl _ _ | assumption⟩

set_option maxHeartbeats 1000000 in
set_option maxRecDepth 100000 in
theorem rb_2_none (g o n c : Nat) (l : List Int) (w : World) (hr : Rd w (some ⟨g, o, none⟩) l) (hn : Hid (l.length = n)) (hnc : n ≤ c) (hm : c ≤ 9223372036854775807) (hg : g < w.heap.size) (hG : Glob w) (hs : 1 ≤ n) (hs2 : n < 3) (c0 : w.cell? ⟨g, o, none⟩ = some (.int .u8 197)) :
    Calls Tryd.prog 121 #[.slice (some ⟨g, o, none⟩) n c, .slice none 0 0, .bool false] w (RetB w [] 0 .short) := by
  have HG : Hid (Glob w) := hG
  have hA : ∀ (W : World) (o' : Obj) (j : Nat), g < W.heap.size → (W.alloc o').cell? ⟨g, j, none⟩ = W.cell? ⟨g, j, none⟩ := fun W o' j h => World.cell?_alloc_lt W o' ⟨g, j, none⟩ h
  obtain ⟨gs, gr⟩ := hG
  go_enter Tryd.func121, Tryd.ntmps121
  go_wp2_with (first | fail | go_in)
  all_goals
    go_ret3
    exact ⟨_, _, _, rfl, World.ownsRow_nil _ _ _ _, by first | exact Below.refl _ _ | assumption⟩

set_option maxHeartbeats 1000000 in
set_option maxRecDepth 100000 in
theorem rb_2_short (g o n c : Nat) (l : List Int) (w : World) (hr : Rd w (some ⟨g, o, none⟩) l) (hn : Hid (l.length = n)) (hnc : n ≤ c) (hm : c ≤ 9223372036854775807) (hg : g < w.heap.size) (hG : Glob w) (hs : 3 ≤ n) (c0 : w.cell? ⟨g, o, none⟩ = some (.int .u8 197)) (hv : (n : Int) - 3 < be2 l 1) :
    Calls Tryd.prog 121 #[.slice (some ⟨g, o, none⟩) n c, .slice none 0 0, .bool false] w (RetB w [] 0 .short) := by
  have HG : Hid (Glob w) := hG
  have hA : ∀ (W : World) (o' : Obj) (j : Nat), g < W.heap.size → (W.alloc o').cell? ⟨g, j, none⟩ = W.cell? ⟨g, j, none⟩ := fun W o' j h => World.cell?_alloc_lt W o' ⟨g, j, none⟩ h
  obtain ⟨gs, gr⟩ := hG
  obtain ⟨t0, t1⟩ := be2_range hr.1 1
  have ec : ¬ c = 1 := by omega
  have hq : ((n - 3 : Nat) : Int) < be2 l 1 := by omega
  have hq2 : ((n - 1 - 2 : Nat) : Int) < be2 l 1 := by omega
  go_enter Tryd.func121, Tryd.ntmps121
  go_wp2_with (first | (go_at_call 105; refine (u16_c _ _ _ _ (l.drop 1) _ (hr.cut 1) (by simp only [List.length_drop]; rw [hn.out]) (by omega)).mono ?_; rintro e w1 ⟨rfl, hb1⟩; rw [be2_drop]; have gs1 := (HG.out.mono hb1).1) | go_in)
  all_goals
    go_ret3
    exact ⟨_, _, _, rfl, World.ownsRow_nil _ _ _ _, by first | exact Below.refl _ _ | assumption⟩

set_option maxHeartbeats 1000000 in
set_option maxRecDepth 100000 in
theorem rb_4_none (g o n c : Nat) (l : List Int) (w : World) (hr : Rd w (some ⟨g, o, none⟩) l) (hn : Hid (l.length = n)) (hnc : n ≤ c) (hm : c ≤ 9223372036854775807) (hg : g < w.heap.size) (hG : Glob w) (hs : 1 ≤ n) (hs2 : n < 5) (c0 : w.cell? ⟨g, o, none⟩ = some (.int .u8 198)) :
    Calls Tryd.prog 121 #[.slice (some ⟨g, o, none⟩) n c, .slice none 0 0, .bool false] w (RetB w [] 0 .short) := by
  have HG : Hid (Glob w) := hG
  have hA : ∀ (W : World) (o' : Obj) (j : Nat), g < W.heap.size → (W.alloc o').cell? ⟨g, j, none⟩ = W.cell? ⟨g, j, none⟩ := fun W o' j h => World.cell?_alloc_lt W o' ⟨g, j, none⟩ h
  obtain ⟨gs, gr⟩ := hG
  go_enter Tryd.func121, Tryd.ntmps121
  go_wp2_with (first | fail | go_in)
  all_goals
    go_ret3
    exact ⟨_, _, _, rfl, World.ownsRow_nil _ _ _ _, by first | exact Below.refl _ _ | assumption⟩

set_option maxHeartbeats 1000000 in
set_option maxRecDepth 100000 in
theorem rb_4_short (g o n c : Nat) (l : List Int) (w : World) (hr : Rd w (some ⟨g, o, none⟩) l) (hn : Hid (l.length = n)) (hnc : n ≤ c) (hm : c ≤ 9223372036854775807) (hg : g < w.heap.size) (hG : Glob w) (hs : 5 ≤ n) (c0 : w.cell? ⟨g, o, none⟩ = some (.int .u8 198)) (hv : (n : Int) - 5 < be4 l 1) :
    Calls Tryd.prog 121 #[.slice (some ⟨g, o, none⟩) n c, .slice none 0 0, .bool false] w (RetB w [] 0 .short) := by
  have HG : Hid (Glob w) := hG
  have hA : ∀ (W : World) (o' : Obj) (j : Nat), g < W.heap.size → (W.alloc o').cell? ⟨g, j, none⟩ = W.cell? ⟨g, j, none⟩ := fun W o' j h => World.cell?_alloc_lt W o' ⟨g, j, none⟩ h
  obtain ⟨gs, gr⟩ := hG
  obtain ⟨t0, t1⟩ := be4_range hr.1 1
  have ec : ¬ c = 1 := by omega
  have hq : ((n - 5 : Nat) : Int) < be4 l 1 := by omega
  have hq2 : ((n - 1 - 4 : Nat) : Int) < be4 l 1 := by omega
  go_enter Tryd.func121, Tryd.ntmps121
  go_wp2_with (first | (go_at_call 106; refine (u32_c _ _ _ _ (l.drop 1) _ (hr.cut 1) (by simp only [List.length_drop]; rw [hn.out]) (by omega)).mono ?_; rintro e w1 ⟨rfl, hb1⟩; rw [be4_drop]; have gs1 := (HG.out.mono hb1).1) | go_in)
  all_goals
    go_ret3
    exact ⟨_, _, _, rfl, World.ownsRow_nil _ _ _ _, by first | exact Below.refl _ _ | assumption⟩

theorem splice_full {L K : List Int} (h : K.length = L.length) : splice L 0 K = K := by
  simp [splice, h]
theorem retB_mk {w w' : World} {g m k : Nat} {K : List Int} {B : Option Addr} {d : Nat} (hrow : RowI w' g (splice (List.replicate m 0) 0 K)) (hk : K.length = m) (hm : m ≤ 1000000000000) (hg : w.heap.size ≤ g) (hb : Below w.heap.size w w') :
    RetB w K k .ok (.returned (.tuple #[.slice (some ⟨g, 0, none⟩) m m, .slice B k d, .nilIface])) w' := by
  rw [splice_full (by simpa using hk)] at hrow
  exact ⟨_, _, _, rfl, hrow.own hg hk hm, hb⟩

set_option maxHeartbeats 1000000 in
set_option maxRecDepth 100000 in
theorem rb_1_empty (g o n c : Nat) (l : List Int) (w : World) (hr : Rd w (some ⟨g, o, none⟩) l) (hn : Hid (l.length = n)) (hnc : n ≤ c) (hm : c ≤ 9223372036854775807) (hg : g < w.heap.size) (hG : Glob w) (hs : 2 ≤ n) (c0 : w.cell? ⟨g, o, none⟩ = some (.int .u8 196)) (hv : at_ l 1 = 0) :
    Calls Tryd.prog 121 #[.slice (some ⟨g, o, none⟩) n c, .slice none 0 0, .bool false] w (RetB w [] (n - 2) .ok) := by
  have HG : Hid (Glob w) := hG
  have hA : ∀ (W : World) (o' : Obj) (j : Nat), g < W.heap.size → (W.alloc o').cell? ⟨g, j, none⟩ = W.cell? ⟨g, j, none⟩ := fun W o' j h => World.cell?_alloc_lt W o' ⟨g, j, none⟩ h
  obtain ⟨gs, gr⟩ := hG
  have c1 : w.cell? ⟨g, o + 1, none⟩ = some (.int .u8 (at_ l 1)) := by
    obtain ⟨g', o', hA', -, hc⟩ := hr.2 (by have := hn.out; omega)
    injection hA' with hA'
    injection hA' with h1 h2
    subst h1; subst h2
    exact hc 1 (by have := hn.out; omega)
  rw [hv] at c1
  have ec : ¬ c = 1 := by omega
  have HV := Lib.hid hv
  clear hv
  go_enter Tryd.func121, Tryd.ntmps121
  go_wp2_with (first | fail | ((with_reducible refine wpList_copy_nothing rfl (.tmp 83) (.tmp 84) 22 22 rfl 5 Tryd.underlying22 u8_size _ _ _ _ _ _ rfl rfl (by simp) ?_)) | go_in)
  all_goals
    go_ret3
    exact ⟨_, _, _, rfl, World.ownsRow_nil _ _ _ _, by first | exact Below.refl _ _ | assumption⟩

set_option maxHeartbeats 2000000 in
set_option maxRecDepth 100000 in
theorem rb_1_whole (g o n c : Nat) (l : List Int) (w : World) (hr : Rd w (some ⟨g, o, none⟩) l) (hn : Hid (l.length = n)) (hnc : n ≤ c) (hm : c ≤ 9223372036854775807) (hg : g < w.heap.size) (hG : Glob w) (m : Nat) (hm0 : 0 < m) (hmb : m ≤ 4294967295) (hs : m + 2 ≤ n) (c0 : w.cell? ⟨g, o, none⟩ = some (.int .u8 196)) (hv : at_ l 1 = (m : Int)) :
    Calls Tryd.prog 121 #[.slice (some ⟨g, o, none⟩) n c, .slice none 0 0, .bool false] w (RetB w ((l.drop 2).take m) (n - 2 - m) .ok) := by
  have HG : Hid (Glob w) := hG
  have hA : ∀ (W : World) (o' : Obj) (j : Nat), g < W.heap.size → (W.alloc o').cell? ⟨g, j, none⟩ = W.cell? ⟨g, j, none⟩ := fun W o' j h => World.cell?_alloc_lt W o' ⟨g, j, none⟩ h
  obtain ⟨gs, gr⟩ := hG
  have c1 : w.cell? ⟨g, o + 1, none⟩ = some (.int .u8 (at_ l 1)) := by
    obtain ⟨g', o', hA', -, hc⟩ := hr.2 (by have := hn.out; omega)
    injection hA' with hA'
    injection hA' with h1 h2
    subst h1; subst h2
    exact hc 1 (by have := hn.out; omega)
  rw [hv] at c1
  have ec : ¬ c = 1 := by omega
  have HV := Lib.hid hv
  clear hv
  have HK : Hid (((l.drop 2).take m).length = m) := by show _ = _; rw [List.length_take, List.length_drop, hn.out]; omega
  have hmk := run_make_bytes m (by omega)
  have hrk := hr.cutTake 2 m
  have i1 : (m : Int) ≤ ((n - 2 : Nat) : Int) := by omega
  have i2 : ¬ ((n - 2 : Nat) : Int) < (m : Int) := by omega
  have e0 : ¬ m = 0 := by omega
  have ec3 : ¬ c - 1 = 1 := by omega
  go_enter Tryd.func121, Tryd.ntmps121
  go_wp2_with (first | fail | ((refine copy_rd rfl (.tmp 83) (.tmp 84) (by rfl) _ _ _ _ _ _ (by rfl) (by rfl) w.heap.size 0 (List.replicate m 0) (row_new _ _) ((l.drop 2).take m) (by rw [HK.out]; exact (Nat.min_eq_right (by omega)).symm) (fun _ => rfl) (by rw [HK.out]; simp) (hrk.alloc _) w.heap.size w ((Below.refl _ _).alloc (Nat.le_refl _) _) (Nat.le_refl _) ?_); intro w2 hrow hb2; rw [HK.out]) | go_in)
  all_goals
    go_ret3
    exact retB_mk hrow HK.out (by omega) (Nat.le_refl _) hb2

set_option maxHeartbeats 1000000 in
set_option maxRecDepth 100000 in
theorem rb_2_empty (g o n c : Nat) (l : List Int) (w : World) (hr : Rd w (some ⟨g, o, none⟩) l) (hn : Hid (l.length = n)) (hnc : n ≤ c) (hm : c ≤ 9223372036854775807) (hg : g < w.heap.size) (hG : Glob w) (hs : 3 ≤ n) (c0 : w.cell? ⟨g, o, none⟩ = some (.int .u8 197)) (hv : be2 l 1 = 0) :
    Calls Tryd.prog 121 #[.slice (some ⟨g, o, none⟩) n c, .slice none 0 0, .bool false] w (RetB w [] (n - 3) .ok) := by
  have HG : Hid (Glob w) := hG
  have hA : ∀ (W : World) (o' : Obj) (j : Nat), g < W.heap.size → (W.alloc o').cell? ⟨g, j, none⟩ = W.cell? ⟨g, j, none⟩ := fun W o' j h => World.cell?_alloc_lt W o' ⟨g, j, none⟩ h
  obtain ⟨gs, gr⟩ := hG
  have ec : ¬ c = 1 := by omega
  have HV := Lib.hid hv
  clear hv
  go_enter Tryd.func121, Tryd.ntmps121
  go_wp2_with (first | (go_at_call 105; refine (u16_c _ _ _ _ (l.drop 1) _ (hr.cut 1) (by simp only [List.length_drop]; rw [hn.out]) (by omega)).mono ?_; rintro e w1 ⟨rfl, hb1⟩; rw [be2_drop]; have gs1 := (HG.out.mono hb1).1; rw [HV.out]) | ((with_reducible refine wpList_copy_nothing rfl (.tmp 83) (.tmp 84) 22 22 rfl 5 Tryd.underlying22 u8_size _ _ _ _ _ _ rfl rfl (by simp) ?_)) | go_in)
  all_goals
    go_ret3
    exact ⟨_, _, _, rfl, World.ownsRow_nil _ _ _ _, by first | exact Below.refl _ _ | assumption⟩

set_option maxHeartbeats 2000000 in
set_option maxRecDepth 100000 in
theorem rb_2_whole (g o n c : Nat) (l : List Int) (w : World) (hr : Rd w (some ⟨g, o, none⟩) l) (hn : Hid (l.length = n)) (hnc : n ≤ c) (hm : c ≤ 9223372036854775807) (hg : g < w.heap.size) (hG : Glob w) (m : Nat) (hm0 : 0 < m) (hmb : m ≤ 4294967295) (hs : m + 3 ≤ n) (c0 : w.cell? ⟨g, o, none⟩ = some (.int .u8 197)) (hv : be2 l 1 = (m : Int)) :
    Calls Tryd.prog 121 #[.slice (some ⟨g, o, none⟩) n c, .slice none 0 0, .bool false] w (RetB w ((l.drop 3).take m) (n - 3 - m) .ok) := by
  have HG : Hid (Glob w) := hG
  have hA : ∀ (W : World) (o' : Obj) (j : Nat), g < W.heap.size → (W.alloc o').cell? ⟨g, j, none⟩ = W.cell? ⟨g, j, none⟩ := fun W o' j h => World.cell?_alloc_lt W o' ⟨g, j, none⟩ h
  obtain ⟨gs, gr⟩ := hG
  have ec : ¬ c = 1 := by omega
  have HV := Lib.hid hv
  clear hv
  have HK : Hid (((l.drop 3).take m).length = m) := by show _ = _; rw [List.length_take, List.length_drop, hn.out]; omega
  have hmk := run_make_bytes m (by omega)
  have hrk := hr.cutTake 3 m
  have i1 : (m : Int) ≤ ((n - 3 : Nat) : Int) := by omega
  have i2 : ¬ ((n - 3 : Nat) : Int) < (m : Int) := by omega
  have e0 : ¬ m = 0 := by omega
  have ec3 : ¬ c - 1 = 2 := by omega
  go_enter Tryd.func121, Tryd.ntmps121
  go_wp2_with (first | (go_at_call 105; refine (u16_c _ _ _ _ (l.drop 1) _ (hr.cut 1) (by simp only [List.length_drop]; rw [hn.out]) (by omega)).mono ?_; rintro e w1 ⟨rfl, hb1⟩; rw [be2_drop]; have gs1 := (HG.out.mono hb1).1; rw [HV.out]) | ((refine copy_rd rfl (.tmp 83) (.tmp 84) (by rfl) _ _ _ _ _ _ (by rfl) (by rfl) w1.heap.size 0 (List.replicate m 0) (row_new _ _) ((l.drop 3).take m) (by rw [HK.out]; exact (Nat.min_eq_right (by omega)).symm) (fun _ => rfl) (by rw [HK.out]; simp) ((hrk.mono hb1).alloc _) w.heap.size w (((below_step hb1 (Below.refl _ _)).alloc hb1.size _)) hb1.size ?_); intro w2 hrow hb2; rw [HK.out]) | go_in)
  all_goals
    go_ret3
    exact retB_mk hrow HK.out (by omega) hb1.size hb2

set_option maxHeartbeats 1000000 in
set_option maxRecDepth 100000 in
theorem rb_4_empty (g o n c : Nat) (l : List Int) (w : World) (hr : Rd w (some ⟨g, o, none⟩) l) (hn : Hid (l.length = n)) (hnc : n ≤ c) (hm : c ≤ 9223372036854775807) (hg : g < w.heap.size) (hG : Glob w) (hs : 5 ≤ n) (c0 : w.cell? ⟨g, o, none⟩ = some (.int .u8 198)) (hv : be4 l 1 = 0) :
    Calls Tryd.prog 121 #[.slice (some ⟨g, o, none⟩) n c, .slice none 0 0, .bool false] w (RetB w [] (n - 5) .ok) := by
  have HG : Hid (Glob w) := hG
  have hA : ∀ (W : World) (o' : Obj) (j : Nat), g < W.heap.size → (W.alloc o').cell? ⟨g, j, none⟩ = W.cell? ⟨g, j, none⟩ := fun W o' j h => World.cell?_alloc_lt W o' ⟨g, j, none⟩ h
  obtain ⟨gs, gr⟩ := hG
  have ec : ¬ c = 1 := by omega
  have HV := Lib.hid hv
  clear hv
  go_enter Tryd.func121, Tryd.ntmps121
  go_wp2_with (first | (go_at_call 106; refine (u32_c _ _ _ _ (l.drop 1) _ (hr.cut 1) (by simp only [List.length_drop]; rw [hn.out]) (by omega)).mono ?_; rintro e w1 ⟨rfl, hb1⟩; rw [be4_drop]; have gs1 := (HG.out.mono hb1).1; rw [HV.out]) | ((with_reducible refine wpList_copy_nothing rfl (.tmp 83) (.tmp 84) 22 22 rfl 5 Tryd.underlying22 u8_size _ _ _ _ _ _ rfl rfl (by simp) ?_)) | go_in)
  all_goals
    go_ret3
    exact ⟨_, _, _, rfl, World.ownsRow_nil _ _ _ _, by first | exact Below.refl _ _ | assumption⟩

set_option maxHeartbeats 2000000 in
set_option maxRecDepth 100000 in
theorem rb_4_whole (g o n c : Nat) (l : List Int) (w : World) (hr : Rd w (some ⟨g, o, none⟩) l) (hn : Hid (l.length = n)) (hnc : n ≤ c) (hm : c ≤ 9223372036854775807) (hg : g < w.heap.size) (hG : Glob w) (m : Nat) (hm0 : 0 < m) (hmb : m ≤ 4294967295) (hs : m + 5 ≤ n) (c0 : w.cell? ⟨g, o, none⟩ = some (.int .u8 198)) (hv : be4 l 1 = (m : Int)) :
    Calls Tryd.prog 121 #[.slice (some ⟨g, o, none⟩) n c, .slice none 0 0, .bool false] w (RetB w ((l.drop 5).take m) (n - 5 - m) .ok) := by
  have HG : Hid (Glob w) := hG
  have hA : ∀ (W : World) (o' : Obj) (j : Nat), g < W.heap.size → (W.alloc o').cell? ⟨g, j, none⟩ = W.cell? ⟨g, j, none⟩ := fun W o' j h => World.cell?_alloc_lt W o' ⟨g, j, none⟩ h
  obtain ⟨gs, gr⟩ := hG
  have ec : ¬ c = 1 := by omega
  have HV := Lib.hid hv
  clear hv
  have HK : Hid (((l.drop 5).take m).length = m) := by show _ = _; rw [List.length_take, List.length_drop, hn.out]; omega
  have hmk := run_make_bytes m (by omega)
  have hrk := hr.cutTake 5 m
  have i1 : (m : Int) ≤ ((n - 5 : Nat) : Int) := by omega
  have i2 : ¬ ((n - 5 : Nat) : Int) < (m : Int) := by omega
  have e0 : ¬ m = 0 := by omega
  have ec3 : ¬ c - 1 = 4 := by omega
  go_enter Tryd.func121, Tryd.ntmps121
  go_wp2_with (first | (go_at_call 106; refine (u32_c _ _ _ _ (l.drop 1) _ (hr.cut 1) (by simp only [List.length_drop]; rw [hn.out]) (by omega)).mono ?_; rintro e w1 ⟨rfl, hb1⟩; rw [be4_drop]; have gs1 := (HG.out.mono hb1).1; rw [HV.out]) | ((refine copy_rd rfl (.tmp 83) (.tmp 84) (by rfl) _ _ _ _ _ _ (by rfl) (by rfl) w1.heap.size 0 (List.replicate m 0) (row_new _ _) ((l.drop 5).take m) (by rw [HK.out]; exact (Nat.min_eq_right (by omega)).symm) (fun _ => rfl) (by rw [HK.out]; simp) ((hrk.mono hb1).alloc _) w.heap.size w (((below_step hb1 (Below.refl _ _)).alloc hb1.size _)) hb1.size ?_); intro w2 hrow hb2; rw [HK.out]) | go_in)
  all_goals
    go_ret3
    exact retB_mk hrow HK.out (by omega) hb1.size hb2

set_option maxHeartbeats 1000000 in
set_option maxRecDepth 100000 in
theorem rb_none (A : Option Addr) (c : Nat) (w : World) (hG : Glob w) : Calls Tryd.prog 121 #[.slice A 0 c, .slice none 0 0, .bool false] w (RetB w [] 0 .short) := by
  obtain ⟨gs, gr⟩ := hG
  go_enter Tryd.func121, Tryd.ntmps121
  go_wp2_with fail
  all_goals try (go_quiet (fail); go_wp2_with fail)
  all_goals
    go_ret3
    exact ⟨_, _, _, rfl, World.ownsRow_nil _ _ _ _, by first | exact Below.refl _ _ | exact below_drewN (Below.refl _ _) _⟩

theorem rb_c (A : Option Addr) (n c : Nat) (l : List Int) (w : World) (hr : Rd w A l) (hn : l.length = n) (hnc : n ≤ c) (hm : c ≤ maxLen) (hG : Glob w) :
    Calls Tryd.prog 121 #[.slice A n c, .slice none 0 0, .bool false] w (RetB w (rdBin l).1 (rdBin l).2.1 (rdBin l).2.2) := by
  have hm' : c ≤ 9223372036854775807 := by simp only [maxLen] at hm; omega
  have HN : Hid (l.length = n) := hn
  unfold rdBin binH
  rw [hn]
  rcases Nat.eq_zero_or_pos n with rfl | hpos
  · rw [if_pos rfl, bodyOf_err _ _ _ _ (by decide)]; exact rb_none A c w hG
  obtain ⟨g, o, rfl, hg, -, hc⟩ := hr.open_ (by omega)
  have c0 := hc 0 (by omega)
  rw [Nat.add_zero] at c0
  have hb := hr.1.at_ 0
  have hb1 := hr.1.at_ 1
  have hb2 := be2_range hr.1 1
  have hb4 := be4_range hr.1 1
  rw [if_neg (by omega)]
  by_cases h196 : at_ l 0 = 196
  · rw [if_pos h196]
    rw [h196] at c0
    by_cases hs : n < 2
    · rw [if_pos hs, bodyOf_err _ _ _ _ (by decide)]; exact rb_1_none g o n c l w hr HN hnc hm' hg hG hpos hs c0
    rw [if_neg hs]
    by_cases hv : (l.length : Int) - (2 : Nat) < at_ l 1
    · rw [bodyOf_short _ _ _ hv]; exact rb_1_short g o n c l w hr HN hnc hm' hg hG (by omega) c0 (by omega)
    rw [bodyOf_ok _ _ _ hv]
    obtain ⟨m, hm0⟩ := Int.eq_ofNat_of_zero_le (show 0 ≤ at_ l 1 by omega)
    by_cases hz : at_ l 1 = 0
    · have hk := rb_1_empty g o n c l w hr HN hnc hm' hg hG (by omega) c0 hz
      rw [hz]; simpa [hn] using hk
    · rw [hn, hm0]; exact rb_1_whole g o n c l w hr HN hnc hm' hg hG m (by omega) (by omega) (by omega) c0 hm0
  rw [if_neg h196]
  by_cases h197 : at_ l 0 = 197
  · rw [if_pos h197]
    rw [h197] at c0
    by_cases hs : n < 3
    · rw [if_pos hs, bodyOf_err _ _ _ _ (by decide)]; exact rb_2_none g o n c l w hr HN hnc hm' hg hG hpos hs c0
    rw [if_neg hs]
    by_cases hv : (l.length : Int) - (3 : Nat) < be2 l 1
    · rw [bodyOf_short _ _ _ hv]; exact rb_2_short g o n c l w hr HN hnc hm' hg hG (by omega) c0 (by omega)
    rw [bodyOf_ok _ _ _ hv]
    obtain ⟨m, hm0⟩ := Int.eq_ofNat_of_zero_le (show 0 ≤ be2 l 1 by omega)
    by_cases hz : be2 l 1 = 0
    · have hk := rb_2_empty g o n c l w hr HN hnc hm' hg hG (by omega) c0 hz
      rw [hz]; simpa [hn] using hk
    · rw [hn, hm0]; exact rb_2_whole g o n c l w hr HN hnc hm' hg hG m (by omega) (by omega) (by omega) c0 hm0
  rw [if_neg h197]
  by_cases h198 : at_ l 0 = 198
  · rw [if_pos h198]
    rw [h198] at c0
    by_cases hs : n < 5
    · rw [if_pos hs, bodyOf_err _ _ _ _ (by decide)]; exact rb_4_none g o n c l w hr HN hnc hm' hg hG hpos hs c0
    rw [if_neg hs]
    by_cases hv : (l.length : Int) - (5 : Nat) < be4 l 1
    · rw [bodyOf_short _ _ _ hv]; exact rb_4_short g o n c l w hr HN hnc hm' hg hG (by omega) c0 (by omega)
    rw [bodyOf_ok _ _ _ hv]
    obtain ⟨m, hm0⟩ := Int.eq_ofNat_of_zero_le (show 0 ≤ be4 l 1 by omega)
    by_cases hz : be4 l 1 = 0
    · have hk := rb_4_empty g o n c l w hr HN hnc hm' hg hG (by omega) c0 hz
      rw [hz]; simpa [hn] using hk
    · rw [hn, hm0]; exact rb_4_whole g o n c l w hr HN hnc hm' hg hG m (by omega) (by omega) (by omega) c0 hm0
  rw [if_neg h198]
  rw [bodyOf_err _ _ _ _ (by unfold bp; split <;> simp [Er.code])]
  exact rb_other g o n c l w hr HN hnc hm' hg hG hpos _ hb.1 hb.2 h196 h197 h198 c0

set_option maxHeartbeats 1000000 in
set_option maxRecDepth 100000 in
theorem readBin_c (A : Option Addr) (n c : Nat) (l : List Int) (w : World) (hr : Rd w A l) (hn : l.length = n) (hnc : n ≤ c) (hm : c ≤ maxLen) (hG : Glob w) :
    Calls Tryd.prog 82 #[.slice A n c, .slice none 0 0] w (RetB w (rdBin l).1 (rdBin l).2.1 (rdBin l).2.2) := by
  have hcall := rb_c A n c l w hr hn hnc hm hG
  generalize rdBin l = R at hcall ⊢
  obtain ⟨L, k, r⟩ := R
  simp only at hcall
  simp only []
  clear hr hn hnc hm hG
  go_enter Tryd.func82, Tryd.ntmps82
  go_wp2_with fail
  ((with_reducible refine hcall.mono ?_); rintro e w1 ⟨v1, A2, c2, rfl, hown1, hb1⟩)
  go_wp2_with fail
  go_ret3
  exact ⟨_, _, _, rfl, hown1, hb1⟩

/-- 'The call answers bytes of its own that read l, how many are left, and a code.' -/
def MadeB (w : World) (l : List Int) (k : Nat) (x : Er) (e : Ending) (w' : World) : Prop := ∃ v, e = .returned (.tuple #[v, .int .i64 (k : Int), .int .i64 x.code]) ∧ Own w' w.heap.size v l ∧ Below w.heap.size w w'

set_option maxHeartbeats 1000000 in
set_option maxRecDepth 100000 in
theorem implBin_c (A : Option Addr) (n c : Nat) (l : List Int) (w : World) (hr : Rd w A l) (hn : l.length = n) (hle : n ≤ 1000000000000) (hG : Glob w) :
    Calls Tryd.prog 39 #[.slice A n c] w (MadeB w (rdBin l).1 (rdBin l).2.1 (rdBin l).2.2) := by
  have HN : Hid (l.length = n) := hn
  have HG : Hid (Glob w) := hG
  have hcall : ∀ (A : Option Addr) (c : Nat) (w : World), Rd w A l → l.length ≤ c → c ≤ maxLen → Glob w → Calls Tryd.prog 82 #[.slice A l.length c, .slice none 0 0] w (RetB w (rdBin l).1 (rdBin l).2.1 (rdBin l).2.2) := fun A c w a b d e => readBin_c A _ c l w a rfl b d e
  have herr := bodyOf_nil l (binH l)
  have hbl := bodyOf_len l (binH l)
  have hbb := bodyOf_byts l (binH l) hr.1
  rw [show bodyOf l (binH l) = rdBin l from rfl] at herr hbl hbb
  rw [hn] at hbl
  generalize rdBin l = R at hcall herr hbl hbb ⊢
  obtain ⟨L, k, r⟩ := R
  simp only at hcall herr hbl hbb
  simp only []
  clear hn hG
  go_enter Tryd.func39, Tryd.ntmps39
  go_wp2_with fail
  ((with_reducible refine (clone_c _ _ _ l _ hr HN.out hle).mono ?_); rintro e w1 ⟨v, rfl, hown, hb1⟩)
  obtain ⟨A1, c1, rfl, hc1, hm1, hr1⟩ := hown.open_ hr.1
  go_wp2_with fail
  ((with_reducible refine (hcall _ _ _ hr1 hc1 hm1 (HG.out.mono hb1)).mono ?_); rintro e w2 ⟨v2, A2, c2, rfl, hown2, hb2⟩)
  have b2 := below_step hb1 hb2
  cases r
  · obtain ⟨A3, c3, rfl, -, -, hr3⟩ := hown2.open_ hbb
    go_wp2_with fail
    ((with_reducible refine (clone_c _ _ _ L _ hr3 rfl (by omega)).mono ?_); rintro e w3 ⟨v3, rfl, hown3, hb3⟩)
    go_wp2_with fail
    go_ret3
    exact ⟨_, rfl, hown3.less b2.size, below_step b2 hb3⟩
  all_goals
    obtain rfl := herr (by intro h; cases h)
    go_wp2_with fail
    ((with_reducible refine (codeOf_c _ _ ((HG.out.mono hb1).mono hb2)).mono ?_); rintro e w3 ⟨rfl, hb3⟩)
    go_wp2_with fail
    go_ret3
    exact ⟨_, rfl, World.ownsRow_nil _ _ _ _, below_step b2 hb3⟩

end Go.Proofs.YtpmdlbbgljcloaaDoor
