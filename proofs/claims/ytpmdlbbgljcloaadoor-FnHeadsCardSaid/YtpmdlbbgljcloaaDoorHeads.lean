/- msgp's ReadArrayHeaderBytes and ReadMapHeaderBytes, and the thin package's ReadArrayHead and ReadMapHead, walked. Conditions: the slice reads as bytes; the two sentinels' variables hold what the program lays in them. -/
import Derived.Test.YtpmdlbbgljcloaaDoorRead
import Derived.Test.YtpmdlbbgljcloaaDoorInts
import Derived.Test.YtpmdlbbgljcloaaDoorSame
namespace Go.Proofs.YtpmdlbbgljcloaaDoor
open Go Go.RowKit Go.Lib
set_option linter.unusedVariables false

/-- An error comes with 0. -/
def ErrZ (r : Int × Nat × Er) : Prop := r.2.2 ≠ .ok → r.1 = 0
theorem errZ_ite {p : Prop} [Decidable p] {a b : Int × Nat × Er} (ha : ErrZ a) (hb : ErrZ b) : ErrZ (if p then a else b) := by split <;> assumption
theorem errZ_ok (x : Int) (k : Nat) : ErrZ (x, k, .ok) := fun h => absurd rfl h
theorem errZ_zero (k : Nat) (r : Er) : ErrZ (0, k, r) := fun _ => rfl
theorem last4 (x : Int) (h0 : 0 ≤ x) (h1 : x < 256) : bits .and .u8 x 15 = x % 16 := by
  rw [u8_and x 15 h0 h1 (by omega) (by omega)]
  show ((x.toNat &&& 15 : Nat) : Int) = x % 16
  rw [nat_mask4]
  omega

set_option maxHeartbeats 1000000 in
set_option maxRecDepth 100000 in
theorem ha_fix (g o n c : Nat) (l : List Int) (w : World) (hr : Rd w (some ⟨g, o, none⟩) l) (hn : Hid (l.length = n)) (hnc : n ≤ c) (hm : c ≤ 9223372036854775807) (hg : g < w.heap.size) (hG : Glob w) (hs : 1 ≤ n) (x : Int) (x0 : 144 ≤ x) (x1 : x < 160) (c0 : w.cell? ⟨g, o, none⟩ = some (.int .u8 x)) :
    Calls Tryd.prog 86 #[.slice (some ⟨g, o, none⟩) n c] w (Ret3 w (.int .u32 (x % 16)) (n - 1) .ok) := by
  have hA : ∀ (W : World) (o' : Obj) (j : Nat), g < W.heap.size → (W.alloc o').cell? ⟨g, j, none⟩ = W.cell? ⟨g, j, none⟩ := fun W o' j h => World.cell?_alloc_lt W o' ⟨g, j, none⟩ h
  obtain ⟨gs, gr⟩ := hG
  have e1 : (bits .and .u8 x 240 == 144) = true := by rw [and240 x (by omega) (by omega)]; simp; omega
  have e2 := last4 x (by omega) (by omega)
  have t0 : 0 ≤ x % 16 := by omega
  have t1 : x % 16 < 16 := by omega
  generalize x % 16 = t at *
  go_enter Tryd.func86, Tryd.ntmps86
  go_wp2_with (first | fail | go_in)
  all_goals
    go_ret3
    exact ⟨_, _, rfl, by first | exact Below.refl _ _ | assumption⟩

set_option maxHeartbeats 1000000 in
set_option maxRecDepth 100000 in
theorem ha_other (g o n c : Nat) (l : List Int) (w : World) (hr : Rd w (some ⟨g, o, none⟩) l) (hn : Hid (l.length = n)) (hnc : n ≤ c) (hm : c ≤ 9223372036854775807) (hg : g < w.heap.size) (hG : Glob w) (hs : 1 ≤ n) (x : Int) (x0 : 0 ≤ x) (x1 : x < 256) (y0 : x < 144 ∨ 160 ≤ x) (y1 : x ≠ 220) (y2 : x ≠ 221) (c0 : w.cell? ⟨g, o, none⟩ = some (.int .u8 x)) :
    Calls Tryd.prog 86 #[.slice (some ⟨g, o, none⟩) n c] w (Ret3 w (.int .u32 0) 0 (bp 4 x)) := by
  have hA : ∀ (W : World) (o' : Obj) (j : Nat), g < W.heap.size → (W.alloc o').cell? ⟨g, j, none⟩ = W.cell? ⟨g, j, none⟩ := fun W o' j h => World.cell?_alloc_lt W o' ⟨g, j, none⟩ h
  obtain ⟨gs, gr⟩ := hG
  have e1 : (bits .and .u8 x 240 == 144) = false := by rw [and240 x (by omega) (by omega)]; simp; omega
  have e2 : (x == 220) = false := by simpa using y1
  have e3 : (x == 221) = false := by simpa using y2
  clear y0 y1 y2
  go_enter Tryd.func86, Tryd.ntmps86
  go_wp2_with (first | (go_at_call 108; refine (badPrefix_c _ _ _ (by omega) (by omega)).mono ?_; rintro e w1 ⟨rfl, hb1⟩) | go_in)
  all_goals
    go_ret3
    exact ⟨_, _, rfl, by first | exact Below.refl _ _ | assumption⟩

set_option maxHeartbeats 1000000 in
set_option maxRecDepth 100000 in
theorem ha_2_short (g o n c : Nat) (l : List Int) (w : World) (hr : Rd w (some ⟨g, o, none⟩) l) (hn : Hid (l.length = n)) (hnc : n ≤ c) (hm : c ≤ 9223372036854775807) (hg : g < w.heap.size) (hG : Glob w) (hs : 1 ≤ n) (hs2 : n < 3) (c0 : w.cell? ⟨g, o, none⟩ = some (.int .u8 220)) :
    Calls Tryd.prog 86 #[.slice (some ⟨g, o, none⟩) n c] w (Ret3 w (.int .u32 0) 0 .short) := by
  have hA : ∀ (W : World) (o' : Obj) (j : Nat), g < W.heap.size → (W.alloc o').cell? ⟨g, j, none⟩ = W.cell? ⟨g, j, none⟩ := fun W o' j h => World.cell?_alloc_lt W o' ⟨g, j, none⟩ h
  obtain ⟨gs, gr⟩ := hG
  go_enter Tryd.func86, Tryd.ntmps86
  go_wp2_with (first | fail | go_in)
  all_goals
    go_ret3
    exact ⟨_, _, rfl, by first | exact Below.refl _ _ | assumption⟩

set_option maxHeartbeats 1000000 in
set_option maxRecDepth 100000 in
theorem ha_2_whole (g o n c : Nat) (l : List Int) (w : World) (hr : Rd w (some ⟨g, o, none⟩) l) (hn : Hid (l.length = n)) (hnc : n ≤ c) (hm : c ≤ 9223372036854775807) (hg : g < w.heap.size) (hG : Glob w) (hs : 3 ≤ n) (c0 : w.cell? ⟨g, o, none⟩ = some (.int .u8 220)) :
    Calls Tryd.prog 86 #[.slice (some ⟨g, o, none⟩) n c] w (Ret3 w (.int .u32 (be2 l 1)) (n - 3) .ok) := by
  have hA : ∀ (W : World) (o' : Obj) (j : Nat), g < W.heap.size → (W.alloc o').cell? ⟨g, j, none⟩ = W.cell? ⟨g, j, none⟩ := fun W o' j h => World.cell?_alloc_lt W o' ⟨g, j, none⟩ h
  obtain ⟨gs, gr⟩ := hG
  have ec : ¬ c = 1 := by omega
  obtain ⟨b0, b1⟩ := be2_range hr.1 1
  go_enter Tryd.func86, Tryd.ntmps86
  go_wp2_with (first | (go_at_call 105; refine (u16_c _ _ _ _ (l.drop 1) _ (hr.cut 1) (by simp only [List.length_drop]; rw [hn.out]) (by omega)).mono ?_; rintro e w1 ⟨rfl, hb1⟩; rw [be2_drop]) | go_in)
  all_goals
    go_ret3
    exact ⟨_, _, rfl, by first | exact Below.refl _ _ | assumption⟩

set_option maxHeartbeats 1000000 in
set_option maxRecDepth 100000 in
theorem ha_4_short (g o n c : Nat) (l : List Int) (w : World) (hr : Rd w (some ⟨g, o, none⟩) l) (hn : Hid (l.length = n)) (hnc : n ≤ c) (hm : c ≤ 9223372036854775807) (hg : g < w.heap.size) (hG : Glob w) (hs : 1 ≤ n) (hs2 : n < 5) (c0 : w.cell? ⟨g, o, none⟩ = some (.int .u8 221)) :
    Calls Tryd.prog 86 #[.slice (some ⟨g, o, none⟩) n c] w (Ret3 w (.int .u32 0) 0 .short) := by
  have hA : ∀ (W : World) (o' : Obj) (j : Nat), g < W.heap.size → (W.alloc o').cell? ⟨g, j, none⟩ = W.cell? ⟨g, j, none⟩ := fun W o' j h => World.cell?_alloc_lt W o' ⟨g, j, none⟩ h
  obtain ⟨gs, gr⟩ := hG
  go_enter Tryd.func86, Tryd.ntmps86
  go_wp2_with (first | fail | go_in)
  all_goals
    go_ret3
    exact ⟨_, _, rfl, by first | exact Below.refl _ _ | assumption⟩

set_option maxHeartbeats 1000000 in
set_option maxRecDepth 100000 in
theorem ha_4_whole (g o n c : Nat) (l : List Int) (w : World) (hr : Rd w (some ⟨g, o, none⟩) l) (hn : Hid (l.length = n)) (hnc : n ≤ c) (hm : c ≤ 9223372036854775807) (hg : g < w.heap.size) (hG : Glob w) (hs : 5 ≤ n) (c0 : w.cell? ⟨g, o, none⟩ = some (.int .u8 221)) :
    Calls Tryd.prog 86 #[.slice (some ⟨g, o, none⟩) n c] w (Ret3 w (.int .u32 (be4 l 1)) (n - 5) .ok) := by
  have hA : ∀ (W : World) (o' : Obj) (j : Nat), g < W.heap.size → (W.alloc o').cell? ⟨g, j, none⟩ = W.cell? ⟨g, j, none⟩ := fun W o' j h => World.cell?_alloc_lt W o' ⟨g, j, none⟩ h
  obtain ⟨gs, gr⟩ := hG
  have ec : ¬ c = 1 := by omega
  obtain ⟨b0, b1⟩ := be4_range hr.1 1
  go_enter Tryd.func86, Tryd.ntmps86
  go_wp2_with (first | (go_at_call 106; refine (u32_c _ _ _ _ (l.drop 1) _ (hr.cut 1) (by simp only [List.length_drop]; rw [hn.out]) (by omega)).mono ?_; rintro e w1 ⟨rfl, hb1⟩; rw [be4_drop]) | go_in)
  all_goals
    go_ret3
    exact ⟨_, _, rfl, by first | exact Below.refl _ _ | assumption⟩

/-- The value, what is left, and the error. -/
def rdArr (l : List Int) : Int × Nat × Er :=
  if l.length = 0 then (0, 0, .short) else
  if 144 ≤ at_ l 0 ∧ at_ l 0 < 160 then (at_ l 0 % 16, l.length - 1, .ok) else
  if at_ l 0 = 220 then (if l.length < 3 then (0, 0, .short) else (be2 l 1, l.length - 3, .ok)) else
  if at_ l 0 = 221 then (if l.length < 5 then (0, 0, .short) else (be4 l 1, l.length - 5, .ok)) else
  (0, 0, bp 4 (at_ l 0))

set_option maxHeartbeats 1000000 in
set_option maxRecDepth 100000 in
theorem ha_empty (A : Option Addr) (c : Nat) (w : World) (hG : Glob w) : Calls Tryd.prog 86 #[.slice A 0 c] w (Ret3 w (.int .u32 0) 0 .short) := by
  obtain ⟨gs, gr⟩ := hG
  go_enter Tryd.func86, Tryd.ntmps86
  go_wp2_with fail
  all_goals try (go_quiet (fail); go_wp2_with fail)
  all_goals
    go_ret3
    exact ⟨_, _, rfl, by first | exact Below.refl _ _ | exact below_drewN (Below.refl _ _) _⟩

theorem ha_c (A : Option Addr) (n c : Nat) (l : List Int) (w : World) (hr : Rd w A l) (hn : l.length = n) (hnc : n ≤ c) (hm : c ≤ maxLen) (hG : Glob w) :
    Calls Tryd.prog 86 #[.slice A n c] w (Ret3 w (.int .u32 (rdArr l).1) (rdArr l).2.1 (rdArr l).2.2) := by
  have hm' : c ≤ 9223372036854775807 := by simp only [maxLen] at hm; omega
  have HN : Hid (l.length = n) := hn
  unfold rdArr
  rw [hn]
  rcases Nat.eq_zero_or_pos n with rfl | hpos
  · exact ha_empty A c w hG
  obtain ⟨g, o, rfl, hg, -, hc⟩ := hr.open_ (by omega)
  have c0 := hc 0 (by omega)
  rw [Nat.add_zero] at c0
  have hb := hr.1.at_ 0
  rw [if_neg (by omega)]
  by_cases h1 : 144 ≤ at_ l 0 ∧ at_ l 0 < 160
  · rw [if_pos h1]; exact ha_fix g o n c l w hr HN hnc hm' hg hG hpos _ h1.1 h1.2 c0
  rw [if_neg h1]
  by_cases e16 : at_ l 0 = 220
  · rw [if_pos e16]
    rw [e16] at c0
    by_cases hs : n < 3
    · rw [if_pos hs]; exact ha_2_short g o n c l w hr HN hnc hm' hg hG hpos hs c0
    · rw [if_neg hs]; exact ha_2_whole g o n c l w hr HN hnc hm' hg hG (by omega) c0
  rw [if_neg e16]
  by_cases e32 : at_ l 0 = 221
  · rw [if_pos e32]
    rw [e32] at c0
    by_cases hs : n < 5
    · rw [if_pos hs]; exact ha_4_short g o n c l w hr HN hnc hm' hg hG hpos hs c0
    · rw [if_neg hs]; exact ha_4_whole g o n c l w hr HN hnc hm' hg hG (by omega) c0
  rw [if_neg e32]
  exact ha_other g o n c l w hr HN hnc hm' hg hG hpos _ hb.1 hb.2 (by omega) e16 e32 c0

theorem rdArr_err (l : List Int) (h : (rdArr l).2.2 ≠ .ok) : (rdArr l).1 = 0 := by
  have key : ErrZ (rdArr l) := by
    unfold rdArr
    repeat' first | exact errZ_ok _ _ | exact errZ_zero _ _ | refine errZ_ite ?_ ?_
  exact key h
theorem rdArr_range (l : List Int) (hb : Byts l) : 0 ≤ (rdArr l).1 ∧ (rdArr l).1 ≤ 4294967295 := by
  have a2 := be2_range hb 1
  have a4 := be4_range hb 1
  unfold rdArr
  (repeat' split) <;> simp only [] <;> omega

set_option maxHeartbeats 1000000 in
set_option maxRecDepth 100000 in
theorem implArr_c (A : Option Addr) (n c : Nat) (l : List Int) (w : World) (hr : Rd w A l) (hn : l.length = n) (hle : n ≤ 1000000000000) (hG : Glob w) :
    Calls Tryd.prog 44 #[.slice A n c] w fun e w' => e = .returned (.tuple #[.int .u32 (rdArr l).1, .int .i64 (rdArr l).2.1, .int .i64 (rdArr l).2.2.code]) ∧ Below w.heap.size w w' := by
  have HN : Hid (l.length = n) := hn
  have HG : Hid (Glob w) := hG
  have hcall : ∀ (A : Option Addr) (c : Nat) (w : World), Rd w A l → l.length ≤ c → c ≤ maxLen → Glob w → Calls Tryd.prog 86 #[.slice A l.length c] w (Ret3 w (.int .u32 (rdArr l).1) (rdArr l).2.1 (rdArr l).2.2) := fun A c w a b d e => ha_c A _ c l w a rfl b d e
  have herr := rdArr_err l
  generalize rdArr l = R at hcall herr ⊢
  obtain ⟨x, k, r⟩ := R
  simp only at hcall herr
  simp only []
  clear hn hG
  go_enter Tryd.func44, Tryd.ntmps44
  go_wp2_with fail
  ((with_reducible refine (clone_c _ _ _ l _ hr HN.out hle).mono ?_); rintro e w1 ⟨v, rfl, hown, hb1⟩)
  obtain ⟨A1, c1, rfl, hc1, hm1, hr1⟩ := hown.open_ hr.1
  go_wp2_with fail
  ((with_reducible refine (hcall _ _ _ hr1 hc1 hm1 (HG.out.mono hb1)).mono ?_); rintro e w2 ⟨A2, c2, rfl, hb2⟩)
  cases r
  · go_wp2_with fail
    go_ret3
    exact ⟨rfl, below_step hb1 hb2⟩
  all_goals
    obtain rfl := herr (by intro h; cases h)
    go_wp2_with fail
    ((with_reducible refine (codeOf_c _ _ ((HG.out.mono hb1).mono hb2)).mono ?_); rintro e w3 ⟨rfl, hb3⟩)
    go_wp2_with fail
    go_ret3
    exact ⟨rfl, below_step (below_step hb1 hb2) hb3⟩

set_option maxHeartbeats 1000000 in
set_option maxRecDepth 100000 in
theorem hm_fix (g o n c : Nat) (l : List Int) (w : World) (hr : Rd w (some ⟨g, o, none⟩) l) (hn : Hid (l.length = n)) (hnc : n ≤ c) (hm : c ≤ 9223372036854775807) (hg : g < w.heap.size) (hG : Glob w) (hs : 1 ≤ n) (x : Int) (x0 : 128 ≤ x) (x1 : x < 144) (c0 : w.cell? ⟨g, o, none⟩ = some (.int .u8 x)) :
    Calls Tryd.prog 87 #[.slice (some ⟨g, o, none⟩) n c] w (Ret3 w (.int .u32 (x % 16)) (n - 1) .ok) := by
  have hA : ∀ (W : World) (o' : Obj) (j : Nat), g < W.heap.size → (W.alloc o').cell? ⟨g, j, none⟩ = W.cell? ⟨g, j, none⟩ := fun W o' j h => World.cell?_alloc_lt W o' ⟨g, j, none⟩ h
  obtain ⟨gs, gr⟩ := hG
  have e1 : (bits .and .u8 x 240 == 128) = true := by rw [and240 x (by omega) (by omega)]; simp; omega
  have e2 := last4 x (by omega) (by omega)
  have t0 : 0 ≤ x % 16 := by omega
  have t1 : x % 16 < 16 := by omega
  generalize x % 16 = t at *
  go_enter Tryd.func87, Tryd.ntmps87
  go_wp2_with (first | fail | go_in)
  all_goals
    go_ret3
    exact ⟨_, _, rfl, by first | exact Below.refl _ _ | assumption⟩

set_option maxHeartbeats 1000000 in
set_option maxRecDepth 100000 in
theorem hm_other (g o n c : Nat) (l : List Int) (w : World) (hr : Rd w (some ⟨g, o, none⟩) l) (hn : Hid (l.length = n)) (hnc : n ≤ c) (hm : c ≤ 9223372036854775807) (hg : g < w.heap.size) (hG : Glob w) (hs : 1 ≤ n) (x : Int) (x0 : 0 ≤ x) (x1 : x < 256) (y0 : x < 128 ∨ 144 ≤ x) (y1 : x ≠ 222) (y2 : x ≠ 223) (c0 : w.cell? ⟨g, o, none⟩ = some (.int .u8 x)) :
    Calls Tryd.prog 87 #[.slice (some ⟨g, o, none⟩) n c] w (Ret3 w (.int .u32 0) 0 (bp 3 x)) := by
  have hA : ∀ (W : World) (o' : Obj) (j : Nat), g < W.heap.size → (W.alloc o').cell? ⟨g, j, none⟩ = W.cell? ⟨g, j, none⟩ := fun W o' j h => World.cell?_alloc_lt W o' ⟨g, j, none⟩ h
  obtain ⟨gs, gr⟩ := hG
  have e1 : (bits .and .u8 x 240 == 128) = false := by rw [and240 x (by omega) (by omega)]; simp; omega
  have e2 : (x == 222) = false := by simpa using y1
  have e3 : (x == 223) = false := by simpa using y2
  clear y0 y1 y2
  go_enter Tryd.func87, Tryd.ntmps87
  go_wp2_with (first | (go_at_call 108; refine (badPrefix_c _ _ _ (by omega) (by omega)).mono ?_; rintro e w1 ⟨rfl, hb1⟩) | go_in)
  all_goals
    go_ret3
    exact ⟨_, _, rfl, by first | exact Below.refl _ _ | assumption⟩

set_option maxHeartbeats 1000000 in
set_option maxRecDepth 100000 in
theorem hm_2_short (g o n c : Nat) (l : List Int) (w : World) (hr : Rd w (some ⟨g, o, none⟩) l) (hn : Hid (l.length = n)) (hnc : n ≤ c) (hm : c ≤ 9223372036854775807) (hg : g < w.heap.size) (hG : Glob w) (hs : 1 ≤ n) (hs2 : n < 3) (c0 : w.cell? ⟨g, o, none⟩ = some (.int .u8 222)) :
    Calls Tryd.prog 87 #[.slice (some ⟨g, o, none⟩) n c] w (Ret3 w (.int .u32 0) 0 .short) := by
  have hA : ∀ (W : World) (o' : Obj) (j : Nat), g < W.heap.size → (W.alloc o').cell? ⟨g, j, none⟩ = W.cell? ⟨g, j, none⟩ := fun W o' j h => World.cell?_alloc_lt W o' ⟨g, j, none⟩ h
  obtain ⟨gs, gr⟩ := hG
  go_enter Tryd.func87, Tryd.ntmps87
  go_wp2_with (first | fail | go_in)
  all_goals
    go_ret3
    exact ⟨_, _, rfl, by first | exact Below.refl _ _ | assumption⟩

set_option maxHeartbeats 1000000 in
set_option maxRecDepth 100000 in
theorem hm_2_whole (g o n c : Nat) (l : List Int) (w : World) (hr : Rd w (some ⟨g, o, none⟩) l) (hn : Hid (l.length = n)) (hnc : n ≤ c) (hm : c ≤ 9223372036854775807) (hg : g < w.heap.size) (hG : Glob w) (hs : 3 ≤ n) (c0 : w.cell? ⟨g, o, none⟩ = some (.int .u8 222)) :
    Calls Tryd.prog 87 #[.slice (some ⟨g, o, none⟩) n c] w (Ret3 w (.int .u32 (be2 l 1)) (n - 3) .ok) := by
  have hA : ∀ (W : World) (o' : Obj) (j : Nat), g < W.heap.size → (W.alloc o').cell? ⟨g, j, none⟩ = W.cell? ⟨g, j, none⟩ := fun W o' j h => World.cell?_alloc_lt W o' ⟨g, j, none⟩ h
  obtain ⟨gs, gr⟩ := hG
  have ec : ¬ c = 1 := by omega
  obtain ⟨b0, b1⟩ := be2_range hr.1 1
  go_enter Tryd.func87, Tryd.ntmps87
  go_wp2_with (first | (go_at_call 105; refine (u16_c _ _ _ _ (l.drop 1) _ (hr.cut 1) (by simp only [List.length_drop]; rw [hn.out]) (by omega)).mono ?_; rintro e w1 ⟨rfl, hb1⟩; rw [be2_drop]) | go_in)
  all_goals
    go_ret3
    exact ⟨_, _, rfl, by first | exact Below.refl _ _ | assumption⟩

set_option maxHeartbeats 1000000 in
set_option maxRecDepth 100000 in
theorem hm_4_short (g o n c : Nat) (l : List Int) (w : World) (hr : Rd w (some ⟨g, o, none⟩) l) (hn : Hid (l.length = n)) (hnc : n ≤ c) (hm : c ≤ 9223372036854775807) (hg : g < w.heap.size) (hG : Glob w) (hs : 1 ≤ n) (hs2 : n < 5) (c0 : w.cell? ⟨g, o, none⟩ = some (.int .u8 223)) :
    Calls Tryd.prog 87 #[.slice (some ⟨g, o, none⟩) n c] w (Ret3 w (.int .u32 0) 0 .short) := by
  have hA : ∀ (W : World) (o' : Obj) (j : Nat), g < W.heap.size → (W.alloc o').cell? ⟨g, j, none⟩ = W.cell? ⟨g, j, none⟩ := fun W o' j h => World.cell?_alloc_lt W o' ⟨g, j, none⟩ h
  obtain ⟨gs, gr⟩ := hG
  go_enter Tryd.func87, Tryd.ntmps87
  go_wp2_with (first | fail | go_in)
  all_goals
    go_ret3
    exact ⟨_, _, rfl, by first | exact Below.refl _ _ | assumption⟩

set_option maxHeartbeats 1000000 in
set_option maxRecDepth 100000 in
theorem hm_4_whole (g o n c : Nat) (l : List Int) (w : World) (hr : Rd w (some ⟨g, o, none⟩) l) (hn : Hid (l.length = n)) (hnc : n ≤ c) (hm : c ≤ 9223372036854775807) (hg : g < w.heap.size) (hG : Glob w) (hs : 5 ≤ n) (c0 : w.cell? ⟨g, o, none⟩ = some (.int .u8 223)) :
    Calls Tryd.prog 87 #[.slice (some ⟨g, o, none⟩) n c] w (Ret3 w (.int .u32 (be4 l 1)) (n - 5) .ok) := by
  have hA : ∀ (W : World) (o' : Obj) (j : Nat), g < W.heap.size → (W.alloc o').cell? ⟨g, j, none⟩ = W.cell? ⟨g, j, none⟩ := fun W o' j h => World.cell?_alloc_lt W o' ⟨g, j, none⟩ h
  obtain ⟨gs, gr⟩ := hG
  have ec : ¬ c = 1 := by omega
  obtain ⟨b0, b1⟩ := be4_range hr.1 1
  go_enter Tryd.func87, Tryd.ntmps87
  go_wp2_with (first | (go_at_call 106; refine (u32_c _ _ _ _ (l.drop 1) _ (hr.cut 1) (by simp only [List.length_drop]; rw [hn.out]) (by omega)).mono ?_; rintro e w1 ⟨rfl, hb1⟩; rw [be4_drop]) | go_in)
  all_goals
    go_ret3
    exact ⟨_, _, rfl, by first | exact Below.refl _ _ | assumption⟩

/-- The value, what is left, and the error. -/
def rdMap (l : List Int) : Int × Nat × Er :=
  if l.length = 0 then (0, 0, .short) else
  if 128 ≤ at_ l 0 ∧ at_ l 0 < 144 then (at_ l 0 % 16, l.length - 1, .ok) else
  if at_ l 0 = 222 then (if l.length < 3 then (0, 0, .short) else (be2 l 1, l.length - 3, .ok)) else
  if at_ l 0 = 223 then (if l.length < 5 then (0, 0, .short) else (be4 l 1, l.length - 5, .ok)) else
  (0, 0, bp 3 (at_ l 0))

set_option maxHeartbeats 1000000 in
set_option maxRecDepth 100000 in
theorem hm_empty (A : Option Addr) (c : Nat) (w : World) (hG : Glob w) : Calls Tryd.prog 87 #[.slice A 0 c] w (Ret3 w (.int .u32 0) 0 .short) := by
  obtain ⟨gs, gr⟩ := hG
  go_enter Tryd.func87, Tryd.ntmps87
  go_wp2_with fail
  all_goals try (go_quiet (fail); go_wp2_with fail)
  all_goals
    go_ret3
    exact ⟨_, _, rfl, by first | exact Below.refl _ _ | exact below_drewN (Below.refl _ _) _⟩

theorem hm_c (A : Option Addr) (n c : Nat) (l : List Int) (w : World) (hr : Rd w A l) (hn : l.length = n) (hnc : n ≤ c) (hm : c ≤ maxLen) (hG : Glob w) :
    Calls Tryd.prog 87 #[.slice A n c] w (Ret3 w (.int .u32 (rdMap l).1) (rdMap l).2.1 (rdMap l).2.2) := by
  have hm' : c ≤ 9223372036854775807 := by simp only [maxLen] at hm; omega
  have HN : Hid (l.length = n) := hn
  unfold rdMap
  rw [hn]
  rcases Nat.eq_zero_or_pos n with rfl | hpos
  · exact hm_empty A c w hG
  obtain ⟨g, o, rfl, hg, -, hc⟩ := hr.open_ (by omega)
  have c0 := hc 0 (by omega)
  rw [Nat.add_zero] at c0
  have hb := hr.1.at_ 0
  rw [if_neg (by omega)]
  by_cases h1 : 128 ≤ at_ l 0 ∧ at_ l 0 < 144
  · rw [if_pos h1]; exact hm_fix g o n c l w hr HN hnc hm' hg hG hpos _ h1.1 h1.2 c0
  rw [if_neg h1]
  by_cases e16 : at_ l 0 = 222
  · rw [if_pos e16]
    rw [e16] at c0
    by_cases hs : n < 3
    · rw [if_pos hs]; exact hm_2_short g o n c l w hr HN hnc hm' hg hG hpos hs c0
    · rw [if_neg hs]; exact hm_2_whole g o n c l w hr HN hnc hm' hg hG (by omega) c0
  rw [if_neg e16]
  by_cases e32 : at_ l 0 = 223
  · rw [if_pos e32]
    rw [e32] at c0
    by_cases hs : n < 5
    · rw [if_pos hs]; exact hm_4_short g o n c l w hr HN hnc hm' hg hG hpos hs c0
    · rw [if_neg hs]; exact hm_4_whole g o n c l w hr HN hnc hm' hg hG (by omega) c0
  rw [if_neg e32]
  exact hm_other g o n c l w hr HN hnc hm' hg hG hpos _ hb.1 hb.2 (by omega) e16 e32 c0

theorem rdMap_err (l : List Int) (h : (rdMap l).2.2 ≠ .ok) : (rdMap l).1 = 0 := by
  have key : ErrZ (rdMap l) := by
    unfold rdMap
    repeat' first | exact errZ_ok _ _ | exact errZ_zero _ _ | refine errZ_ite ?_ ?_
  exact key h
theorem rdMap_range (l : List Int) (hb : Byts l) : 0 ≤ (rdMap l).1 ∧ (rdMap l).1 ≤ 4294967295 := by
  have a2 := be2_range hb 1
  have a4 := be4_range hb 1
  unfold rdMap
  (repeat' split) <;> simp only [] <;> omega

set_option maxHeartbeats 1000000 in
set_option maxRecDepth 100000 in
theorem implMap_c (A : Option Addr) (n c : Nat) (l : List Int) (w : World) (hr : Rd w A l) (hn : l.length = n) (hle : n ≤ 1000000000000) (hG : Glob w) :
    Calls Tryd.prog 46 #[.slice A n c] w fun e w' => e = .returned (.tuple #[.int .u32 (rdMap l).1, .int .i64 (rdMap l).2.1, .int .i64 (rdMap l).2.2.code]) ∧ Below w.heap.size w w' := by
  have HN : Hid (l.length = n) := hn
  have HG : Hid (Glob w) := hG
  have hcall : ∀ (A : Option Addr) (c : Nat) (w : World), Rd w A l → l.length ≤ c → c ≤ maxLen → Glob w → Calls Tryd.prog 87 #[.slice A l.length c] w (Ret3 w (.int .u32 (rdMap l).1) (rdMap l).2.1 (rdMap l).2.2) := fun A c w a b d e => hm_c A _ c l w a rfl b d e
  have herr := rdMap_err l
  generalize rdMap l = R at hcall herr ⊢
  obtain ⟨x, k, r⟩ := R
  simp only at hcall herr
  simp only []
  clear hn hG
  go_enter Tryd.func46, Tryd.ntmps46
  go_wp2_with fail
  ((with_reducible refine (clone_c _ _ _ l _ hr HN.out hle).mono ?_); rintro e w1 ⟨v, rfl, hown, hb1⟩)
  obtain ⟨A1, c1, rfl, hc1, hm1, hr1⟩ := hown.open_ hr.1
  go_wp2_with fail
  ((with_reducible refine (hcall _ _ _ hr1 hc1 hm1 (HG.out.mono hb1)).mono ?_); rintro e w2 ⟨A2, c2, rfl, hb2⟩)
  cases r
  · go_wp2_with fail
    go_ret3
    exact ⟨rfl, below_step hb1 hb2⟩
  all_goals
    obtain rfl := herr (by intro h; cases h)
    go_wp2_with fail
    ((with_reducible refine (codeOf_c _ _ ((HG.out.mono hb1).mono hb2)).mono ?_); rintro e w3 ⟨rfl, hb3⟩)
    go_wp2_with fail
    go_ret3
    exact ⟨rfl, below_step (below_step hb1 hb2) hb3⟩

end Go.Proofs.YtpmdlbbgljcloaaDoor
