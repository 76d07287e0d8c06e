/- The law FnKind, walked: of which kind the first object is. Conditions: the slice reads as bytes. -/
import Derived.Test.YtbikbanmdepakaaHead
import Derived.Test.YtbikbanmdepakaaGetSpec
import Derived.Test.YtbikbanmdepakaaClone
namespace Go.Proofs.Ytbikbanmdepakaa
open Go Go.RowKit

/-- The package's number of a kind, by the reference. -/
def kindOf (h : Hd) : Int :=
  if h.kind = 1 then 10 else if h.kind = 2 then 7 else if h.kind = 3 then 8
  else if h.kind = 4 then (if h.size = 1 then 8 else 9)
  else if h.kind = 5 then 6 else if h.kind = 6 then 5 else if h.kind = 7 then 1 else if h.kind = 8 then 2
  else if h.kind = 9 then 4 else if h.kind = 10 then 3
  else if h.kind = 11 then (if h.typ = 3 then 13 else if h.typ = 4 then 14 else if h.typ = 5 ∨ h.typ = -1 then 15 else 12)
  else 0
/-- .. of an extension's type, by the package. -/
def tpKind (t : Int) : Int := if t = 3 then 13 else if t = 4 then 14 else if t = 5 ∨ t = -1 then 15 else 12

set_option maxHeartbeats 400000 in
set_option maxRecDepth 100000 in
theorem kindOf_1 (x len t s : Int) (sh : Bool) (w : World) : Calls Try.prog 10 #[Hd.val ⟨1, x, len, t, s, sh⟩] w fun e w' => e = .returned (.int .i64 10) ∧ Below w.heap.size w w' := by
  go_enter Try.func10, Try.ntmps10
  go_wp2_with fail
  go_ret
  exact ⟨rfl, (Below.refl _ _).alloc (Nat.le_refl _) _⟩

set_option maxHeartbeats 400000 in
set_option maxRecDepth 100000 in
theorem kindOf_2 (x len t s : Int) (sh : Bool) (w : World) : Calls Try.prog 10 #[Hd.val ⟨2, x, len, t, s, sh⟩] w fun e w' => e = .returned (.int .i64 7) ∧ Below w.heap.size w w' := by
  go_enter Try.func10, Try.ntmps10
  go_wp2_with fail
  go_ret
  exact ⟨rfl, (Below.refl _ _).alloc (Nat.le_refl _) _⟩

set_option maxHeartbeats 400000 in
set_option maxRecDepth 100000 in
theorem kindOf_3 (x len t s : Int) (sh : Bool) (w : World) : Calls Try.prog 10 #[Hd.val ⟨3, x, len, t, s, sh⟩] w fun e w' => e = .returned (.int .i64 8) ∧ Below w.heap.size w w' := by
  go_enter Try.func10, Try.ntmps10
  go_wp2_with fail
  go_ret
  exact ⟨rfl, (Below.refl _ _).alloc (Nat.le_refl _) _⟩

set_option maxHeartbeats 400000 in
set_option maxRecDepth 100000 in
theorem kindOf_5 (x len t s : Int) (sh : Bool) (w : World) : Calls Try.prog 10 #[Hd.val ⟨5, x, len, t, s, sh⟩] w fun e w' => e = .returned (.int .i64 6) ∧ Below w.heap.size w w' := by
  go_enter Try.func10, Try.ntmps10
  go_wp2_with fail
  go_ret
  exact ⟨rfl, (Below.refl _ _).alloc (Nat.le_refl _) _⟩

set_option maxHeartbeats 400000 in
set_option maxRecDepth 100000 in
theorem kindOf_6 (x len t s : Int) (sh : Bool) (w : World) : Calls Try.prog 10 #[Hd.val ⟨6, x, len, t, s, sh⟩] w fun e w' => e = .returned (.int .i64 5) ∧ Below w.heap.size w w' := by
  go_enter Try.func10, Try.ntmps10
  go_wp2_with fail
  go_ret
  exact ⟨rfl, (Below.refl _ _).alloc (Nat.le_refl _) _⟩

set_option maxHeartbeats 400000 in
set_option maxRecDepth 100000 in
theorem kindOf_7 (x len t s : Int) (sh : Bool) (w : World) : Calls Try.prog 10 #[Hd.val ⟨7, x, len, t, s, sh⟩] w fun e w' => e = .returned (.int .i64 1) ∧ Below w.heap.size w w' := by
  go_enter Try.func10, Try.ntmps10
  go_wp2_with fail
  go_ret
  exact ⟨rfl, (Below.refl _ _).alloc (Nat.le_refl _) _⟩

set_option maxHeartbeats 400000 in
set_option maxRecDepth 100000 in
theorem kindOf_8 (x len t s : Int) (sh : Bool) (w : World) : Calls Try.prog 10 #[Hd.val ⟨8, x, len, t, s, sh⟩] w fun e w' => e = .returned (.int .i64 2) ∧ Below w.heap.size w w' := by
  go_enter Try.func10, Try.ntmps10
  go_wp2_with fail
  go_ret
  exact ⟨rfl, (Below.refl _ _).alloc (Nat.le_refl _) _⟩

set_option maxHeartbeats 400000 in
set_option maxRecDepth 100000 in
theorem kindOf_9 (x len t s : Int) (sh : Bool) (w : World) : Calls Try.prog 10 #[Hd.val ⟨9, x, len, t, s, sh⟩] w fun e w' => e = .returned (.int .i64 4) ∧ Below w.heap.size w w' := by
  go_enter Try.func10, Try.ntmps10
  go_wp2_with fail
  go_ret
  exact ⟨rfl, (Below.refl _ _).alloc (Nat.le_refl _) _⟩

set_option maxHeartbeats 400000 in
set_option maxRecDepth 100000 in
theorem kindOf_10 (x len t s : Int) (sh : Bool) (w : World) : Calls Try.prog 10 #[Hd.val ⟨10, x, len, t, s, sh⟩] w fun e w' => e = .returned (.int .i64 3) ∧ Below w.heap.size w w' := by
  go_enter Try.func10, Try.ntmps10
  go_wp2_with fail
  go_ret
  exact ⟨rfl, (Below.refl _ _).alloc (Nat.le_refl _) _⟩

set_option maxHeartbeats 400000 in
set_option maxRecDepth 100000 in
theorem kindOf_0 (x len t s : Int) (sh : Bool) (w : World) : Calls Try.prog 10 #[Hd.val ⟨0, x, len, t, s, sh⟩] w fun e w' => e = .returned (.int .i64 0) ∧ Below w.heap.size w w' := by
  go_enter Try.func10, Try.ntmps10
  go_wp2_with fail
  go_ret
  exact ⟨rfl, (Below.refl _ _).alloc (Nat.le_refl _) _⟩
set_option maxHeartbeats 400000 in
set_option maxRecDepth 100000 in
theorem kindOf_4 (x len t s : Int) (sh : Bool) (w : World) : Calls Try.prog 10 #[Hd.val ⟨4, x, len, t, s, sh⟩] w fun e w' => e = .returned (.int .i64 (if s = 1 then 8 else 9)) ∧ Below w.heap.size w w' := by
  by_cases h : s = 1
  · rw [if_pos h]
    subst h
    go_enter Try.func10, Try.ntmps10
    go_wp2_with fail
    go_ret
    exact ⟨rfl, (Below.refl _ _).alloc (Nat.le_refl _) _⟩
  · rw [if_neg h]
    have hb : (s == 1) = false := by simp [h]
    clear h
    go_enter Try.func10, Try.ntmps10
    go_wp2_with fail
    go_ret
    exact ⟨rfl, (Below.refl _ _).alloc (Nat.le_refl _) _⟩

theorem tp_cases (t : Int) : (t = 3 ∧ tpKind t = 13) ∨ (t = 4 ∧ tpKind t = 14) ∨ (t = 5 ∧ tpKind t = 15) ∨ (t = -1 ∧ tpKind t = 15) ∨ ((t == 3) = false ∧ (t == 4) = false ∧ (t == 5) = false ∧ (t == -1) = false ∧ tpKind t = 12) := by
  by_cases a : t = 3
  · exact .inl ⟨a, by rw [tpKind, if_pos a]⟩
  by_cases b : t = 4
  · exact .inr (.inl ⟨b, by rw [tpKind, if_neg a, if_pos b]⟩)
  by_cases c : t = 5
  · exact .inr (.inr (.inl ⟨c, by rw [tpKind, if_neg a, if_neg b, if_pos (.inl c)]⟩))
  by_cases d : t = -1
  · exact .inr (.inr (.inr (.inl ⟨d, by rw [tpKind, if_neg a, if_neg b, if_pos (.inr d)]⟩)))
  · exact .inr (.inr (.inr (.inr ⟨by simp [a], by simp [b], by simp [c], by simp [d], by rw [tpKind, if_neg a, if_neg b, if_neg (by intro h; rcases h with h | h <;> contradiction)]⟩)))
set_option maxHeartbeats 1000000 in
set_option maxRecDepth 100000 in
theorem kindOf_11 (x len t s : Int) (sh : Bool) (w : World) : Calls Try.prog 10 #[Hd.val ⟨11, x, len, t, s, sh⟩] w fun e w' => e = .returned (.int .i64 (tpKind t)) ∧ Below w.heap.size w w' := by
  rcases tp_cases t with ⟨rfl, h⟩ | ⟨rfl, h⟩ | ⟨rfl, h⟩ | ⟨rfl, h⟩ | ⟨h1, h2, h3, h4, h⟩ <;> rw [h] <;> clear h
  all_goals
    go_enter Try.func10, Try.ntmps10
    go_wp2_with fail
    go_ret
    exact ⟨rfl, (Below.refl _ _).alloc (Nat.le_refl _) _⟩
theorem kindOf_c (h : Hd) (w : World) (hk : 0 ≤ h.kind ∧ h.kind ≤ 11) : Calls Try.prog 10 #[h.val] w fun e w' => e = .returned (.int .i64 (kindOf h)) ∧ Below w.heap.size w w' := by
  obtain ⟨k, x, len, t, s, sh⟩ := h
  simp only at hk
  have hc : k = 0 ∨ k = 1 ∨ k = 2 ∨ k = 3 ∨ k = 4 ∨ k = 5 ∨ k = 6 ∨ k = 7 ∨ k = 8 ∨ k = 9 ∨ k = 10 ∨ k = 11 := by omega
  rcases hc with rfl | rfl | rfl | rfl | rfl | rfl | rfl | rfl | rfl | rfl | rfl | rfl
  · exact kindOf_0 x len t s sh w
  · exact kindOf_1 x len t s sh w
  · exact kindOf_2 x len t s sh w
  · exact kindOf_3 x len t s sh w
  · exact kindOf_4 x len t s sh w
  · exact kindOf_5 x len t s sh w
  · exact kindOf_6 x len t s sh w
  · exact kindOf_7 x len t s sh w
  · exact kindOf_8 x len t s sh w
  · exact kindOf_9 x len t s sh w
  · exact kindOf_10 x len t s sh w
  · exact kindOf_11 x len t s sh w

set_option maxHeartbeats 2000000 in
set_option maxRecDepth 100000 in
theorem next_199 (g o n c : Nat) (x : Int) (w : World) (hg : g < w.heap.size) (hn : 3 < n) (_hnc : n ≤ c) (c0 : w.cell? ⟨g, o, none⟩ = some (.int .u8 199)) (c1 : w.cell? ⟨g, o + 2, none⟩ = some (.int .u8 x)) :
    Calls Try.prog 15 #[.slice (some ⟨g, o, none⟩) n c] w fun e w' => e = .returned (.int .u8 (tpKind (s8 x))) ∧ Below w.heap.size w w' := by
  have e0 : ((n : Int) == 0) = false := by simp; omega
  have hA : ∀ (W : World) (o' : Obj) (j : Nat), g < W.heap.size → (W.alloc o').cell? ⟨g, j, none⟩ = W.cell? ⟨g, j, none⟩ := fun W o' j h => World.cell?_alloc_lt W o' ⟨g, j, none⟩ h
  have hsz : bsz 199 = 3 := by simp [bsz]
  have hex : bex 199 = -1 := by simp [bex]
  have hty : bty 199 = 12 := by simp [bty]
  have g1 : g < w.heap.size + 1 := by omega
  have g2 : g < w.heap.size + 1 + 1 := by omega
  have hs : IntKind.i8.wrap x = s8 x := rfl
  generalize s8 x = t at hs
  rcases tp_cases t with ⟨rfl, h⟩ | ⟨rfl, h⟩ | ⟨rfl, h⟩ | ⟨rfl, h⟩ | ⟨h1, h2, h3, h4, h⟩ <;> rw [h] <;> clear h
  all_goals
    go_enter Try.func15, Try.ntmps15
    go_wp2_with (first | (go_at_call 19; refine (getBytespec_c _ _ (by omega) (by omega)).mono ?_; rintro e w' ⟨rfl, rfl⟩) | go_in)
    go_ret
    exact ⟨rfl, (((Below.refl _ _).alloc (Nat.le_refl _) _).alloc (by simp) _).alloc (by simp; omega) _⟩

set_option maxHeartbeats 2000000 in
set_option maxRecDepth 100000 in
theorem next_200 (g o n c : Nat) (x : Int) (w : World) (hg : g < w.heap.size) (hn : 4 < n) (_hnc : n ≤ c) (c0 : w.cell? ⟨g, o, none⟩ = some (.int .u8 200)) (c1 : w.cell? ⟨g, o + 3, none⟩ = some (.int .u8 x)) :
    Calls Try.prog 15 #[.slice (some ⟨g, o, none⟩) n c] w fun e w' => e = .returned (.int .u8 (tpKind (s8 x))) ∧ Below w.heap.size w w' := by
  have e0 : ((n : Int) == 0) = false := by simp; omega
  have hA : ∀ (W : World) (o' : Obj) (j : Nat), g < W.heap.size → (W.alloc o').cell? ⟨g, j, none⟩ = W.cell? ⟨g, j, none⟩ := fun W o' j h => World.cell?_alloc_lt W o' ⟨g, j, none⟩ h
  have hsz : bsz 200 = 4 := by simp [bsz]
  have hex : bex 200 = -2 := by simp [bex]
  have hty : bty 200 = 12 := by simp [bty]
  have g1 : g < w.heap.size + 1 := by omega
  have g2 : g < w.heap.size + 1 + 1 := by omega
  have hs : IntKind.i8.wrap x = s8 x := rfl
  generalize s8 x = t at hs
  rcases tp_cases t with ⟨rfl, h⟩ | ⟨rfl, h⟩ | ⟨rfl, h⟩ | ⟨rfl, h⟩ | ⟨h1, h2, h3, h4, h⟩ <;> rw [h] <;> clear h
  all_goals
    go_enter Try.func15, Try.ntmps15
    go_wp2_with (first | (go_at_call 19; refine (getBytespec_c _ _ (by omega) (by omega)).mono ?_; rintro e w' ⟨rfl, rfl⟩) | go_in)
    go_ret
    exact ⟨rfl, (((Below.refl _ _).alloc (Nat.le_refl _) _).alloc (by simp) _).alloc (by simp; omega) _⟩

set_option maxHeartbeats 2000000 in
set_option maxRecDepth 100000 in
theorem next_201 (g o n c : Nat) (x : Int) (w : World) (hg : g < w.heap.size) (hn : 6 < n) (_hnc : n ≤ c) (c0 : w.cell? ⟨g, o, none⟩ = some (.int .u8 201)) (c1 : w.cell? ⟨g, o + 5, none⟩ = some (.int .u8 x)) :
    Calls Try.prog 15 #[.slice (some ⟨g, o, none⟩) n c] w fun e w' => e = .returned (.int .u8 (tpKind (s8 x))) ∧ Below w.heap.size w w' := by
  have e0 : ((n : Int) == 0) = false := by simp; omega
  have hA : ∀ (W : World) (o' : Obj) (j : Nat), g < W.heap.size → (W.alloc o').cell? ⟨g, j, none⟩ = W.cell? ⟨g, j, none⟩ := fun W o' j h => World.cell?_alloc_lt W o' ⟨g, j, none⟩ h
  have hsz : bsz 201 = 6 := by simp [bsz]
  have hex : bex 201 = -3 := by simp [bex]
  have hty : bty 201 = 12 := by simp [bty]
  have g1 : g < w.heap.size + 1 := by omega
  have g2 : g < w.heap.size + 1 + 1 := by omega
  have hs : IntKind.i8.wrap x = s8 x := rfl
  generalize s8 x = t at hs
  rcases tp_cases t with ⟨rfl, h⟩ | ⟨rfl, h⟩ | ⟨rfl, h⟩ | ⟨rfl, h⟩ | ⟨h1, h2, h3, h4, h⟩ <;> rw [h] <;> clear h
  all_goals
    go_enter Try.func15, Try.ntmps15
    go_wp2_with (first | (go_at_call 19; refine (getBytespec_c _ _ (by omega) (by omega)).mono ?_; rintro e w' ⟨rfl, rfl⟩) | go_in)
    go_ret
    exact ⟨rfl, (((Below.refl _ _).alloc (Nat.le_refl _) _).alloc (by simp) _).alloc (by simp; omega) _⟩

set_option maxHeartbeats 2000000 in
set_option maxRecDepth 100000 in
theorem next_212 (g o n c : Nat) (x : Int) (w : World) (hg : g < w.heap.size) (hn : 3 < n) (_hnc : n ≤ c) (c0 : w.cell? ⟨g, o, none⟩ = some (.int .u8 212)) (c1 : w.cell? ⟨g, o + 1, none⟩ = some (.int .u8 x)) :
    Calls Try.prog 15 #[.slice (some ⟨g, o, none⟩) n c] w fun e w' => e = .returned (.int .u8 (tpKind (s8 x))) ∧ Below w.heap.size w w' := by
  have e0 : ((n : Int) == 0) = false := by simp; omega
  have hA : ∀ (W : World) (o' : Obj) (j : Nat), g < W.heap.size → (W.alloc o').cell? ⟨g, j, none⟩ = W.cell? ⟨g, j, none⟩ := fun W o' j h => World.cell?_alloc_lt W o' ⟨g, j, none⟩ h
  have hsz : bsz 212 = 3 := by simp [bsz]
  have hex : bex 212 = 0 := by simp [bex]
  have hty : bty 212 = 12 := by simp [bty]
  have g1 : g < w.heap.size + 1 := by omega
  have g2 : g < w.heap.size + 1 + 1 := by omega
  have hs : IntKind.i8.wrap x = s8 x := rfl
  generalize s8 x = t at hs
  rcases tp_cases t with ⟨rfl, h⟩ | ⟨rfl, h⟩ | ⟨rfl, h⟩ | ⟨rfl, h⟩ | ⟨h1, h2, h3, h4, h⟩ <;> rw [h] <;> clear h
  all_goals
    go_enter Try.func15, Try.ntmps15
    go_wp2_with (first | (go_at_call 19; refine (getBytespec_c _ _ (by omega) (by omega)).mono ?_; rintro e w' ⟨rfl, rfl⟩) | go_in)
    go_ret
    exact ⟨rfl, (((Below.refl _ _).alloc (Nat.le_refl _) _).alloc (by simp) _).alloc (by simp; omega) _⟩

set_option maxHeartbeats 2000000 in
set_option maxRecDepth 100000 in
theorem next_213 (g o n c : Nat) (x : Int) (w : World) (hg : g < w.heap.size) (hn : 4 < n) (_hnc : n ≤ c) (c0 : w.cell? ⟨g, o, none⟩ = some (.int .u8 213)) (c1 : w.cell? ⟨g, o + 1, none⟩ = some (.int .u8 x)) :
    Calls Try.prog 15 #[.slice (some ⟨g, o, none⟩) n c] w fun e w' => e = .returned (.int .u8 (tpKind (s8 x))) ∧ Below w.heap.size w w' := by
  have e0 : ((n : Int) == 0) = false := by simp; omega
  have hA : ∀ (W : World) (o' : Obj) (j : Nat), g < W.heap.size → (W.alloc o').cell? ⟨g, j, none⟩ = W.cell? ⟨g, j, none⟩ := fun W o' j h => World.cell?_alloc_lt W o' ⟨g, j, none⟩ h
  have hsz : bsz 213 = 4 := by simp [bsz]
  have hex : bex 213 = 0 := by simp [bex]
  have hty : bty 213 = 12 := by simp [bty]
  have g1 : g < w.heap.size + 1 := by omega
  have g2 : g < w.heap.size + 1 + 1 := by omega
  have hs : IntKind.i8.wrap x = s8 x := rfl
  generalize s8 x = t at hs
  rcases tp_cases t with ⟨rfl, h⟩ | ⟨rfl, h⟩ | ⟨rfl, h⟩ | ⟨rfl, h⟩ | ⟨h1, h2, h3, h4, h⟩ <;> rw [h] <;> clear h
  all_goals
    go_enter Try.func15, Try.ntmps15
    go_wp2_with (first | (go_at_call 19; refine (getBytespec_c _ _ (by omega) (by omega)).mono ?_; rintro e w' ⟨rfl, rfl⟩) | go_in)
    go_ret
    exact ⟨rfl, (((Below.refl _ _).alloc (Nat.le_refl _) _).alloc (by simp) _).alloc (by simp; omega) _⟩

set_option maxHeartbeats 2000000 in
set_option maxRecDepth 100000 in
theorem next_214 (g o n c : Nat) (x : Int) (w : World) (hg : g < w.heap.size) (hn : 6 < n) (_hnc : n ≤ c) (c0 : w.cell? ⟨g, o, none⟩ = some (.int .u8 214)) (c1 : w.cell? ⟨g, o + 1, none⟩ = some (.int .u8 x)) :
    Calls Try.prog 15 #[.slice (some ⟨g, o, none⟩) n c] w fun e w' => e = .returned (.int .u8 (tpKind (s8 x))) ∧ Below w.heap.size w w' := by
  have e0 : ((n : Int) == 0) = false := by simp; omega
  have hA : ∀ (W : World) (o' : Obj) (j : Nat), g < W.heap.size → (W.alloc o').cell? ⟨g, j, none⟩ = W.cell? ⟨g, j, none⟩ := fun W o' j h => World.cell?_alloc_lt W o' ⟨g, j, none⟩ h
  have hsz : bsz 214 = 6 := by simp [bsz]
  have hex : bex 214 = 0 := by simp [bex]
  have hty : bty 214 = 12 := by simp [bty]
  have g1 : g < w.heap.size + 1 := by omega
  have g2 : g < w.heap.size + 1 + 1 := by omega
  have hs : IntKind.i8.wrap x = s8 x := rfl
  generalize s8 x = t at hs
  rcases tp_cases t with ⟨rfl, h⟩ | ⟨rfl, h⟩ | ⟨rfl, h⟩ | ⟨rfl, h⟩ | ⟨h1, h2, h3, h4, h⟩ <;> rw [h] <;> clear h
  all_goals
    go_enter Try.func15, Try.ntmps15
    go_wp2_with (first | (go_at_call 19; refine (getBytespec_c _ _ (by omega) (by omega)).mono ?_; rintro e w' ⟨rfl, rfl⟩) | go_in)
    go_ret
    exact ⟨rfl, (((Below.refl _ _).alloc (Nat.le_refl _) _).alloc (by simp) _).alloc (by simp; omega) _⟩

set_option maxHeartbeats 2000000 in
set_option maxRecDepth 100000 in
theorem next_215 (g o n c : Nat) (x : Int) (w : World) (hg : g < w.heap.size) (hn : 10 < n) (_hnc : n ≤ c) (c0 : w.cell? ⟨g, o, none⟩ = some (.int .u8 215)) (c1 : w.cell? ⟨g, o + 1, none⟩ = some (.int .u8 x)) :
    Calls Try.prog 15 #[.slice (some ⟨g, o, none⟩) n c] w fun e w' => e = .returned (.int .u8 (tpKind (s8 x))) ∧ Below w.heap.size w w' := by
  have e0 : ((n : Int) == 0) = false := by simp; omega
  have hA : ∀ (W : World) (o' : Obj) (j : Nat), g < W.heap.size → (W.alloc o').cell? ⟨g, j, none⟩ = W.cell? ⟨g, j, none⟩ := fun W o' j h => World.cell?_alloc_lt W o' ⟨g, j, none⟩ h
  have hsz : bsz 215 = 10 := by simp [bsz]
  have hex : bex 215 = 0 := by simp [bex]
  have hty : bty 215 = 12 := by simp [bty]
  have g1 : g < w.heap.size + 1 := by omega
  have g2 : g < w.heap.size + 1 + 1 := by omega
  have hs : IntKind.i8.wrap x = s8 x := rfl
  generalize s8 x = t at hs
  rcases tp_cases t with ⟨rfl, h⟩ | ⟨rfl, h⟩ | ⟨rfl, h⟩ | ⟨rfl, h⟩ | ⟨h1, h2, h3, h4, h⟩ <;> rw [h] <;> clear h
  all_goals
    go_enter Try.func15, Try.ntmps15
    go_wp2_with (first | (go_at_call 19; refine (getBytespec_c _ _ (by omega) (by omega)).mono ?_; rintro e w' ⟨rfl, rfl⟩) | go_in)
    go_ret
    exact ⟨rfl, (((Below.refl _ _).alloc (Nat.le_refl _) _).alloc (by simp) _).alloc (by simp; omega) _⟩

set_option maxHeartbeats 2000000 in
set_option maxRecDepth 100000 in
theorem next_216 (g o n c : Nat) (x : Int) (w : World) (hg : g < w.heap.size) (hn : 18 < n) (_hnc : n ≤ c) (c0 : w.cell? ⟨g, o, none⟩ = some (.int .u8 216)) (c1 : w.cell? ⟨g, o + 1, none⟩ = some (.int .u8 x)) :
    Calls Try.prog 15 #[.slice (some ⟨g, o, none⟩) n c] w fun e w' => e = .returned (.int .u8 (tpKind (s8 x))) ∧ Below w.heap.size w w' := by
  have e0 : ((n : Int) == 0) = false := by simp; omega
  have hA : ∀ (W : World) (o' : Obj) (j : Nat), g < W.heap.size → (W.alloc o').cell? ⟨g, j, none⟩ = W.cell? ⟨g, j, none⟩ := fun W o' j h => World.cell?_alloc_lt W o' ⟨g, j, none⟩ h
  have hsz : bsz 216 = 18 := by simp [bsz]
  have hex : bex 216 = 0 := by simp [bex]
  have hty : bty 216 = 12 := by simp [bty]
  have g1 : g < w.heap.size + 1 := by omega
  have g2 : g < w.heap.size + 1 + 1 := by omega
  have hs : IntKind.i8.wrap x = s8 x := rfl
  generalize s8 x = t at hs
  rcases tp_cases t with ⟨rfl, h⟩ | ⟨rfl, h⟩ | ⟨rfl, h⟩ | ⟨rfl, h⟩ | ⟨h1, h2, h3, h4, h⟩ <;> rw [h] <;> clear h
  all_goals
    go_enter Try.func15, Try.ntmps15
    go_wp2_with (first | (go_at_call 19; refine (getBytespec_c _ _ (by omega) (by omega)).mono ?_; rintro e w' ⟨rfl, rfl⟩) | go_in)
    go_ret
    exact ⟨rfl, (((Below.refl _ _).alloc (Nat.le_refl _) _).alloc (by simp) _).alloc (by simp; omega) _⟩

set_option maxHeartbeats 1000000 in
set_option maxRecDepth 100000 in
theorem next_other (g o n c : Nat) (x : Int) (w : World) (_hg : g < w.heap.size) (hn : 0 < n) (a0 : 0 ≤ x) (a1 : x < 256) (ht : (bty x == 12) = false) (c0 : w.cell? ⟨g, o, none⟩ = some (.int .u8 x)) :
    Calls Try.prog 15 #[.slice (some ⟨g, o, none⟩) n c] w fun e w' => e = .returned (.int .u8 (bty x)) ∧ Below w.heap.size w w' := by
  have e0 : ((n : Int) == 0) = false := by simp; omega
  have hA : ∀ (W : World) (o' : Obj) (j : Nat), g < W.heap.size → (W.alloc o').cell? ⟨g, j, none⟩ = W.cell? ⟨g, j, none⟩ := fun W o' j h => World.cell?_alloc_lt W o' ⟨g, j, none⟩ h
  go_enter Try.func15, Try.ntmps15
  go_wp2_with (first | (go_at_call 19; refine (getBytespec_c _ _ (by omega) (by omega)).mono ?_; rintro e w' ⟨rfl, rfl⟩) | go_in)
  go_ret
  exact ⟨rfl, (((Below.refl _ _).alloc (Nat.le_refl _) _).alloc (by simp) _).alloc (by simp; omega) _⟩

end Go.Proofs.Ytbikbanmdepakaa