/- What msgp writes for bytes (AppendBytes onto nil), walked: the head, and the bytes behind it. Conditions: at most 2^32 - 1 bytes. -/
import Derived.Test.YtpmdlbbgljcloaaDoorPrefix
import Derived.Test.YtpmdlbbgljcloaaDoorHeadWr
import Derived.Test.YtpmdlbbgljcloaaDoorClone
namespace Go.Proofs.YtpmdlbbgljcloaaDoor
open Go Go.RowKit
set_option linter.unusedVariables false

theorem made_row {w w' : World} {g n n' : Nat} {cur l : List Int} (hrow : RowI w' g cur) (he : cur = l) (hn : l.length = n) (hnn : n = n') (hm : n ≤ 1000000000000) (hg : w.heap.size ≤ g) (hb : Below w.heap.size w w') : Made w l (.returned (.slice (some ⟨g, 0, none⟩) n n')) w' := by
  subst he; subst hnn
  exact ⟨_, rfl, hrow.own hg hn hm, hb⟩
theorem spl2 (p a : Int) (l : List Int) (m : Nat) (h : l.length = m) : splice (((List.replicate (m + 2) (0 : Int)).set 0 p).set 1 a) 2 l = p :: a :: l := by
  subst h
  simp [splice, List.replicate_succ]
  omega
theorem spl3 (p a b : Int) (l : List Int) (m : Nat) (h : l.length = m) : splice ((((List.replicate (m + 3) (0 : Int)).set 0 p).set 1 a).set 2 b) 3 l = p :: a :: b :: l := by
  subst h
  simp [splice, List.replicate_succ]
  omega
theorem spl5 (p a b c d : Int) (l : List Int) (m : Nat) (h : l.length = m) : splice ((((((List.replicate (m + 5) (0 : Int)).set 0 p).set 1 a).set 2 b).set 3 c).set 4 d) 5 l = p :: a :: b :: c :: d :: l := by
  subst h
  simp [splice, List.replicate_succ]
  omega

set_option maxHeartbeats 2000000 in
set_option maxRecDepth 100000 in
theorem appBytes_s (A : Option Addr) (m c : Nat) (l : List Int) (w : World) (hr : Rd w A l) (hm : l.length = m) (h0 : 1 ≤ m) (h1 : m ≤ 255) : Calls Tryd.prog 83 #[.slice none 0 0, .slice A m c] w (Made w (196 :: (by1 m ++ l))) := by
  have HM : Hid (l.length = m) := hm
  have hx0 : (0 : Int) ≤ m := by omega
  have hx1 : (m : Int) ≤ 255 := by omega
  have e1 : ((2 : Int) + m) = ((m + 2 : Nat) : Int) := by omega
  have HE := Lib.hid e1
  have hfin : Hid (splice (((List.replicate (m + 2) (0 : Int)).set 0 196).set 1 (m : Int)) 2 l = 196 :: (by1 m ++ l)) := by
    show _ = _
    rw [spl2 _ _ l m hm]
    simp only [by1, List.cons_append, List.nil_append]
    congr 2 <;> omega
  clear hm e1
  go_enter Tryd.func83, Tryd.ntmps83
  go_wp2_with (first | (go_at_call 93; refine (ensure_k _ (m + 2) _ HE.out (by omega) (by omega)).mono ?_; rintro e w1 ⟨rfl, rfl⟩) | (go_at_call 119; refine (prefixu8_c _ _ _ _ _ (List.replicate (m + 2) 0) _ (row_new _ _) (by simp) (by omega) (by omega) (by omega) (by omega)).mono ?_; rintro e w2 ⟨rfl, hrow, hbel⟩) | (refine copy_rd rfl (.tmp 65) (.tmp 66) (by rfl) _ _ _ _ _ _ (by rfl) (by rfl) w.heap.size 2 _ hrow l (by rw [HM.out]; exact (Nat.min_eq_left (by omega)).symm) (fun h0 => by first | rfl | (exfalso; have := HM.out; omega)) (by rw [HM.out]; simp; omega) (hr.mono (((Below.refl _ _).alloc (Nat.le_refl _) _).trans (hbel.mono (by simp)))) w.heap.size w (((Below.refl _ _).alloc (Nat.le_refl _) _).trans hbel) (Nat.le_refl _) ?_; intro w3 hrow3 hb3; rw [HM.out]))
  all_goals
    go_ret
    exact made_row (n := 2 + m) (n' := m + 2) hrow3 hfin.out (by simp [by1, HM.out]; omega) (by omega) (by omega) (Nat.le_refl _) hb3

set_option maxHeartbeats 2000000 in
set_option maxRecDepth 100000 in
theorem appBytes_m (A : Option Addr) (m c : Nat) (l : List Int) (w : World) (hr : Rd w A l) (hm : l.length = m) (h0 : 256 ≤ m) (h1 : m ≤ 65535) : Calls Tryd.prog 83 #[.slice none 0 0, .slice A m c] w (Made w (197 :: (by2 m ++ l))) := by
  have HM : Hid (l.length = m) := hm
  have hx0 : (0 : Int) ≤ m := by omega
  have hx1 : (m : Int) ≤ 65535 := by omega
  have e1 : ((3 : Int) + m) = ((m + 3 : Nat) : Int) := by omega
  have HE := Lib.hid e1
  have hfin : Hid (splice ((((List.replicate (m + 3) (0 : Int)).set 0 197).set 1 ((m : Int) / 256)).set 2 ((m : Int) % 256)) 3 l = 197 :: (by2 m ++ l)) := by
    show _ = _
    rw [spl3 _ _ _ l m hm]
    simp only [by2, List.cons_append, List.nil_append]
    congr 2 <;> omega
  clear hm e1
  go_enter Tryd.func83, Tryd.ntmps83
  go_wp2_with (first | (go_at_call 93; refine (ensure_k _ (m + 3) _ HE.out (by omega) (by omega)).mono ?_; rintro e w1 ⟨rfl, rfl⟩) | (go_at_call 120; refine (prefixu16_c _ _ _ _ _ (List.replicate (m + 3) 0) _ (row_new _ _) (by simp) (by omega) (by omega) (by omega) (by omega)).mono ?_; rintro e w2 ⟨rfl, hrow, hbel⟩) | (refine copy_rd rfl (.tmp 65) (.tmp 66) (by rfl) _ _ _ _ _ _ (by rfl) (by rfl) w.heap.size 3 _ hrow l (by rw [HM.out]; exact (Nat.min_eq_left (by omega)).symm) (fun h0 => by first | rfl | (exfalso; have := HM.out; omega)) (by rw [HM.out]; simp; omega) (hr.mono (((Below.refl _ _).alloc (Nat.le_refl _) _).trans (hbel.mono (by simp)))) w.heap.size w (((Below.refl _ _).alloc (Nat.le_refl _) _).trans hbel) (Nat.le_refl _) ?_; intro w3 hrow3 hb3; rw [HM.out]))
  all_goals
    go_ret
    exact made_row (n := 3 + m) (n' := m + 3) hrow3 hfin.out (by simp [by2, HM.out]; omega) (by omega) (by omega) (Nat.le_refl _) hb3

set_option maxHeartbeats 2000000 in
set_option maxRecDepth 100000 in
theorem appBytes_l (A : Option Addr) (m c : Nat) (l : List Int) (w : World) (hr : Rd w A l) (hm : l.length = m) (h0 : 65536 ≤ m) (h1 : m ≤ 4294967295) : Calls Tryd.prog 83 #[.slice none 0 0, .slice A m c] w (Made w (198 :: (by4 m ++ l))) := by
  have HM : Hid (l.length = m) := hm
  have hx0 : (0 : Int) ≤ m := by omega
  have hx1 : (m : Int) ≤ 4294967295 := by omega
  have e1 : ((5 : Int) + m) = ((m + 5 : Nat) : Int) := by omega
  have HE := Lib.hid e1
  have hfin : Hid (splice ((((((List.replicate (m + 5) (0 : Int)).set 0 198).set 1 ((m : Int) / 16777216)).set 2 ((m : Int) / 65536 % 256)).set 3 ((m : Int) / 256 % 256)).set 4 ((m : Int) % 256)) 5 l = 198 :: (by4 m ++ l)) := by
    show _ = _
    rw [spl5 _ _ _ _ _ l m hm]
    simp only [by4, List.cons_append, List.nil_append]
    congr 2 <;> omega
  clear hm e1
  go_enter Tryd.func83, Tryd.ntmps83
  go_wp2_with (first | (go_at_call 93; refine (ensure_k _ (m + 5) _ HE.out (by omega) (by omega)).mono ?_; rintro e w1 ⟨rfl, rfl⟩) | (go_at_call 115; refine (prefixu32_c _ _ _ _ _ (List.replicate (m + 5) 0) _ (row_new _ _) (by simp) (by omega) (by omega) (by omega) (by omega)).mono ?_; rintro e w2 ⟨rfl, hrow, hbel⟩) | (refine copy_rd rfl (.tmp 65) (.tmp 66) (by rfl) _ _ _ _ _ _ (by rfl) (by rfl) w.heap.size 5 _ hrow l (by rw [HM.out]; exact (Nat.min_eq_left (by omega)).symm) (fun h0 => by first | rfl | (exfalso; have := HM.out; omega)) (by rw [HM.out]; simp; omega) (hr.mono (((Below.refl _ _).alloc (Nat.le_refl _) _).trans (hbel.mono (by simp)))) w.heap.size w (((Below.refl _ _).alloc (Nat.le_refl _) _).trans hbel) (Nat.le_refl _) ?_; intro w3 hrow3 hb3; rw [HM.out]))
  all_goals
    go_ret
    exact made_row (n := 5 + m) (n' := m + 5) hrow3 hfin.out (by simp [by4, HM.out]; omega) (by omega) (by omega) (Nat.le_refl _) hb3

theorem mk2b : ∀ w, (Instr.makeSlice 22 (.int .i64 2) (.int .i64 2)).run Tryd.prog w = .ok (.slice (some ⟨w.heap.size, 0, none⟩) 2 2) (w.alloc (.cells #[.int .u8 0, .int .u8 0] 5)) := fun _ => by kernel_rfl
theorem run_copy_none_src (d s : Option Addr) (n c k : Nat) (w : World) (ty : TypeId) :
    (Builtin.copy_ #[22, 22] ty #[.slice d n c, .slice s 0 k]).run Tryd.prog w = .ok (goInt 0) w :=
  run_copy_none (P := Tryd.prog) w 22 22 ty 5 d s n c 0 k Tryd.underlying22 u8_size (by simp)
set_option maxHeartbeats 1000000 in
theorem appBytes_0 (A : Option Addr) (c : Nat) (w : World) : Calls Tryd.prog 83 #[.slice none 0 0, .slice A 0 c] w (Made w [196, 0]) := by
  have hmk := mk2b
  have hcp := run_copy_nil_src
  have hcn := run_copy_none_src
  go_enter Tryd.func83, Tryd.ntmps83
  go_wp2
  go_end0
  go_wp2
  go_ret
  exact ⟨_, rfl, own_lit w [196, 0] _ 2 rfl rfl (by omega), (Below.refl _ _).alloc (Nat.le_refl _) _⟩
theorem appBytes_c (A : Option Addr) (m c : Nat) (l : List Int) (w : World) (hr : Rd w A l) (hm : l.length = m) (hb : m ≤ 4294967295) : Calls Tryd.prog 83 #[.slice none 0 0, .slice A m c] w (Made w (binHead m ++ l)) := by
  unfold binHead
  split
  · rcases Nat.eq_zero_or_pos m with h0 | h0
    · subst h0
      obtain rfl := List.eq_nil_of_length_eq_zero hm
      exact appBytes_0 A c w
    · exact appBytes_s A m c l w hr hm h0 (by omega)
  split
  · exact appBytes_m A m c l w hr hm (by omega) (by omega)
  · exact appBytes_l A m c l w hr hm (by omega) (by omega)

end Go.Proofs.YtpmdlbbgljcloaaDoor
