/- What msgp writes for a text (AppendString onto nil), walked: the head, and the text's bytes behind it. Conditions: at most 2^32 - 1 bytes. -/
import Derived.Test.YtpmdlbbgljcloaaDoorAppStr
import Derived.Test.YtpmdlbbgljcloaaDoorAppBytes
import Derived.Lib.EndianBits
namespace Go.Proofs.YtpmdlbbgljcloaaDoor
open Go Go.RowKit Go.Lib
set_option linter.unusedVariables false

theorem wfs_or (x : Int) (h0 : 0 ≤ x) (h1 : x < 32) : bits .or .u8 x 160 = 160 + x := by
  rw [u8_or x 160 (by omega) (by omega) (by omega) (by omega)]
  show ((x.toNat ||| 160 : Nat) : Int) = 160 + x
  have key : ∀ y : Fin 32, (y.val ||| 160) = 160 + y.val := by decide
  have := key ⟨x.toNat, by omega⟩
  simp only at this
  rw [this]
  omega
theorem wfs_and (x : Int) (h0 : 0 ≤ x) (h1 : x < 32) : bits .and .u8 x 31 = x := by
  rw [u8_and x 31 (by omega) (by omega) (by omega) (by omega)]
  show ((x.toNat &&& 31 : Nat) : Int) = x
  rw [nat_mask5]
  omega
set_option maxHeartbeats 400000 in
theorem wfixstr_c (x : Int) (w : World) (h0 : 0 ≤ x) (h1 : x < 32) : Calls Tryd.prog 118 #[.int .u8 x] w fun e w' => e = .returned (.int .u8 (160 + x)) ∧ w = w' := by
  have e := wfs_or x h0 h1
  have e2 := wfs_and x h0 h1
  go_enter Tryd.func118, Tryd.ntmps118
  go_wp2
  go_ret
  exact ⟨rfl, rfl⟩
theorem spl1 (p : Int) (l : List Int) (m : Nat) (h : l.length = m) : splice ((List.replicate (m + 1) (0 : Int)).set 0 p) 1 l = p :: l := by
  subst h
  simp [splice, List.replicate_succ]
  omega
theorem mk1b : ∀ w, (Instr.makeSlice 22 (.int .i64 1) (.int .i64 1)).run Tryd.prog w = .ok (.slice (some ⟨w.heap.size, 0, none⟩) 1 1) (w.alloc (.cells #[.int .u8 0] 5)) := fun _ => by kernel_rfl

set_option maxHeartbeats 1000000 in
theorem appStr_0 (s : ByteArray) (w : World) (h : s.size = 0) : Calls Tryd.prog 81 #[.slice none 0 0, .string s] w (Made w [160]) := by
  have hmk := mk1b
  have hcp := run_copy_nil_src
  have hcn := fun (w : World) (ty : TypeId) (d : Option Addr) (n c : Nat) => run_copy_empty_string (P := Tryd.prog) w 22 9 ty 5 d n c s Tryd.underlying22 (by rw [Option.isSome_map]; have := u8_size; simp at this; obtain ⟨i, hi, _⟩ := this; simp [hi]) h
  go_enter Tryd.func81, Tryd.ntmps81
  go_wp2_with (first | (go_at_call 118; refine (wfixstr_c _ _ (by omega) (by omega)).mono ?_; rintro e w' ⟨rfl, rfl⟩) | go_in)
  go_ret
  exact ⟨_, rfl, own_lit w [160] _ 1 rfl rfl (by omega), (Below.refl _ _).alloc (Nat.le_refl _) _⟩

set_option maxHeartbeats 2000000 in
set_option maxRecDepth 100000 in
theorem appStr_f (s : ByteArray) (m : Nat) (w : World) (hm : s.size = m) (h0 : 1 ≤ m) (h1 : m ≤ 31) : Calls Tryd.prog 81 #[.slice none 0 0, .string s] w (Made w ((160 + (m : Int)) :: strInts s)) := by
  have HM : Hid (s.size = m) := hm
  have hx0 : (0 : Int) ≤ m := by omega
  have hx1 : (m : Int) ≤ 31 := by omega
  have e1 : ((1 : Int) + m) = ((m + 1 : Nat) : Int) := by omega
  have HE := Lib.hid e1
  have hsl : (strInts s).length = m := by rw [strInts_length, hm]
  have hfin : Hid (splice ((List.replicate (m + 1) (0 : Int)).set 0 (160 + (m : Int))) 1 (strInts s) = (160 + (m : Int)) :: strInts s) := spl1 _ _ m hsl
  have HS := Lib.hid hsl
  have hrow0 := row_new w (m + 1)
  have q0 := hrow0.cell 0 (by simp)
  have hf := fun j => hrow0.frozen j
  have hrow1 : Hid (RowI (w.alloc (.cells ((zer (m + 1)).setIfInBounds 0 (.int .u8 (160 + (m : Int)))) 5)) w.heap.size ((List.replicate (m + 1) (0 : Int)).set 0 (160 + (m : Int)))) := by
    show RowI _ _ _
    unfold RowI
    rw [heap_alloc_new]
    congr 2
    apply Array.toList_inj.1
    rw [Array.toList_setIfInBounds, zer_toList]
    simp
  have hb2 : Hid (Below w.heap.size w (w.alloc (.cells ((zer (m + 1)).setIfInBounds 0 (.int .u8 (160 + (m : Int)))) 5))) := (Below.refl _ _).alloc (Nat.le_refl _) _
  clear e1 hsl hrow0
  go_enter Tryd.func81, Tryd.ntmps81
  go_wp2_with (first | (go_at_call 93; refine (ensure_k _ (m + 1) _ HE.out (by omega) (by omega)).mono ?_; rintro e w1 ⟨rfl, rfl⟩) | (go_at_call 118; refine (wfixstr_c _ _ (by omega) (by omega)).mono ?_; rintro e w' ⟨rfl, rfl⟩) | (refine copy_str rfl (.tmp 83) (.tmp 84) (by rfl) w.heap.size 1 _ _ s (by rfl) (by rfl) _ hrow1.out (by rw [HM.out]; omega) (by rw [HM.out]; simp; omega) w.heap.size w hb2.out (Nat.le_refl _) ?_; intro w3 hrow3 hb3; rw [HM.out]))
  all_goals
    go_ret
    exact made_row (n := 1 + m) (n' := m + 1) hrow3 hfin.out (by simp [HS.out]; omega) (by omega) (by omega) (Nat.le_refl _) hb3

set_option maxHeartbeats 2000000 in
set_option maxRecDepth 100000 in
theorem appStr_s (s : ByteArray) (m : Nat) (w : World) (hm : s.size = m) (h0 : 32 ≤ m) (h1 : m ≤ 255) : Calls Tryd.prog 81 #[.slice none 0 0, .string s] w (Made w (217 :: (by1 m ++ strInts s))) := by
  have HM : Hid (s.size = m) := hm
  have hx0 : (0 : Int) ≤ m := by omega
  have hx1 : (m : Int) ≤ 255 := by omega
  have e1 : ((2 : Int) + m) = ((m + 2 : Nat) : Int) := by omega
  have HE := Lib.hid e1
  have hsl : (strInts s).length = m := by rw [strInts_length, hm]
  have hfin : Hid (splice (((List.replicate (m + 2) (0 : Int)).set 0 217).set 1 (m : Int)) 2 (strInts s) = 217 :: (by1 m ++ strInts s)) := by
    show _ = _
    rw [spl2 _ _ _ m hsl]
    simp only [by1, List.cons_append, List.nil_append]
    congr 2 <;> omega
  have HS := Lib.hid hsl
  clear e1 hsl
  go_enter Tryd.func81, Tryd.ntmps81
  go_wp2_with (first | (go_at_call 93; refine (ensure_k _ (m + 2) _ HE.out (by omega) (by omega)).mono ?_; rintro e w1 ⟨rfl, rfl⟩) | (go_at_call 119; refine (prefixu8_c _ _ _ _ _ (List.replicate (m + 2) 0) _ (row_new _ _) (by simp) (by omega) (by omega) (by omega) (by omega)).mono ?_; rintro e w2 ⟨rfl, hrow, hbel⟩) | (refine copy_str rfl (.tmp 83) (.tmp 84) (by rfl) w.heap.size 2 _ _ s (by rfl) (by rfl) _ hrow (by rw [HM.out]; omega) (by rw [HM.out]; simp; omega) w.heap.size w (((Below.refl _ _).alloc (Nat.le_refl _) _).trans hbel) (Nat.le_refl _) ?_; intro w3 hrow3 hb3; rw [HM.out]))
  all_goals
    go_ret
    exact made_row (n := 2 + m) (n' := m + 2) hrow3 hfin.out (by simp [by1, HS.out]; omega) (by omega) (by omega) (Nat.le_refl _) hb3

set_option maxHeartbeats 2000000 in
set_option maxRecDepth 100000 in
theorem appStr_m (s : ByteArray) (m : Nat) (w : World) (hm : s.size = m) (h0 : 256 ≤ m) (h1 : m ≤ 65535) : Calls Tryd.prog 81 #[.slice none 0 0, .string s] w (Made w (218 :: (by2 m ++ strInts s))) := by
  have HM : Hid (s.size = m) := hm
  have hx0 : (0 : Int) ≤ m := by omega
  have hx1 : (m : Int) ≤ 65535 := by omega
  have e1 : ((3 : Int) + m) = ((m + 3 : Nat) : Int) := by omega
  have HE := Lib.hid e1
  have hsl : (strInts s).length = m := by rw [strInts_length, hm]
  have hfin : Hid (splice ((((List.replicate (m + 3) (0 : Int)).set 0 218).set 1 ((m : Int) / 256)).set 2 ((m : Int) % 256)) 3 (strInts s) = 218 :: (by2 m ++ strInts s)) := by
    show _ = _
    rw [spl3 _ _ _ _ m hsl]
    simp only [by2, List.cons_append, List.nil_append]
    congr 2 <;> omega
  have HS := Lib.hid hsl
  clear e1 hsl
  go_enter Tryd.func81, Tryd.ntmps81
  go_wp2_with (first | (go_at_call 93; refine (ensure_k _ (m + 3) _ HE.out (by omega) (by omega)).mono ?_; rintro e w1 ⟨rfl, rfl⟩) | (go_at_call 120; refine (prefixu16_c _ _ _ _ _ (List.replicate (m + 3) 0) _ (row_new _ _) (by simp) (by omega) (by omega) (by omega) (by omega)).mono ?_; rintro e w2 ⟨rfl, hrow, hbel⟩) | (refine copy_str rfl (.tmp 83) (.tmp 84) (by rfl) w.heap.size 3 _ _ s (by rfl) (by rfl) _ hrow (by rw [HM.out]; omega) (by rw [HM.out]; simp; omega) w.heap.size w (((Below.refl _ _).alloc (Nat.le_refl _) _).trans hbel) (Nat.le_refl _) ?_; intro w3 hrow3 hb3; rw [HM.out]))
  all_goals
    go_ret
    exact made_row (n := 3 + m) (n' := m + 3) hrow3 hfin.out (by simp [by2, HS.out]; omega) (by omega) (by omega) (Nat.le_refl _) hb3

set_option maxHeartbeats 2000000 in
set_option maxRecDepth 100000 in
theorem appStr_l (s : ByteArray) (m : Nat) (w : World) (hm : s.size = m) (h0 : 65536 ≤ m) (h1 : m ≤ 4294967295) : Calls Tryd.prog 81 #[.slice none 0 0, .string s] w (Made w (219 :: (by4 m ++ strInts s))) := by
  have HM : Hid (s.size = m) := hm
  have hx0 : (0 : Int) ≤ m := by omega
  have hx1 : (m : Int) ≤ 4294967295 := by omega
  have e1 : ((5 : Int) + m) = ((m + 5 : Nat) : Int) := by omega
  have HE := Lib.hid e1
  have hsl : (strInts s).length = m := by rw [strInts_length, hm]
  have hfin : Hid (splice ((((((List.replicate (m + 5) (0 : Int)).set 0 219).set 1 ((m : Int) / 16777216)).set 2 ((m : Int) / 65536 % 256)).set 3 ((m : Int) / 256 % 256)).set 4 ((m : Int) % 256)) 5 (strInts s) = 219 :: (by4 m ++ strInts s)) := by
    show _ = _
    rw [spl5 _ _ _ _ _ _ m hsl]
    simp only [by4, List.cons_append, List.nil_append]
    congr 2 <;> omega
  have HS := Lib.hid hsl
  clear e1 hsl
  go_enter Tryd.func81, Tryd.ntmps81
  go_wp2_with (first | (go_at_call 93; refine (ensure_k _ (m + 5) _ HE.out (by omega) (by omega)).mono ?_; rintro e w1 ⟨rfl, rfl⟩) | (go_at_call 115; refine (prefixu32_c _ _ _ _ _ (List.replicate (m + 5) 0) _ (row_new _ _) (by simp) (by omega) (by omega) (by omega) (by omega)).mono ?_; rintro e w2 ⟨rfl, hrow, hbel⟩) | (refine copy_str rfl (.tmp 83) (.tmp 84) (by rfl) w.heap.size 5 _ _ s (by rfl) (by rfl) _ hrow (by rw [HM.out]; omega) (by rw [HM.out]; simp; omega) w.heap.size w (((Below.refl _ _).alloc (Nat.le_refl _) _).trans hbel) (Nat.le_refl _) ?_; intro w3 hrow3 hb3; rw [HM.out]))
  all_goals
    go_ret
    exact made_row (n := 5 + m) (n' := m + 5) hrow3 hfin.out (by simp [by4, HS.out]; omega) (by omega) (by omega) (Nat.le_refl _) hb3

theorem appStr_c (s : ByteArray) (m : Nat) (w : World) (hm : s.size = m) (hb : m ≤ 4294967295) : Calls Tryd.prog 81 #[.slice none 0 0, .string s] w (Made w (textHead m ++ strInts s)) := by
  unfold textHead
  split
  · rcases Nat.eq_zero_or_pos m with h0 | h0
    · subst h0
      have e : strInts s = [] := List.eq_nil_of_length_eq_zero (by rw [strInts_length, hm])
      rw [e]
      exact appStr_0 s w hm
    · exact appStr_f s m w hm h0 (by omega)
  split
  · exact appStr_s s m w hm (by omega) (by omega)
  split
  · exact appStr_m s m w hm (by omega) (by omega)
  · exact appStr_l s m w hm (by omega) (by omega)

end Go.Proofs.YtpmdlbbgljcloaaDoor
