/- msgp's AppendExtension onto nil, walked. Conditions: the struct's two cells hold a byte slice and a type; at most 2^32 - 1 bytes. -/
import Derived.Test.YtpmdlbbgljcloaaDoorExtW
import Derived.Test.YtpmdlbbgljcloaaDoorAppBytes
import Derived.Deep.RegionHeld3
namespace Go.Proofs.YtpmdlbbgljcloaaDoor
open Go Go.RowKit
set_option linter.unusedVariables false

/-- 'The call returns a slice of its own with these bytes, and no error.' -/
def MadeE (w : World) (l : List Int) (e : Ending) (w' : World) : Prop := ∃ v, e = .returned (.tuple #[v, .nilIface]) ∧ Own w' w.heap.size v l ∧ Below w.heap.size w w'

theorem mt_ln (a : Addr) (w : World) : (method 344 130 (.pointer (some a)) "Len").run Tryd.prog w = .ok (157, .pointer (some a)) w := by kernel_rfl
theorem mt_ty (a : Addr) (w : World) : (method 344 130 (.pointer (some a)) "ExtensionType").run Tryd.prog w = .ok (156, .pointer (some a)) w := by kernel_rfl
theorem mt_mb (a : Addr) (w : World) : (method 344 130 (.pointer (some a)) "MarshalBinaryTo").run Tryd.prog w = .ok (158, .pointer (some a)) w := by kernel_rfl
theorem na_mb (a : Addr) (w : World) : (nilAhead 344 130 (.pointer (some a)) "MarshalBinaryTo").run Tryd.prog w = .ok (some false) w := by kernel_rfl
set_option maxHeartbeats 2000000 in
set_option maxRecDepth 100000 in
theorem appExt_1 (p c : Nat) (A : Option Addr) (t : Int) (x : List Int) (w : World) (h : ExtAt w p (.slice A 1 c) t) (hr : Rd w A x) (hm : x.length = 1) (hp : p < w.heap.size) : Calls Tryd.prog 84 #[.slice none 0 0, .iface 130 (.pointer (some ⟨p, 0, none⟩))] w (MadeE w (212 :: t % 256 :: x)) := by
  have hm1 := mt_ln
  have hm2 := mt_ty
  have hm3 := mt_mb
  have hna := na_mb
  have hlen := fun (W : World) (hb : Below w.heap.size w W) => len_e p 1 c A t W (h.mono hb)
  have htyp := fun (W : World) (hb : Below w.heap.size w W) => type_e p _ t W (h.mono hb)
  have H := Lib.hid h
  have HR := Lib.hid hr
  have HM := Lib.hid hm
  have hrow0 := row_new w 3
  have q0 := hrow0.cell 0 (by simp)
  have hf0 := fun j => hrow0.frozen j
  have hrow1 : RowI (w.alloc (.cells ((zer 3).setIfInBounds 0 (.int .u8 212)) 5)) w.heap.size ((List.replicate 3 (0 : Int)).set 0 212) := by
    unfold RowI
    rw [heap_alloc_new]
    congr 2
    apply Array.toList_inj.1
    rw [Array.toList_setIfInBounds, zer_toList]
    simp
  have q1 := hrow1.cell 1 (by simp)
  have hf1 := fun j => hrow1.frozen j
  have hrow2 : RowI (w.alloc (.cells (((zer 3).setIfInBounds 0 (.int .u8 212)).setIfInBounds 1 (.int .u8 (t % 256))) 5)) w.heap.size (((List.replicate 3 (0 : Int)).set 0 212).set 1 (t % 256)) := by
    unfold RowI
    rw [heap_alloc_new]
    congr 2
    apply Array.toList_inj.1
    rw [Array.toList_setIfInBounds, Array.toList_setIfInBounds, zer_toList]
    simp
  have hmar := marshal_e p 1 c w.heap.size 2 1 1 A t x _ ((w.alloc (.cells (((zer 3).setIfInBounds 0 (.int .u8 212)).setIfInBounds 1 (.int .u8 (t % 256))) 5)).drew) (h.mono ((Below.refl _ _).alloc (Nat.le_refl _) _).drew) (hr.mono ((Below.refl _ _).alloc (Nat.le_refl _) _).drew) hm hrow2 (Nat.le_refl _) (by simp)
  clear hrow0 hrow1 hrow2
  clear h hr hm
  go_enter Tryd.func84, Tryd.ntmps84
  go_wp2_with (first | (go_at_call 157; refine (hlen _ (Below.refl _ _)).mono ?_; rintro e w1 ⟨rfl, rfl⟩) | (go_at_call 93; refine (ensure_k _ 3 _ rfl (by omega) (by omega)).mono ?_; rintro e w1 ⟨rfl, rfl⟩) | (go_at_call 156; refine (htyp _ (by first | exact (Below.refl _ _).alloc (Nat.le_refl _) _ | exact Below.refl _ _ | skip)).mono ?_; rintro e w1 ⟨rfl, rfl⟩))
  go_region_held3 (fun w' => True) (trivial) ((go_at_call 158; refine hmar.mono ?_; rintro e w2 ⟨rfl, hrow3, hb3⟩))
  all_goals
    go_wp2_with fail
    go_ret2
    exact ⟨_, rfl, by
      have e := spl2 212 (t % 256) x 1 HM.out
      rw [e] at hrow3
      exact hrow3.own (Nat.le_refl _) (by simp [HM.out]) (by omega), ((Below.refl _ _).alloc (Nat.le_refl _) _).drew.trans hb3⟩

set_option maxHeartbeats 2000000 in
set_option maxRecDepth 100000 in
theorem appExt_2 (p c : Nat) (A : Option Addr) (t : Int) (x : List Int) (w : World) (h : ExtAt w p (.slice A 2 c) t) (hr : Rd w A x) (hm : x.length = 2) (hp : p < w.heap.size) : Calls Tryd.prog 84 #[.slice none 0 0, .iface 130 (.pointer (some ⟨p, 0, none⟩))] w (MadeE w (213 :: t % 256 :: x)) := by
  have hm1 := mt_ln
  have hm2 := mt_ty
  have hm3 := mt_mb
  have hna := na_mb
  have hlen := fun (W : World) (hb : Below w.heap.size w W) => len_e p 2 c A t W (h.mono hb)
  have htyp := fun (W : World) (hb : Below w.heap.size w W) => type_e p _ t W (h.mono hb)
  have H := Lib.hid h
  have HR := Lib.hid hr
  have HM := Lib.hid hm
  have hrow0 := row_new w 4
  have q0 := hrow0.cell 0 (by simp)
  have hf0 := fun j => hrow0.frozen j
  have hrow1 : RowI (w.alloc (.cells ((zer 4).setIfInBounds 0 (.int .u8 213)) 5)) w.heap.size ((List.replicate 4 (0 : Int)).set 0 213) := by
    unfold RowI
    rw [heap_alloc_new]
    congr 2
    apply Array.toList_inj.1
    rw [Array.toList_setIfInBounds, zer_toList]
    simp
  have q1 := hrow1.cell 1 (by simp)
  have hf1 := fun j => hrow1.frozen j
  have hrow2 : RowI (w.alloc (.cells (((zer 4).setIfInBounds 0 (.int .u8 213)).setIfInBounds 1 (.int .u8 (t % 256))) 5)) w.heap.size (((List.replicate 4 (0 : Int)).set 0 213).set 1 (t % 256)) := by
    unfold RowI
    rw [heap_alloc_new]
    congr 2
    apply Array.toList_inj.1
    rw [Array.toList_setIfInBounds, Array.toList_setIfInBounds, zer_toList]
    simp
  have hmar := marshal_e p 2 c w.heap.size 2 2 2 A t x _ ((w.alloc (.cells (((zer 4).setIfInBounds 0 (.int .u8 213)).setIfInBounds 1 (.int .u8 (t % 256))) 5)).drew) (h.mono ((Below.refl _ _).alloc (Nat.le_refl _) _).drew) (hr.mono ((Below.refl _ _).alloc (Nat.le_refl _) _).drew) hm hrow2 (Nat.le_refl _) (by simp)
  clear hrow0 hrow1 hrow2
  clear h hr hm
  go_enter Tryd.func84, Tryd.ntmps84
  go_wp2_with (first | (go_at_call 157; refine (hlen _ (Below.refl _ _)).mono ?_; rintro e w1 ⟨rfl, rfl⟩) | (go_at_call 93; refine (ensure_k _ 4 _ rfl (by omega) (by omega)).mono ?_; rintro e w1 ⟨rfl, rfl⟩) | (go_at_call 156; refine (htyp _ (by first | exact (Below.refl _ _).alloc (Nat.le_refl _) _ | exact Below.refl _ _ | skip)).mono ?_; rintro e w1 ⟨rfl, rfl⟩))
  go_region_held3 (fun w' => True) (trivial) ((go_at_call 158; refine hmar.mono ?_; rintro e w2 ⟨rfl, hrow3, hb3⟩))
  all_goals
    go_wp2_with fail
    go_ret2
    exact ⟨_, rfl, by
      have e := spl2 213 (t % 256) x 2 HM.out
      rw [e] at hrow3
      exact hrow3.own (Nat.le_refl _) (by simp [HM.out]) (by omega), ((Below.refl _ _).alloc (Nat.le_refl _) _).drew.trans hb3⟩

set_option maxHeartbeats 2000000 in
set_option maxRecDepth 100000 in
theorem appExt_4 (p c : Nat) (A : Option Addr) (t : Int) (x : List Int) (w : World) (h : ExtAt w p (.slice A 4 c) t) (hr : Rd w A x) (hm : x.length = 4) (hp : p < w.heap.size) : Calls Tryd.prog 84 #[.slice none 0 0, .iface 130 (.pointer (some ⟨p, 0, none⟩))] w (MadeE w (214 :: t % 256 :: x)) := by
  have hm1 := mt_ln
  have hm2 := mt_ty
  have hm3 := mt_mb
  have hna := na_mb
  have hlen := fun (W : World) (hb : Below w.heap.size w W) => len_e p 4 c A t W (h.mono hb)
  have htyp := fun (W : World) (hb : Below w.heap.size w W) => type_e p _ t W (h.mono hb)
  have H := Lib.hid h
  have HR := Lib.hid hr
  have HM := Lib.hid hm
  have hrow0 := row_new w 6
  have q0 := hrow0.cell 0 (by simp)
  have hf0 := fun j => hrow0.frozen j
  have hrow1 : RowI (w.alloc (.cells ((zer 6).setIfInBounds 0 (.int .u8 214)) 5)) w.heap.size ((List.replicate 6 (0 : Int)).set 0 214) := by
    unfold RowI
    rw [heap_alloc_new]
    congr 2
    apply Array.toList_inj.1
    rw [Array.toList_setIfInBounds, zer_toList]
    simp
  have q1 := hrow1.cell 1 (by simp)
  have hf1 := fun j => hrow1.frozen j
  have hrow2 : RowI (w.alloc (.cells (((zer 6).setIfInBounds 0 (.int .u8 214)).setIfInBounds 1 (.int .u8 (t % 256))) 5)) w.heap.size (((List.replicate 6 (0 : Int)).set 0 214).set 1 (t % 256)) := by
    unfold RowI
    rw [heap_alloc_new]
    congr 2
    apply Array.toList_inj.1
    rw [Array.toList_setIfInBounds, Array.toList_setIfInBounds, zer_toList]
    simp
  have hmar := marshal_e p 4 c w.heap.size 2 4 4 A t x _ ((w.alloc (.cells (((zer 6).setIfInBounds 0 (.int .u8 214)).setIfInBounds 1 (.int .u8 (t % 256))) 5)).drew) (h.mono ((Below.refl _ _).alloc (Nat.le_refl _) _).drew) (hr.mono ((Below.refl _ _).alloc (Nat.le_refl _) _).drew) hm hrow2 (Nat.le_refl _) (by simp)
  clear hrow0 hrow1 hrow2
  clear h hr hm
  go_enter Tryd.func84, Tryd.ntmps84
  go_wp2_with (first | (go_at_call 157; refine (hlen _ (Below.refl _ _)).mono ?_; rintro e w1 ⟨rfl, rfl⟩) | (go_at_call 93; refine (ensure_k _ 6 _ rfl (by omega) (by omega)).mono ?_; rintro e w1 ⟨rfl, rfl⟩) | (go_at_call 156; refine (htyp _ (by first | exact (Below.refl _ _).alloc (Nat.le_refl _) _ | exact Below.refl _ _ | skip)).mono ?_; rintro e w1 ⟨rfl, rfl⟩))
  go_region_held3 (fun w' => True) (trivial) ((go_at_call 158; refine hmar.mono ?_; rintro e w2 ⟨rfl, hrow3, hb3⟩))
  all_goals
    go_wp2_with fail
    go_ret2
    exact ⟨_, rfl, by
      have e := spl2 214 (t % 256) x 4 HM.out
      rw [e] at hrow3
      exact hrow3.own (Nat.le_refl _) (by simp [HM.out]) (by omega), ((Below.refl _ _).alloc (Nat.le_refl _) _).drew.trans hb3⟩

set_option maxHeartbeats 2000000 in
set_option maxRecDepth 100000 in
theorem appExt_8 (p c : Nat) (A : Option Addr) (t : Int) (x : List Int) (w : World) (h : ExtAt w p (.slice A 8 c) t) (hr : Rd w A x) (hm : x.length = 8) (hp : p < w.heap.size) : Calls Tryd.prog 84 #[.slice none 0 0, .iface 130 (.pointer (some ⟨p, 0, none⟩))] w (MadeE w (215 :: t % 256 :: x)) := by
  have hm1 := mt_ln
  have hm2 := mt_ty
  have hm3 := mt_mb
  have hna := na_mb
  have hlen := fun (W : World) (hb : Below w.heap.size w W) => len_e p 8 c A t W (h.mono hb)
  have htyp := fun (W : World) (hb : Below w.heap.size w W) => type_e p _ t W (h.mono hb)
  have H := Lib.hid h
  have HR := Lib.hid hr
  have HM := Lib.hid hm
  have hrow0 := row_new w 10
  have q0 := hrow0.cell 0 (by simp)
  have hf0 := fun j => hrow0.frozen j
  have hrow1 : RowI (w.alloc (.cells ((zer 10).setIfInBounds 0 (.int .u8 215)) 5)) w.heap.size ((List.replicate 10 (0 : Int)).set 0 215) := by
    unfold RowI
    rw [heap_alloc_new]
    congr 2
    apply Array.toList_inj.1
    rw [Array.toList_setIfInBounds, zer_toList]
    simp
  have q1 := hrow1.cell 1 (by simp)
  have hf1 := fun j => hrow1.frozen j
  have hrow2 : RowI (w.alloc (.cells (((zer 10).setIfInBounds 0 (.int .u8 215)).setIfInBounds 1 (.int .u8 (t % 256))) 5)) w.heap.size (((List.replicate 10 (0 : Int)).set 0 215).set 1 (t % 256)) := by
    unfold RowI
    rw [heap_alloc_new]
    congr 2
    apply Array.toList_inj.1
    rw [Array.toList_setIfInBounds, Array.toList_setIfInBounds, zer_toList]
    simp
  have hmar := marshal_e p 8 c w.heap.size 2 8 8 A t x _ ((w.alloc (.cells (((zer 10).setIfInBounds 0 (.int .u8 215)).setIfInBounds 1 (.int .u8 (t % 256))) 5)).drew) (h.mono ((Below.refl _ _).alloc (Nat.le_refl _) _).drew) (hr.mono ((Below.refl _ _).alloc (Nat.le_refl _) _).drew) hm hrow2 (Nat.le_refl _) (by simp)
  clear hrow0 hrow1 hrow2
  clear h hr hm
  go_enter Tryd.func84, Tryd.ntmps84
  go_wp2_with (first | (go_at_call 157; refine (hlen _ (Below.refl _ _)).mono ?_; rintro e w1 ⟨rfl, rfl⟩) | (go_at_call 93; refine (ensure_k _ 10 _ rfl (by omega) (by omega)).mono ?_; rintro e w1 ⟨rfl, rfl⟩) | (go_at_call 156; refine (htyp _ (by first | exact (Below.refl _ _).alloc (Nat.le_refl _) _ | exact Below.refl _ _ | skip)).mono ?_; rintro e w1 ⟨rfl, rfl⟩))
  go_region_held3 (fun w' => True) (trivial) ((go_at_call 158; refine hmar.mono ?_; rintro e w2 ⟨rfl, hrow3, hb3⟩))
  all_goals
    go_wp2_with fail
    go_ret2
    exact ⟨_, rfl, by
      have e := spl2 215 (t % 256) x 8 HM.out
      rw [e] at hrow3
      exact hrow3.own (Nat.le_refl _) (by simp [HM.out]) (by omega), ((Below.refl _ _).alloc (Nat.le_refl _) _).drew.trans hb3⟩

set_option maxHeartbeats 2000000 in
set_option maxRecDepth 100000 in
theorem appExt_16 (p c : Nat) (A : Option Addr) (t : Int) (x : List Int) (w : World) (h : ExtAt w p (.slice A 16 c) t) (hr : Rd w A x) (hm : x.length = 16) (hp : p < w.heap.size) : Calls Tryd.prog 84 #[.slice none 0 0, .iface 130 (.pointer (some ⟨p, 0, none⟩))] w (MadeE w (216 :: t % 256 :: x)) := by
  have hm1 := mt_ln
  have hm2 := mt_ty
  have hm3 := mt_mb
  have hna := na_mb
  have hlen := fun (W : World) (hb : Below w.heap.size w W) => len_e p 16 c A t W (h.mono hb)
  have htyp := fun (W : World) (hb : Below w.heap.size w W) => type_e p _ t W (h.mono hb)
  have H := Lib.hid h
  have HR := Lib.hid hr
  have HM := Lib.hid hm
  have hrow0 := row_new w 18
  have q0 := hrow0.cell 0 (by simp)
  have hf0 := fun j => hrow0.frozen j
  have hrow1 : RowI (w.alloc (.cells ((zer 18).setIfInBounds 0 (.int .u8 216)) 5)) w.heap.size ((List.replicate 18 (0 : Int)).set 0 216) := by
    unfold RowI
    rw [heap_alloc_new]
    congr 2
    apply Array.toList_inj.1
    rw [Array.toList_setIfInBounds, zer_toList]
    simp
  have q1 := hrow1.cell 1 (by simp)
  have hf1 := fun j => hrow1.frozen j
  have hrow2 : RowI (w.alloc (.cells (((zer 18).setIfInBounds 0 (.int .u8 216)).setIfInBounds 1 (.int .u8 (t % 256))) 5)) w.heap.size (((List.replicate 18 (0 : Int)).set 0 216).set 1 (t % 256)) := by
    unfold RowI
    rw [heap_alloc_new]
    congr 2
    apply Array.toList_inj.1
    rw [Array.toList_setIfInBounds, Array.toList_setIfInBounds, zer_toList]
    simp
  have hmar := marshal_e p 16 c w.heap.size 2 16 16 A t x _ ((w.alloc (.cells (((zer 18).setIfInBounds 0 (.int .u8 216)).setIfInBounds 1 (.int .u8 (t % 256))) 5)).drew) (h.mono ((Below.refl _ _).alloc (Nat.le_refl _) _).drew) (hr.mono ((Below.refl _ _).alloc (Nat.le_refl _) _).drew) hm hrow2 (Nat.le_refl _) (by simp)
  clear hrow0 hrow1 hrow2
  clear h hr hm
  go_enter Tryd.func84, Tryd.ntmps84
  go_wp2_with (first | (go_at_call 157; refine (hlen _ (Below.refl _ _)).mono ?_; rintro e w1 ⟨rfl, rfl⟩) | (go_at_call 93; refine (ensure_k _ 18 _ rfl (by omega) (by omega)).mono ?_; rintro e w1 ⟨rfl, rfl⟩) | (go_at_call 156; refine (htyp _ (by first | exact (Below.refl _ _).alloc (Nat.le_refl _) _ | exact Below.refl _ _ | skip)).mono ?_; rintro e w1 ⟨rfl, rfl⟩))
  go_region_held3 (fun w' => True) (trivial) ((go_at_call 158; refine hmar.mono ?_; rintro e w2 ⟨rfl, hrow3, hb3⟩))
  all_goals
    go_wp2_with fail
    go_ret2
    exact ⟨_, rfl, by
      have e := spl2 216 (t % 256) x 16 HM.out
      rw [e] at hrow3
      exact hrow3.own (Nat.le_refl _) (by simp [HM.out]) (by omega), ((Below.refl _ _).alloc (Nat.le_refl _) _).drew.trans hb3⟩

end Go.Proofs.YtpmdlbbgljcloaaDoor
