/- msgp's AppendExtension onto nil where the length is written out (1, 2 or 4 bytes), walked. Conditions: the struct's two cells hold a byte slice and a type; not 255 nor 65535 bytes. -/
import Derived.Test.YtpmdlbbgljcloaaDoorExtA
import Derived.Test.YtpmdlbbgljcloaaDoorPutUint
import Derived.Lib.EndianBits
namespace Go.Proofs.YtpmdlbbgljcloaaDoor
open Go Go.RowKit
set_option linter.unusedVariables false

/-- A cell of the row is written: nothing that was there ahead of the row has turned. -/
theorem below_cell {B g : Nat} {w w' : World} (h : Below B w w') (j : Nat) (hB : B ≤ g) (v : Value) : Below B w (w'.setCell ⟨g, j, none⟩ v) := by
  refine Below.setCell h ?_ _
  exact hB
theorem ensure_r (K : Int) (k : Nat) (w : World) (hK : K = k) (h0 : 0 < k) (h1 : k ≤ 1000000000000) : Calls Tryd.prog 93 #[.slice none 0 0, .int .i64 K] w fun e w' => e = .returned (.tuple #[.slice (some ⟨w.heap.size, 0, none⟩) k k, .int .i64 0]) ∧ RowI w' w.heap.size (List.replicate k 0) ∧ Below w.heap.size w w' :=
  (ensure_k K k w hK h0 h1).mono fun e w' h => ⟨h.1, h.2 ▸ row_new w k, h.2 ▸ (Below.refl _ _).alloc (Nat.le_refl _) _⟩
theorem madeE_mk {w w' : World} {g n n' : Nat} {cur l : List Int} (hrow : RowI w' g cur) (he : cur = l) (hn : l.length = n) (hnn : n = n') (hm : n ≤ 1000000000000) (hg : w.heap.size ≤ g) (hb : Below w.heap.size w w') : MadeE w l (.returned (.tuple #[.slice (some ⟨g, 0, none⟩) n n', .nilIface])) w' := by
  subst he; subst hnn
  exact ⟨_, rfl, hrow.own hg hn hm, hb⟩
theorem spl4 (p a b c : Int) (l : List Int) (m : Nat) (h : l.length = m) : splice (((((List.replicate (m + 4) (0 : Int)).set 0 p).set 1 a).set (1 + 1) b).set 3 c) 4 l = p :: a :: b :: c :: l := by
  subst h
  simp [splice, List.replicate_succ]
  omega
theorem spl6 (p a b c d e : Int) (l : List Int) (m : Nat) (h : l.length = m) : splice (((((((List.replicate (m + 6) (0 : Int)).set 0 p).set 1 a).set (1 + 1) b).set (1 + 2) c).set (1 + 3) d).set 5 e) 6 l = p :: a :: b :: c :: d :: e :: l := by
  subst h
  simp [splice, List.replicate_succ]
  omega

set_option maxHeartbeats 4000000 in
set_option maxRecDepth 100000 in
theorem appExt_b1 (p m c : Nat) (A : Option Addr) (t : Int) (x : List Int) (w : World) (h : ExtAt w p (.slice A m c) t) (hr : Rd w A x) (hm : x.length = m) (hp : p < w.heap.size) (ht : -128 ≤ t ∧ t ≤ 127) (h0 : 1 ≤ m) (h1 : m ≤ 254) (hn1 : m ≠ 1) (hn2 : m ≠ 2) (hn4 : m ≠ 4) (hn8 : m ≠ 8) (hn16 : m ≠ 16) : Calls Tryd.prog 84 #[.slice none 0 0, .iface 130 (.pointer (some ⟨p, 0, none⟩))] w (MadeE w (199 :: (by1 (m : Int) ++ (t % 256 :: x)))) := by
  obtain ⟨t0, t1⟩ := ht
  have hm1 := mt_ln
  have hm2 := mt_ty
  have hm3 := mt_mb
  have hna := na_mb
  have hlen := fun (W : World) (hb : Below w.heap.size w W) => len_e p m c A t W (h.mono hb)
  have htyp := fun (W : World) (hb : Below w.heap.size w W) => type_e p _ t W (h.mono hb)
  have hmar := fun (W : World) (cur : List Int) (hb : Below w.heap.size w W) (hrow : RowI W w.heap.size cur) (hl : cur.length = m + 3) => marshal_e p m c w.heap.size 3 m m A t x cur W (h.mono hb) (hr.mono hb) hm hrow (Nat.le_refl _) (by omega)
  have f0 : ((m : Int) == 0) = false := by simp; omega
  have f1 : ((m : Int) == 1) = false := by simp; omega
  have f2 : ((m : Int) == 2) = false := by simp; omega
  have f4 : ((m : Int) == 4) = false := by simp; omega
  have f8 : ((m : Int) == 8) = false := by simp; omega
  have f16 : ((m : Int) == 16) = false := by simp; omega
  have e1 : ((m : Int) + 3) = ((m + 3 : Nat) : Int) := by omega
  have HE := Lib.hid e1
  have HM := Lib.hid hm
  have m0 : (0 : Int) ≤ m := by omega
  have m1 : (m : Int) ≤ 254 := by omega
  have m2 : (1 : Int) ≤ m := by omega
  have z0 : ¬ m = 0 := by omega
  have sl1 : (3 : Int) ≤ ((m + 3 : Nat) : Int) := by omega
  have sl2 : (3 : Int) ≤ (m : Int) + 3 := by omega
  have w01 : IntKind.i64.wrap 1 = 1 := rfl
  have w03 : IntKind.i64.wrap ((0 : Int) + 1) = 1 := rfl
  have sl3 : (1 : Int) ≤ ((m + 3 : Nat) : Int) := by omega
  have sl4 : (1 : Int) ≤ (m : Int) + 3 := by omega
  have lt1 : True → (m : Int) < 255 := fun _ => by omega
  clear h hr hm e1
  go_enter Tryd.func84, Tryd.ntmps84
  go_wp2_with (first | (go_at_call 157; refine (hlen _ (Below.refl _ _)).mono ?_; rintro e w0 ⟨rfl, rfl⟩) | (go_at_call 93; refine (ensure_r _ (m + 3) _ HE.out (by omega) (by omega)).mono ?_; rintro e w1 ⟨rfl, hrow1, hb1⟩; have q0 := hrow1.cell 0 (by simp); have q1 := hrow1.cell 1 (by simp); have q2 := hrow1.cell 2 (by simp); have hf1 := fun j => hrow1.frozen j; have hs2 := (hrow1.set 0 199).set 1 (m : Int); have hs3 := hs2.set 2 (t % 256); have HS3 := Lib.hid hs3; have hb2 : Below w.heap.size w ((w1.setCell ⟨w.heap.size, 0, none⟩ (.int .u8 199)).setCell ⟨w.heap.size, 1, none⟩ (.int .u8 (m : Int))) := below_cell (below_cell hb1 0 (Nat.le_refl _) _) 1 (Nat.le_refl _) _; have hb3 := Lib.hid (below_cell hb2 2 (Nat.le_refl _) (.int .u8 (t % 256))); have HB2 := Lib.hid hb2; clear hs2 hs3 hb2 hrow1 hb1) | (go_at_call 156; refine (htyp _ HB2.out).mono ?_; rintro e w2 ⟨rfl, rfl⟩))
  go_region_held3 (fun w' => True) (trivial) ((go_at_call 158; refine (hmar _ _ hb3.out.drew HS3.out (by simp)).mono ?_; rintro e w4 ⟨rfl, hrow4, hb4⟩))
  all_goals
    go_wp2_with fail
    go_ret2
    exact madeE_mk hrow4 (by rw [spl3 _ _ _ x m HM.out]; simp [by1] <;> omega) (by simp [by1, HM.out] <;> omega) rfl (by omega) (Nat.le_refl _) (hb3.out.drew.trans hb4)

set_option maxHeartbeats 4000000 in
set_option maxRecDepth 100000 in
theorem appExt_b2 (p m c : Nat) (A : Option Addr) (t : Int) (x : List Int) (w : World) (h : ExtAt w p (.slice A m c) t) (hr : Rd w A x) (hm : x.length = m) (hp : p < w.heap.size) (ht : -128 ≤ t ∧ t ≤ 127) (h0 : 256 ≤ m) (h1 : m ≤ 65534) : Calls Tryd.prog 84 #[.slice none 0 0, .iface 130 (.pointer (some ⟨p, 0, none⟩))] w (MadeE w (200 :: (by2 (m : Int) ++ (t % 256 :: x)))) := by
  obtain ⟨t0, t1⟩ := ht
  have hm1 := mt_ln
  have hm2 := mt_ty
  have hm3 := mt_mb
  have hna := na_mb
  have hlen := fun (W : World) (hb : Below w.heap.size w W) => len_e p m c A t W (h.mono hb)
  have htyp := fun (W : World) (hb : Below w.heap.size w W) => type_e p _ t W (h.mono hb)
  have hmar := fun (W : World) (cur : List Int) (hb : Below w.heap.size w W) (hrow : RowI W w.heap.size cur) (hl : cur.length = m + 4) => marshal_e p m c w.heap.size 4 m m A t x cur W (h.mono hb) (hr.mono hb) hm hrow (Nat.le_refl _) (by omega)
  have f0 : ((m : Int) == 0) = false := by simp; omega
  have f1 : ((m : Int) == 1) = false := by simp; omega
  have f2 : ((m : Int) == 2) = false := by simp; omega
  have f4 : ((m : Int) == 4) = false := by simp; omega
  have f8 : ((m : Int) == 8) = false := by simp; omega
  have f16 : ((m : Int) == 16) = false := by simp; omega
  have e1 : ((m : Int) + 4) = ((m + 4 : Nat) : Int) := by omega
  have HE := Lib.hid e1
  have HM := Lib.hid hm
  have m0 : (0 : Int) ≤ m := by omega
  have m1 : (m : Int) ≤ 65534 := by omega
  have m2 : (256 : Int) ≤ m := by omega
  have z0 : ¬ m = 0 := by omega
  have sl1 : (4 : Int) ≤ ((m + 4 : Nat) : Int) := by omega
  have sl2 : (4 : Int) ≤ (m : Int) + 4 := by omega
  have w01 : IntKind.i64.wrap 1 = 1 := rfl
  have w03 : IntKind.i64.wrap ((0 : Int) + 1) = 1 := rfl
  have sl3 : (1 : Int) ≤ ((m + 4 : Nat) : Int) := by omega
  have sl4 : (1 : Int) ≤ (m : Int) + 4 := by omega
  have lt1 : True → ((m : Int) < 255 ↔ False) := fun _ => iff_false_intro (by omega)
  have lt2 : True → (m : Int) < 65535 := fun _ => by omega
  have wu : IntKind.u16.wrap (m : Int) = m := Go.u16_wrap_id _ (by omega) (by omega)
  clear h hr hm e1
  go_enter Tryd.func84, Tryd.ntmps84
  go_wp2_with (first | (go_at_call 157; refine (hlen _ (Below.refl _ _)).mono ?_; rintro e w0 ⟨rfl, rfl⟩) | (go_at_call 93; refine (ensure_r _ (m + 4) _ HE.out (by omega) (by omega)).mono ?_; rintro e w1 ⟨rfl, hrow1, hb1⟩; have q0 := hrow1.cell 0 (by simp); have hf1 := fun j => hrow1.frozen j; have hs1 := hrow1.set 0 200; have HS1 := Lib.hid hs1; have HB1 := Lib.hid (below_cell hb1 0 (Nat.le_refl _) (.int .u8 200)); clear hs1 hrow1 hb1))
  go_region_held3 (fun w' => True) (trivial) ((go_at_call 122; refine (putu16_c w.heap.size 1 _ _ (m : Int) ((List.replicate (m + 4) (0 : Int)).set 0 200) ((w1.setCell ⟨w.heap.size, 0, none⟩ (.int .u8 200)).drew) HS1.out (by simp <;> omega) (by omega) (by omega) (by omega)).mono ?_; rintro e w2 ⟨rfl, hrow2, hb2⟩; have q3 := hrow2.cell 3 (by simp); have hf2 := fun j => hrow2.frozen j; have hb2' := HB1.out.drew.trans hb2; have HS3 := Lib.hid (hrow2.set 3 (t % 256)); have HB2 := Lib.hid hb2'; have HB3 := Lib.hid (below_cell hb2' 3 (Nat.le_refl _) (.int .u8 (t % 256))); clear hrow2 hb2 hb2'))
  all_goals
    go_wp2_with (first | (go_at_call 156; refine (htyp _ HB2.out).mono ?_; rintro e w3 ⟨rfl, rfl⟩))
  all_goals
    go_region_held3 (fun w' => True) (trivial) ((go_at_call 158; refine (hmar _ _ HB3.out.drew HS3.out (by simp)).mono ?_; rintro e w4 ⟨rfl, hrow4, hb4⟩))
  all_goals
    go_wp2_with fail
    go_ret2
    exact madeE_mk hrow4 (by rw [spl4 _ _ _ _ x m HM.out]; simp [by2] <;> omega) (by simp [by2, HM.out] <;> omega) rfl (by omega) (Nat.le_refl _) (HB3.out.drew.trans hb4)

set_option maxHeartbeats 4000000 in
set_option maxRecDepth 100000 in
theorem appExt_b4 (p m c : Nat) (A : Option Addr) (t : Int) (x : List Int) (w : World) (h : ExtAt w p (.slice A m c) t) (hr : Rd w A x) (hm : x.length = m) (hp : p < w.heap.size) (ht : -128 ≤ t ∧ t ≤ 127) (h0 : 65536 ≤ m) (h1 : m ≤ 131072) : Calls Tryd.prog 84 #[.slice none 0 0, .iface 130 (.pointer (some ⟨p, 0, none⟩))] w (MadeE w (201 :: (by4 (m : Int) ++ (t % 256 :: x)))) := by
  obtain ⟨t0, t1⟩ := ht
  have hm1 := mt_ln
  have hm2 := mt_ty
  have hm3 := mt_mb
  have hna := na_mb
  have hlen := fun (W : World) (hb : Below w.heap.size w W) => len_e p m c A t W (h.mono hb)
  have htyp := fun (W : World) (hb : Below w.heap.size w W) => type_e p _ t W (h.mono hb)
  have hmar := fun (W : World) (cur : List Int) (hb : Below w.heap.size w W) (hrow : RowI W w.heap.size cur) (hl : cur.length = m + 6) => marshal_e p m c w.heap.size 6 m m A t x cur W (h.mono hb) (hr.mono hb) hm hrow (Nat.le_refl _) (by omega)
  have f0 : ((m : Int) == 0) = false := by simp; omega
  have f1 : ((m : Int) == 1) = false := by simp; omega
  have f2 : ((m : Int) == 2) = false := by simp; omega
  have f4 : ((m : Int) == 4) = false := by simp; omega
  have f8 : ((m : Int) == 8) = false := by simp; omega
  have f16 : ((m : Int) == 16) = false := by simp; omega
  have e1 : ((m : Int) + 6) = ((m + 6 : Nat) : Int) := by omega
  have HE := Lib.hid e1
  have HM := Lib.hid hm
  have m0 : (0 : Int) ≤ m := by omega
  have m1 : (m : Int) ≤ 131072 := by omega
  have m2 : (65536 : Int) ≤ m := by omega
  have z0 : ¬ m = 0 := by omega
  have sl1 : (6 : Int) ≤ ((m + 6 : Nat) : Int) := by omega
  have sl2 : (6 : Int) ≤ (m : Int) + 6 := by omega
  have w01 : IntKind.i64.wrap 1 = 1 := rfl
  have w03 : IntKind.i64.wrap ((0 : Int) + 1) = 1 := rfl
  have sl3 : (1 : Int) ≤ ((m + 6 : Nat) : Int) := by omega
  have sl4 : (1 : Int) ≤ (m : Int) + 6 := by omega
  have lt1 : True → ((m : Int) < 255 ↔ False) := fun _ => iff_false_intro (by omega)
  have lt2 : True → ((m : Int) < 65535 ↔ False) := fun _ => iff_false_intro (by omega)
  have wu : IntKind.u32.wrap (m : Int) = m := Go.u32_wrap_id _ (by omega) (by omega)
  clear h hr hm e1
  go_enter Tryd.func84, Tryd.ntmps84
  go_wp2_with (first | (go_at_call 157; refine (hlen _ (Below.refl _ _)).mono ?_; rintro e w0 ⟨rfl, rfl⟩) | (go_at_call 93; refine (ensure_r _ (m + 6) _ HE.out (by omega) (by omega)).mono ?_; rintro e w1 ⟨rfl, hrow1, hb1⟩; have q0 := hrow1.cell 0 (by simp); have hf1 := fun j => hrow1.frozen j; have hs1 := hrow1.set 0 201; have HS1 := Lib.hid hs1; have HB1 := Lib.hid (below_cell hb1 0 (Nat.le_refl _) (.int .u8 201)); clear hs1 hrow1 hb1))
  go_region_held3 (fun w' => True) (trivial) ((go_at_call 110; refine (putu32_c w.heap.size 1 _ _ (m : Int) ((List.replicate (m + 6) (0 : Int)).set 0 201) ((w1.setCell ⟨w.heap.size, 0, none⟩ (.int .u8 201)).drew) HS1.out (by simp <;> omega) (by omega) (by omega) (by omega)).mono ?_; rintro e w2 ⟨rfl, hrow2, hb2⟩; have q3 := hrow2.cell 5 (by simp); have hf2 := fun j => hrow2.frozen j; have hb2' := HB1.out.drew.trans hb2; have HS3 := Lib.hid (hrow2.set 5 (t % 256)); have HB2 := Lib.hid hb2'; have HB3 := Lib.hid (below_cell hb2' 5 (Nat.le_refl _) (.int .u8 (t % 256))); clear hrow2 hb2 hb2'))
  all_goals
    go_wp2_with (first | (go_at_call 156; refine (htyp _ HB2.out).mono ?_; rintro e w3 ⟨rfl, rfl⟩))
  all_goals
    go_region_held3 (fun w' => True) (trivial) ((go_at_call 158; refine (hmar _ _ HB3.out.drew HS3.out (by simp)).mono ?_; rintro e w4 ⟨rfl, hrow4, hb4⟩))
  all_goals
    go_wp2_with fail
    go_ret2
    exact madeE_mk hrow4 (by rw [spl6 _ _ _ _ _ _ x m HM.out]; simp [by4] <;> omega) (by simp [by4, HM.out] <;> omega) rfl (by omega) (Nat.le_refl _) (HB3.out.drew.trans hb4)

end Go.Proofs.YtpmdlbbgljcloaaDoor
