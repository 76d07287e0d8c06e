/- What the reference writes for a complex number (spec.ComplexText), and what msgp and the thin package write (AppendComplex64, AppendComplex128 onto nil), walked. Conditions: the parts' bits are uint32s or uint64s. -/
import Derived.Test.YtpmdlbbgljcloaaDoorFloatW
import Derived.Test.YtpmdlbbgljcloaaDoorPutUint
import Derived.Test.YtpmdlbbgljcloaaDoorExtText
import Derived.Deep.RegionHeld3
namespace Go.Proofs.YtpmdlbbgljcloaaDoor
open Go Go.RowKit Go.Lib
set_option linter.unusedVariables false

theorem below_cell' {B g : Nat} {w w' : World} (h : Below B w w') (j : Nat) (hB : B ≤ g) (v : Value) : Below B w (w'.setCell ⟨g, j, none⟩ v) := by
  refine Below.setCell h ?_ _
  exact hB
theorem ensure_row (K : Int) (k : Nat) (w : World) (hK : K = k) (h0 : 0 < k) (h1 : k ≤ 1000000000000) : Calls Tryd.prog 93 #[.slice none 0 0, .int .i64 K] w fun e w' => e = .returned (.tuple #[.slice (some ⟨w.heap.size, 0, none⟩) k k, .int .i64 0]) ∧ RowI w' w.heap.size (List.replicate k 0) ∧ Below w.heap.size w w' :=
  (ensure_k K k w hK h0 h1).mono fun e w' h => ⟨h.1, h.2 ▸ row_new w k, h.2 ▸ (Below.refl _ _).alloc (Nat.le_refl _) _⟩

theorem below_step' {w w1 w2 : World} (h : Below w.heap.size w w1) (hb : Below w1.heap.size w1 w2) : Below w.heap.size w w2 := h.trans (hb.mono h.size)
theorem setsc10 (p t a0 a1 a2 a3 b0 b1 b2 b3 : Int) : (((((((((((List.replicate 10 (0 : Int)).set 0 p).set 1 t).set 2 a0).set (2 + 1) a1).set (2 + 2) a2).set (2 + 3) a3).set 6 b0).set (6 + 1) b1).set (6 + 2) b2).set (6 + 3) b3) = [p, t, a0, a1, a2, a3, b0, b1, b2, b3] := by kernel_rfl

set_option maxHeartbeats 2000000 in
set_option maxRecDepth 100000 in
theorem complexText64_c (a b : Nat) (w : World) (ha : (a : Int) ≤ 18446744073709551615) (hb : (b : Int) ≤ 18446744073709551615) : Calls Tryd.prog 25 #[.int .i8 3, .int .u64 a, .int .u64 b, .int .i64 4] w (Made w (215 :: 3 :: (by4 a ++ by4 b))) := by
  have h1 : ∀ W : World, Calls Tryd.prog 67 #[.int .u64 a, .int .i64 4] W (Made W (by4 (a : Int))) := fun W => by rw [← fixedL_4]; exact fixed_c (a : Int) 4 W (by omega) ha (by omega)
  have h2 : ∀ W : World, Calls Tryd.prog 67 #[.int .u64 b, .int .i64 4] W (Made W (by4 (b : Int))) := fun W => by rw [← fixedL_4]; exact fixed_c (b : Int) 4 W (by omega) hb (by omega)
  have B1 := (show Byts (by4 (a : Int)) by rw [← fixedL_4]; exact fixedL_byts _ _)
  have B2 := (show Byts (by4 (b : Int)) by rw [← fixedL_4]; exact fixedL_byts _ _)
  have L1 := (show (by4 (a : Int)).length = 4 from rfl)
  have L2 := (show (by4 (b : Int)).length = 4 from rfl)
  have hx := fun (A : Option Addr) (c : Nat) (W : World) (hr : Rd W A (by4 (a : Int) ++ by4 (b : Int))) => extText_c 3 A 8 c _ W (by omega) hr (by rfl) (by omega) (by omega)
  have hres : extHead ((8 : Nat) : Int) ++ [3 % 256] ++ (by4 (a : Int) ++ by4 (b : Int)) = 215 :: 3 :: (by4 a ++ by4 b) := rfl
  rw [hres] at hx
  clear hres ha hb
  generalize by4 (a : Int) = X at *
  generalize by4 (b : Int) = Y at *
  have hle : X.length + Y.length ≤ 1000000000000 := by omega
  have hXY : (X ++ Y).length = 8 := by rw [List.length_append]; omega
  have HL1 := Lib.hid L1
  have HL2 := Lib.hid L2
  have HXY := Lib.hid hXY
  clear L1 L2 hXY
  go_enter Tryd.func25, Tryd.ntmps25
  go_wp2_with fail
  ((with_reducible refine (h1 _).mono ?_); rintro e w1 ⟨v1, rfl, hown1, hb1⟩)
  go_wp2_with fail
  ((with_reducible refine (h2 _).mono ?_); rintro e w2 ⟨v2, rfl, hown2, hb2⟩)
  obtain ⟨A2, c2, rfl, -, -, hr2⟩ := hown2.open_ B2
  have hb12 := below_step' hb1 hb2
  have hown1' := hown1.mono hb2
  clear h1 h2 hown1 hown2
  go_wp2_with (at_builtin; refine app_own rfl _ _ rfl w.heap.size _ X rfl hown1' A2 Y.length c2 Y rfl hr2 rfl hle hb12.size ?_; intro v3 w3 hown3 hb3)
  have hb13 := hb12.trans hb3
  obtain ⟨A3, c3, rfl, -, -, hr3⟩ := hown3.open_ (B1.append B2)
  have e3 := HXY.out
  rw [List.length_append] at e3
  try rw [List.length_append]
  rw [e3]
  ((with_reducible refine (hx _ _ _ hr3).mono ?_); rintro e w4 ⟨v4, rfl, hown4, hb4⟩)
  go_wp2_with fail
  go_ret
  exact ⟨_, rfl, hown4.less hb13.size, below_step' hb13 hb4⟩

set_option maxHeartbeats 4000000 in
set_option maxRecDepth 100000 in
theorem appComplex64_c (a b : Nat) (w : World) (ha : (a : Int) < 4294967296) (hb : (b : Int) < 4294967296) : Calls Tryd.prog 72 #[.slice none 0 0, .complex .f32 a b] w (Made w (215 :: 3 :: (by4 a ++ by4 b))) := by
  have hfa := f32bits a
  have hfb := f32bits b
  have a0 : (0 : Int) ≤ a := by omega
  have b0 : (0 : Int) ≤ b := by omega
  have HA := Lib.hid ha
  have HB := Lib.hid hb
  have e1 : (a : Int) / 16777216 % 256 = (a : Int) / 16777216 := by omega
  have e2 : (b : Int) / 16777216 % 256 = (b : Int) / 16777216 := by omega
  have E1 := Lib.hid e1
  have E2 := Lib.hid e2
  have w02 : IntKind.i64.wrap ((0 : Int) + 2) = 2 := rfl
  have w06 : IntKind.i64.wrap ((0 : Int) + 6) = 6 := rfl
  have w12 : IntKind.i64.wrap 2 = 2 := rfl
  have w16 : IntKind.i64.wrap 6 = 6 := rfl
  clear ha hb e1 e2
  go_enter Tryd.func72, Tryd.ntmps72
  go_wp2_with (go_at_call 93; refine (ensure_row 10 10 _ rfl (by omega) (by omega)).mono ?_; rintro e w1 ⟨rfl, hrow1, hb1⟩; have q0 := hrow1.cell 0 (by simp); have q1 := hrow1.cell 1 (by simp); have hf1 := fun j => hrow1.frozen j; have HS1 := Lib.hid ((hrow1.set 0 215).set 1 3); have HB1 := Lib.hid (below_cell' (below_cell' hb1 0 (Nat.le_refl _) (.int .u8 215)) 1 (Nat.le_refl _) (.int .u8 3)); clear hrow1 hb1)
  go_region_held3 (fun w' => True) (trivial) ((go_at_call 110; refine (putu32_c w.heap.size 2 _ _ (a : Int) (((List.replicate 10 (0 : Int)).set 0 215).set 1 3) (((w1.setCell ⟨w.heap.size, 0, none⟩ (.int .u8 215)).setCell ⟨w.heap.size, 1, none⟩ (.int .u8 3)).drew) HS1.out (by simp) (by omega) a0 HA.out).mono ?_; rintro e w2 ⟨rfl, hrow2, hb2⟩; have HS2 := Lib.hid hrow2; have HB2 := Lib.hid (HB1.out.drew.trans hb2); clear hrow2 hb2))
  all_goals
    go_wp2_with fail
  all_goals
    go_region_held3 (fun w' => True) (trivial) ((go_at_call 110; refine (putu32_c w.heap.size 6 _ _ (b : Int) _ w2.drew HS2.out (by simp) (by omega) b0 HB.out).mono ?_; rintro e w3 ⟨rfl, hrow3, hb3⟩))
  all_goals
    go_wp2_with fail
    go_ret
    refine made_full (by
      have hr := hrow3
      rw [setsc10] at hr
      have E : (215 :: 3 :: (by4 a ++ by4 b)) = [215, 3, (a : Int) / 16777216, (a : Int) / 65536 % 256, (a : Int) / 256 % 256, (a : Int) % 256, (b : Int) / 16777216, (b : Int) / 65536 % 256, (b : Int) / 256 % 256, (b : Int) % 256] := by simp only [by4, List.cons_append, List.nil_append]; rw [E1.out, E2.out]
      rw [E]
      exact hr) (by rfl) (by omega) (Nat.le_refl _) (HB2.out.drew.trans hb3)

set_option maxHeartbeats 1000000 in
theorem implComplex64W_c (a b : Nat) (w : World) (ha : (a : Int) < 4294967296) (hb : (b : Int) < 4294967296) : Calls Tryd.prog 28 #[.int .u32 a, .int .u32 b] w (Made w (215 :: 3 :: (by4 a ++ by4 b))) := by
  have hfa := fun w : World => f32from (a : Int) w
  have hfb := fun w : World => f32from (b : Int) w
  simp only [Int.toNat_natCast] at hfa hfb
  have hap := appComplex64_c a b w ha hb
  clear ha hb
  go_enter Tryd.func28, Tryd.ntmps28
  go_wp2_with (first | (go_at_call 72; refine hap.mono ?_; rintro e w1 ⟨v1, rfl, hown1, hb1⟩) | fail)
  go_ret
  exact ⟨_, rfl, hown1, hb1⟩

theorem setsc18 (p t a0 a1 a2 a3 a4 a5 a6 a7 b0 b1 b2 b3 b4 b5 b6 b7 : Int) : (((((((((((((((((((List.replicate 18 (0 : Int)).set 0 p).set 1 t).set 2 a0).set (2 + 1) a1).set (2 + 2) a2).set (2 + 3) a3).set (2 + 4) a4).set (2 + 5) a5).set (2 + 6) a6).set (2 + 7) a7).set 10 b0).set (10 + 1) b1).set (10 + 2) b2).set (10 + 3) b3).set (10 + 4) b4).set (10 + 5) b5).set (10 + 6) b6).set (10 + 7) b7) = [p, t, a0, a1, a2, a3, a4, a5, a6, a7, b0, b1, b2, b3, b4, b5, b6, b7] := by kernel_rfl

set_option maxHeartbeats 2000000 in
set_option maxRecDepth 100000 in
theorem complexText128_c (a b : Nat) (w : World) (ha : (a : Int) ≤ 18446744073709551615) (hb : (b : Int) ≤ 18446744073709551615) : Calls Tryd.prog 25 #[.int .i8 4, .int .u64 a, .int .u64 b, .int .i64 8] w (Made w (216 :: 4 :: (by8 a ++ by8 b))) := by
  have h1 : ∀ W : World, Calls Tryd.prog 67 #[.int .u64 a, .int .i64 8] W (Made W (by8 (a : Int))) := fun W => by rw [← fixedL_8]; exact fixed_c (a : Int) 8 W (by omega) ha (by omega)
  have h2 : ∀ W : World, Calls Tryd.prog 67 #[.int .u64 b, .int .i64 8] W (Made W (by8 (b : Int))) := fun W => by rw [← fixedL_8]; exact fixed_c (b : Int) 8 W (by omega) hb (by omega)
  have B1 := (show Byts (by8 (a : Int)) by rw [← fixedL_8]; exact fixedL_byts _ _)
  have B2 := (show Byts (by8 (b : Int)) by rw [← fixedL_8]; exact fixedL_byts _ _)
  have L1 := (show (by8 (a : Int)).length = 8 from rfl)
  have L2 := (show (by8 (b : Int)).length = 8 from rfl)
  have hx := fun (A : Option Addr) (c : Nat) (W : World) (hr : Rd W A (by8 (a : Int) ++ by8 (b : Int))) => extText_c 4 A 16 c _ W (by omega) hr (by rfl) (by omega) (by omega)
  have hres : extHead ((16 : Nat) : Int) ++ [4 % 256] ++ (by8 (a : Int) ++ by8 (b : Int)) = 216 :: 4 :: (by8 a ++ by8 b) := rfl
  rw [hres] at hx
  clear hres ha hb
  generalize by8 (a : Int) = X at *
  generalize by8 (b : Int) = Y at *
  have hle : X.length + Y.length ≤ 1000000000000 := by omega
  have hXY : (X ++ Y).length = 16 := by rw [List.length_append]; omega
  have HL1 := Lib.hid L1
  have HL2 := Lib.hid L2
  have HXY := Lib.hid hXY
  clear L1 L2 hXY
  go_enter Tryd.func25, Tryd.ntmps25
  go_wp2_with fail
  ((with_reducible refine (h1 _).mono ?_); rintro e w1 ⟨v1, rfl, hown1, hb1⟩)
  go_wp2_with fail
  ((with_reducible refine (h2 _).mono ?_); rintro e w2 ⟨v2, rfl, hown2, hb2⟩)
  obtain ⟨A2, c2, rfl, -, -, hr2⟩ := hown2.open_ B2
  have hb12 := below_step' hb1 hb2
  have hown1' := hown1.mono hb2
  clear h1 h2 hown1 hown2
  go_wp2_with (at_builtin; refine app_own rfl _ _ rfl w.heap.size _ X rfl hown1' A2 Y.length c2 Y rfl hr2 rfl hle hb12.size ?_; intro v3 w3 hown3 hb3)
  have hb13 := hb12.trans hb3
  obtain ⟨A3, c3, rfl, -, -, hr3⟩ := hown3.open_ (B1.append B2)
  have e3 := HXY.out
  rw [List.length_append] at e3
  try rw [List.length_append]
  rw [e3]
  ((with_reducible refine (hx _ _ _ hr3).mono ?_); rintro e w4 ⟨v4, rfl, hown4, hb4⟩)
  go_wp2_with fail
  go_ret
  exact ⟨_, rfl, hown4.less hb13.size, below_step' hb13 hb4⟩

set_option maxHeartbeats 4000000 in
set_option maxRecDepth 100000 in
theorem appComplex128_c (a b : Nat) (w : World) (ha : (a : Int) < 18446744073709551616) (hb : (b : Int) < 18446744073709551616) : Calls Tryd.prog 74 #[.slice none 0 0, .complex .f64 a b] w (Made w (216 :: 4 :: (by8 a ++ by8 b))) := by
  have hfa := f64bits a
  have hfb := f64bits b
  have a0 : (0 : Int) ≤ a := by omega
  have b0 : (0 : Int) ≤ b := by omega
  have HA := Lib.hid ha
  have HB := Lib.hid hb
  have e1 : (a : Int) / 72057594037927936 % 256 = (a : Int) / 72057594037927936 := by omega
  have e2 : (b : Int) / 72057594037927936 % 256 = (b : Int) / 72057594037927936 := by omega
  have E1 := Lib.hid e1
  have E2 := Lib.hid e2
  have w02 : IntKind.i64.wrap ((0 : Int) + 2) = 2 := rfl
  have w06 : IntKind.i64.wrap ((0 : Int) + 10) = 10 := rfl
  have w12 : IntKind.i64.wrap 2 = 2 := rfl
  have w16 : IntKind.i64.wrap 10 = 10 := rfl
  clear ha hb e1 e2
  go_enter Tryd.func74, Tryd.ntmps74
  go_wp2_with (go_at_call 93; refine (ensure_row 18 18 _ rfl (by omega) (by omega)).mono ?_; rintro e w1 ⟨rfl, hrow1, hb1⟩; have q0 := hrow1.cell 0 (by simp); have q1 := hrow1.cell 1 (by simp); have hf1 := fun j => hrow1.frozen j; have HS1 := Lib.hid ((hrow1.set 0 216).set 1 4); have HB1 := Lib.hid (below_cell' (below_cell' hb1 0 (Nat.le_refl _) (.int .u8 216)) 1 (Nat.le_refl _) (.int .u8 4)); clear hrow1 hb1)
  go_region_held3 (fun w' => True) (trivial) ((go_at_call 111; refine (putu64_c w.heap.size 2 _ _ (a : Int) (((List.replicate 18 (0 : Int)).set 0 216).set 1 4) (((w1.setCell ⟨w.heap.size, 0, none⟩ (.int .u8 216)).setCell ⟨w.heap.size, 1, none⟩ (.int .u8 4)).drew) HS1.out (by simp) (by omega) a0 HA.out).mono ?_; rintro e w2 ⟨rfl, hrow2, hb2⟩; have HS2 := Lib.hid hrow2; have HB2 := Lib.hid (HB1.out.drew.trans hb2); clear hrow2 hb2))
  all_goals
    go_wp2_with fail
  all_goals
    go_region_held3 (fun w' => True) (trivial) ((go_at_call 111; refine (putu64_c w.heap.size 10 _ _ (b : Int) _ w2.drew HS2.out (by simp) (by omega) b0 HB.out).mono ?_; rintro e w3 ⟨rfl, hrow3, hb3⟩))
  all_goals
    go_wp2_with fail
    go_ret
    refine made_full (by
      have hr := hrow3
      rw [setsc18] at hr
      have E : (216 :: 4 :: (by8 a ++ by8 b)) = [216, 4, (a : Int) / 72057594037927936, (a : Int) / 281474976710656 % 256, (a : Int) / 1099511627776 % 256, (a : Int) / 4294967296 % 256, (a : Int) / 16777216 % 256, (a : Int) / 65536 % 256, (a : Int) / 256 % 256, (a : Int) % 256, (b : Int) / 72057594037927936, (b : Int) / 281474976710656 % 256, (b : Int) / 1099511627776 % 256, (b : Int) / 4294967296 % 256, (b : Int) / 16777216 % 256, (b : Int) / 65536 % 256, (b : Int) / 256 % 256, (b : Int) % 256] := by simp only [by8, List.cons_append, List.nil_append]; rw [E1.out, E2.out]
      rw [E]
      exact hr) (by rfl) (by omega) (Nat.le_refl _) (HB2.out.drew.trans hb3)

set_option maxHeartbeats 1000000 in
theorem implComplex128W_c (a b : Nat) (w : World) (ha : (a : Int) < 18446744073709551616) (hb : (b : Int) < 18446744073709551616) : Calls Tryd.prog 29 #[.int .u64 a, .int .u64 b] w (Made w (216 :: 4 :: (by8 a ++ by8 b))) := by
  have hfa := fun w : World => f64from (a : Int) w
  have hfb := fun w : World => f64from (b : Int) w
  simp only [Int.toNat_natCast] at hfa hfb
  have hap := appComplex128_c a b w ha hb
  clear ha hb
  go_enter Tryd.func29, Tryd.ntmps29
  go_wp2_with (first | (go_at_call 74; refine hap.mono ?_; rintro e w1 ⟨v1, rfl, hown1, hb1⟩) | fail)
  go_ret
  exact ⟨_, rfl, hown1, hb1⟩

end Go.Proofs.YtpmdlbbgljcloaaDoor
