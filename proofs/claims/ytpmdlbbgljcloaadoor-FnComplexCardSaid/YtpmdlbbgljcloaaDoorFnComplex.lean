/- The law FnComplex, walked: how complex numbers are written, by their bits, and that they are read. Conditions: the parts are uint32s and uint64s. -/
import Derived.Test.YtpmdlbbgljcloaaDoorComplexR
namespace Go.Proofs.YtpmdlbbgljcloaaDoor
open Go Go.RowKit Go.Lib
set_option linter.unusedVariables false

theorem pc_a4 (p t a b : Int) (h0 : 0 ≤ a) (h1 : a < 4294967296) : be4 (p :: t :: (by4 a ++ by4 b)) 2 = a := by simp [be4, be2, at_, by4]; omega
theorem pc_b4 (p t a b : Int) (h0 : 0 ≤ b) (h1 : b < 4294967296) : be4 (p :: t :: (by4 a ++ by4 b)) 6 = b := by simp [be4, be2, at_, by4]; omega
theorem pc_a8 (p t a b : Int) (h0 : 0 ≤ a) (h1 : a < 18446744073709551616) : be8 (p :: t :: (by8 a ++ by8 b)) 2 = a := by simp [be8, be4, be2, at_, by8]; omega
theorem pc_b8 (p t a b : Int) (h0 : 0 ≤ b) (h1 : b < 18446744073709551616) : be8 (p :: t :: (by8 a ++ by8 b)) 10 = b := by simp [be8, be4, be2, at_, by8]; omega

theorem readC64 (a b : Nat) (X : List Int) (hX : X = 215 :: 3 :: (by4 (a : Int) ++ by4 (b : Int))) (ha : (a : Int) < 4294967296) (hb : (b : Int) < 4294967296) (A' : Option Addr) (n' c' : Nat) (W : World) (h : Rd W A' X) (hn' : X.length = n') :
    Calls Tryd.prog 26 #[.slice A' n' c'] W fun e w' => e = .returned (.tuple #[.int .u32 a, .int .u32 b, .int .i64 0, .int .i64 0]) ∧ Below W.heap.size W w' := by
  have hl : X.length = 10 := by rw [hX]; simp [by4]
  have hh := implRC64_ok A' n' c' a b X W h hn' (by omega) (by omega) (by rw [hX]; rfl) (by rw [hX]; rfl) (by rw [hX]; exact pc_a4 _ _ _ _ (by omega) ha) (by rw [hX]; exact pc_b4 _ _ _ _ (by omega) hb)
  rw [show ((n' - 10 : Nat) : Int) = 0 by omega] at hh
  exact hh
theorem readC128 (a b : Nat) (X : List Int) (hX : X = 216 :: 4 :: (by8 (a : Int) ++ by8 (b : Int))) (ha : (a : Int) < 18446744073709551616) (hb : (b : Int) < 18446744073709551616) (A' : Option Addr) (n' c' : Nat) (W : World) (h : Rd W A' X) (hn' : X.length = n') :
    Calls Tryd.prog 27 #[.slice A' n' c'] W fun e w' => e = .returned (.tuple #[.int .u64 a, .int .u64 b, .int .i64 0, .int .i64 0]) ∧ Below W.heap.size W w' := by
  have hl : X.length = 18 := by rw [hX]; simp [by8]
  have hh := implRC128_ok A' n' c' a b X W h hn' (by omega) (by omega) (by rw [hX]; rfl) (by rw [hX]; rfl) (by rw [hX]; exact pc_a8 _ _ _ _ (by omega) ha) (by rw [hX]; exact pc_b8 _ _ _ _ (by omega) hb)
  rw [show ((n' - 18 : Nat) : Int) = 0 by omega] at hh
  exact hh

set_option maxHeartbeats 8000000 in
set_option maxRecDepth 100000 in
theorem fnComplex_any (a b x y : Nat) (w : World) (ha : (a : Int) < 4294967296) (hb : (b : Int) < 4294967296) (hx : (x : Int) < 18446744073709551616) (hy : (y : Int) < 18446744073709551616)
    (ea : (bits .and .u32 (a : Int) 2139095040 == 2139095040) = false) (eb : (bits .and .u32 (b : Int) 2139095040 == 2139095040) = false) (ex : (bits .and .u64 (x : Int) 9218868437227405312 == 9218868437227405312) = false) (ey : (bits .and .u64 (y : Int) 9218868437227405312 == 9218868437227405312) = false) :
    Calls Tryd.prog 6 #[.int .u32 a, .int .u32 b, .int .u64 x, .int .u64 y] w fun e w' => e = .returned (.bool true) ∧ Below w.heap.size w w' := by
  obtain ⟨X, hX⟩ : ∃ X, X = (215 : Int) :: 3 :: (by4 (a : Int) ++ by4 (b : Int)) := ⟨_, rfl⟩
  obtain ⟨Y, hY⟩ : ∃ Y, Y = (216 : Int) :: 4 :: (by8 (x : Int) ++ by8 (y : Int)) := ⟨_, rfl⟩
  have hbx : Byts X := by rw [hX]; exact (((byts4 _).append (byts4 _)).cons (by omega)).cons (by omega)
  have hby : Byts Y := by rw [hY]; exact (((byts8 _).append (byts8 _)).cons (by omega)).cons (by omega)
  have hwx := fun W : World => complexText64_c a b W (by omega) (by omega)
  have hwy := fun W : World => complexText128_c x y W (by omega) (by omega)
  have hfx := fun W : World => implComplex64W_c a b W ha hb
  have hfy := fun W : World => implComplex128W_c x y W hx hy
  rw [← hX] at hwx hfx
  rw [← hY] at hwy hfy
  have hrx := readC64 a b X hX ha hb
  have hry := readC128 x y Y hY hx hy
  have wa : IntKind.u64.wrap (a : Int) = a := u64_wrap_id _ (by omega) (by omega)
  have wb : IntKind.u64.wrap (b : Int) = b := u64_wrap_id _ (by omega) (by omega)
  clear ha hb hx hy hX hY
  go_enter Tryd.func6, Tryd.ntmps6
  go_wp2
  go_loopw [10, 27] (fun v i wr => ∃ j : Nat, j ≤ 2 ∧ i = .int .i64 (j : Int) ∧ w.alloc (.cells #[.int .u32 a, .int .u32 b] 42) = wr) (fun _ i _ => (2 - intOf i).toNat)
  case atStart => exact ⟨0, by omega, rfl, rfl⟩
  case round =>
    obtain ⟨j, hj, rfl, rfl⟩ := hrel
    rcases j with _ | _ | _ | j
    · go_wp2
      go_roundw
      case rel => exact ⟨1, by omega, rfl, by trivial⟩
      case measure => simp [intOf]
    · go_wp2
      go_roundw
      case rel => exact ⟨2, by omega, rfl, by trivial⟩
      case measure => simp [intOf]
    · go_wp2
      go_loopw [12, 39] (fun v i wr => ∃ j : Nat, j ≤ 2 ∧ i = .int .i64 (j : Int) ∧ (w.alloc (.cells #[.int .u32 a, .int .u32 b] 42)).alloc (.cells #[.int .u64 x, .int .u64 y] 38) = wr) (fun _ i _ => (2 - intOf i).toNat)
      case atStart => exact ⟨0, by omega, rfl, rfl⟩
      case round =>
        obtain ⟨j2, hj2, rfl, rfl⟩ := hrel
        rcases j2 with _ | _ | _ | j2
        · go_wp2
          go_roundw
          case rel => exact ⟨1, by omega, rfl, by trivial⟩
          case measure => simp [intOf]
        · go_wp2
          go_roundw
          case rel => exact ⟨2, by omega, rfl, by trivial⟩
          case measure => simp [intOf]
        · have k0 : Below w.heap.size w ((w.alloc (.cells #[.int .u32 a, .int .u32 b] 42)).alloc (.cells #[.int .u64 x, .int .u64 y] 38)) := ((Below.refl _ _).alloc (Nat.le_refl _) _).alloc (by simp) _
          generalize (w.alloc (.cells #[.int .u32 a, .int .u32 b] 42)).alloc (.cells #[.int .u64 x, .int .u64 y] 38) = w0 at k0 ⊢
          go_wp2_with fail
          ((with_reducible refine (hwx _).mono ?_); rintro e w1 ⟨v1, rfl, hown1, hb1⟩)
          have b1 := below_step k0 hb1
          obtain ⟨A1, c1, rfl, -, -, hr1⟩ := hown1.open_ hbx
          go_wp2_with fail
          ((with_reducible refine (hwy _).mono ?_); rintro e w2 ⟨v2, rfl, hown2, hb2⟩)
          have b2 := below_step b1 hb2
          obtain ⟨A2, c2, rfl, -, -, hr2⟩ := hown2.open_ hby
          have x2 := hr1.mono hb2
          clear hwx hwy hown1 hown2 hr1
          go_wp2_with fail
          ((with_reducible refine (hrx _ _ _ _ x2 rfl).mono ?_); rintro e w3 ⟨rfl, hb3⟩)
          have b3 := below_step b2 hb3
          have x3 := x2.mono hb3
          have y3 := hr2.mono hb3
          clear hrx x2 hr2
          go_wp2_with fail
          ((with_reducible refine (hry _ _ _ _ y3 rfl).mono ?_); rintro e w4 ⟨rfl, hb4⟩)
          have b4 := below_step b3 hb4
          have x4 := x3.mono hb4
          have y4 := y3.mono hb4
          clear hry x3 y3
          go_wp2_with fail
          ((with_reducible refine (hfx _).mono ?_); rintro e w5 ⟨v5, rfl, hown5, hb5⟩)
          have b5 := below_step b4 hb5
          obtain ⟨A5, c5, rfl, -, -, hr5⟩ := hown5.open_ hbx
          go_wp2_with fail
          ((with_reducible refine (same_c _ _ _ _ _ X _ hr5 (x4.mono hb5) rfl).mono ?_); rintro e w6 ⟨rfl, rfl⟩)
          go_wp2_with fail
          ((with_reducible refine (hfy _).mono ?_); rintro e w7 ⟨v7, rfl, hown7, hb7⟩)
          have b7 := below_step b5 hb7
          obtain ⟨A7, c7, rfl, -, -, hr7⟩ := hown7.open_ hby
          go_wp2_with fail
          ((with_reducible refine (same_c _ _ _ _ _ Y _ hr7 ((y4.mono hb5).mono hb7) rfl).mono ?_); rintro e w8 ⟨rfl, rfl⟩)
          go_wp2_with fail
          go_ret
          exact ⟨by first | rfl | (simp; done), b7⟩
        · omega
    · omega

set_option maxHeartbeats 4000000 in
set_option maxRecDepth 100000 in
theorem fnComplex_a (a b x y : Nat) (w : World) (ea : (bits .and .u32 (a : Int) 2139095040 == 2139095040) = true) :
    Calls Tryd.prog 6 #[.int .u32 a, .int .u32 b, .int .u64 x, .int .u64 y] w fun e w' => e = .returned (.bool true) ∧ Below w.heap.size w w' := by
  go_enter Tryd.func6, Tryd.ntmps6
  go_wp2
  go_loopw [10, 27] (fun v i wr => ∃ j : Nat, j ≤ 0 ∧ i = .int .i64 (j : Int) ∧ w.alloc (.cells #[.int .u32 a, .int .u32 b] 42) = wr) (fun _ i _ => (2 - intOf i).toNat)
  case atStart => exact ⟨0, by omega, rfl, rfl⟩
  case round =>
    obtain ⟨j, hj, rfl, rfl⟩ := hrel
    obtain rfl : j = 0 := by omega
    go_wp2
    go_ret
    exact ⟨rfl, by first | exact (Below.refl _ _).alloc (Nat.le_refl _) _ | exact ((Below.refl _ _).alloc (Nat.le_refl _) _).alloc (by simp) _⟩

set_option maxHeartbeats 4000000 in
set_option maxRecDepth 100000 in
theorem fnComplex_b (a b x y : Nat) (w : World) (ea : (bits .and .u32 (a : Int) 2139095040 == 2139095040) = false) (eb : (bits .and .u32 (b : Int) 2139095040 == 2139095040) = true) :
    Calls Tryd.prog 6 #[.int .u32 a, .int .u32 b, .int .u64 x, .int .u64 y] w fun e w' => e = .returned (.bool true) ∧ Below w.heap.size w w' := by
  go_enter Tryd.func6, Tryd.ntmps6
  go_wp2
  go_loopw [10, 27] (fun v i wr => ∃ j : Nat, j ≤ 1 ∧ i = .int .i64 (j : Int) ∧ w.alloc (.cells #[.int .u32 a, .int .u32 b] 42) = wr) (fun _ i _ => (2 - intOf i).toNat)
  case atStart => exact ⟨0, by omega, rfl, rfl⟩
  case round =>
    obtain ⟨j, hj, rfl, rfl⟩ := hrel
    rcases j with _ | _ | j
    · go_wp2
      go_roundw
      case rel => exact ⟨1, by omega, rfl, by trivial⟩
      case measure => simp [intOf]
    · go_wp2
      go_ret
      exact ⟨rfl, by first | exact (Below.refl _ _).alloc (Nat.le_refl _) _ | exact ((Below.refl _ _).alloc (Nat.le_refl _) _).alloc (by simp) _⟩
    · omega

set_option maxHeartbeats 4000000 in
set_option maxRecDepth 100000 in
theorem fnComplex_x (a b x y : Nat) (w : World) (ea : (bits .and .u32 (a : Int) 2139095040 == 2139095040) = false) (eb : (bits .and .u32 (b : Int) 2139095040 == 2139095040) = false) (ex : (bits .and .u64 (x : Int) 9218868437227405312 == 9218868437227405312) = true) :
    Calls Tryd.prog 6 #[.int .u32 a, .int .u32 b, .int .u64 x, .int .u64 y] w fun e w' => e = .returned (.bool true) ∧ Below w.heap.size w w' := by
  go_enter Tryd.func6, Tryd.ntmps6
  go_wp2
  go_loopw [10, 27] (fun v i wr => ∃ j : Nat, j ≤ 2 ∧ i = .int .i64 (j : Int) ∧ w.alloc (.cells #[.int .u32 a, .int .u32 b] 42) = wr) (fun _ i _ => (2 - intOf i).toNat)
  case atStart => exact ⟨0, by omega, rfl, rfl⟩
  case round =>
    obtain ⟨j, hj, rfl, rfl⟩ := hrel
    rcases j with _ | _ | _ | j
    · go_wp2
      go_roundw
      case rel => exact ⟨1, by omega, rfl, by trivial⟩
      case measure => simp [intOf]
    · go_wp2
      go_roundw
      case rel => exact ⟨2, by omega, rfl, by trivial⟩
      case measure => simp [intOf]
    · go_wp2
      go_loopw [12, 39] (fun v i wr => ∃ j : Nat, j ≤ 0 ∧ i = .int .i64 (j : Int) ∧ (w.alloc (.cells #[.int .u32 a, .int .u32 b] 42)).alloc (.cells #[.int .u64 x, .int .u64 y] 38) = wr) (fun _ i _ => (2 - intOf i).toNat)
      case atStart => exact ⟨0, by omega, rfl, rfl⟩
      case round =>
        obtain ⟨j2, hj2, rfl, rfl⟩ := hrel
        obtain rfl : j2 = 0 := by omega
        go_wp2
        go_ret
        exact ⟨rfl, by first | exact (Below.refl _ _).alloc (Nat.le_refl _) _ | exact ((Below.refl _ _).alloc (Nat.le_refl _) _).alloc (by simp) _⟩
    · omega

set_option maxHeartbeats 4000000 in
set_option maxRecDepth 100000 in
theorem fnComplex_y (a b x y : Nat) (w : World) (ea : (bits .and .u32 (a : Int) 2139095040 == 2139095040) = false) (eb : (bits .and .u32 (b : Int) 2139095040 == 2139095040) = false) (ex : (bits .and .u64 (x : Int) 9218868437227405312 == 9218868437227405312) = false) (ey : (bits .and .u64 (y : Int) 9218868437227405312 == 9218868437227405312) = true) :
    Calls Tryd.prog 6 #[.int .u32 a, .int .u32 b, .int .u64 x, .int .u64 y] w fun e w' => e = .returned (.bool true) ∧ Below w.heap.size w w' := by
  go_enter Tryd.func6, Tryd.ntmps6
  go_wp2
  go_loopw [10, 27] (fun v i wr => ∃ j : Nat, j ≤ 2 ∧ i = .int .i64 (j : Int) ∧ w.alloc (.cells #[.int .u32 a, .int .u32 b] 42) = wr) (fun _ i _ => (2 - intOf i).toNat)
  case atStart => exact ⟨0, by omega, rfl, rfl⟩
  case round =>
    obtain ⟨j, hj, rfl, rfl⟩ := hrel
    rcases j with _ | _ | _ | j
    · go_wp2
      go_roundw
      case rel => exact ⟨1, by omega, rfl, by trivial⟩
      case measure => simp [intOf]
    · go_wp2
      go_roundw
      case rel => exact ⟨2, by omega, rfl, by trivial⟩
      case measure => simp [intOf]
    · go_wp2
      go_loopw [12, 39] (fun v i wr => ∃ j : Nat, j ≤ 1 ∧ i = .int .i64 (j : Int) ∧ (w.alloc (.cells #[.int .u32 a, .int .u32 b] 42)).alloc (.cells #[.int .u64 x, .int .u64 y] 38) = wr) (fun _ i _ => (2 - intOf i).toNat)
      case atStart => exact ⟨0, by omega, rfl, rfl⟩
      case round =>
        obtain ⟨j2, hj2, rfl, rfl⟩ := hrel
        rcases j2 with _ | _ | j2
        · go_wp2
          go_roundw
          case rel => exact ⟨1, by omega, rfl, by trivial⟩
          case measure => simp [intOf]
        · go_wp2
          go_ret
          exact ⟨rfl, by first | exact (Below.refl _ _).alloc (Nat.le_refl _) _ | exact ((Below.refl _ _).alloc (Nat.le_refl _) _).alloc (by simp) _⟩
        · omega
    · omega

theorem fnComplex_c (a b x y : Int) (w : World) (ha : 0 ≤ a ∧ a ≤ 4294967295) (hb : 0 ≤ b ∧ b ≤ 4294967295) (hx : 0 ≤ x ∧ x ≤ 18446744073709551615) (hy : 0 ≤ y ∧ y ≤ 18446744073709551615) (hG : Glob w) :
    Calls Tryd.prog 6 #[.int .u32 a, .int .u32 b, .int .u64 x, .int .u64 y] w fun e w' => e = .returned (.bool true) ∧ Below w.heap.size w w' := by
  obtain ⟨a, rfl⟩ := Int.eq_ofNat_of_zero_le ha.1
  obtain ⟨b, rfl⟩ := Int.eq_ofNat_of_zero_le hb.1
  obtain ⟨x, rfl⟩ := Int.eq_ofNat_of_zero_le hx.1
  obtain ⟨y, rfl⟩ := Int.eq_ofNat_of_zero_le hy.1
  cases ea : (bits .and .u32 (a : Int) 2139095040 == 2139095040)
  · cases eb : (bits .and .u32 (b : Int) 2139095040 == 2139095040)
    · cases ex : (bits .and .u64 (x : Int) 9218868437227405312 == 9218868437227405312)
      · cases ey : (bits .and .u64 (y : Int) 9218868437227405312 == 9218868437227405312)
        · exact fnComplex_any a b x y w (by omega) (by omega) (by omega) (by omega) ea eb ex ey
        · exact fnComplex_y a b x y w ea eb ex ey
      · exact fnComplex_x a b x y w ea eb ex
    · exact fnComplex_b a b x y w ea eb
  · exact fnComplex_a a b x y w ea

end Go.Proofs.YtpmdlbbgljcloaaDoor
