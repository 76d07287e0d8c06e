/- The law FnFloats, walked: how numbers with a point are written, by their bits, and that they are read. Conditions: the numbers are a uint32 and a uint64; the slice reads as bytes. -/
import Derived.Test.YtpmdlbbgljcloaaDoorFloatR
import Derived.Test.YtpmdlbbgljcloaaDoorSpecInt
namespace Go.Proofs.YtpmdlbbgljcloaaDoor
open Go Go.RowKit Go.Lib
set_option linter.unusedVariables false

theorem p_be4 (n f : Int) (r : List Int) : be4 ((f :: by4 n) ++ r) 1 = n % 4294967296 := by simp [be4, be2, at_, by4]; omega
theorem p_be8 (n f : Int) (r : List Int) : be8 ((f :: by8 n) ++ r) 1 = n % 18446744073709551616 := by simp [be8, be4, be2, at_, by8]; omega

set_option maxHeartbeats 8000000 in
set_option maxRecDepth 100000 in
theorem fnFloats_any (a b : Nat) (B : Option Addr) (k d : Nat) (r : List Int) (w : World) (ha : (a : Int) < 4294967296) (hb : (b : Int) < 18446744073709551616) (hrr : Rd w B r) (hrl : r.length = k) (h4' : k ≤ 131072)
    (ea : (bits .and .u32 (a : Int) 2139095040 == 2139095040) = false) (eb : (bits .and .u64 (b : Int) 9218868437227405312 == 9218868437227405312) = false) :
    Calls Tryd.prog 7 #[.int .u32 a, .int .u64 b, .slice B k d] w fun e w' => e = .returned (.bool true) ∧ Below w.heap.size w w' := by
  have HR : Hid (r.length = k) := hrl
  have a0 : (0 : Int) ≤ a := by omega
  have b0 : (0 : Int) ≤ b := by omega
  obtain ⟨X, hX⟩ : ∃ X, X = (202 : Int) :: by4 a := ⟨_, rfl⟩
  obtain ⟨Y, hY⟩ : ∃ Y, Y = (203 : Int) :: by8 b := ⟨_, rfl⟩
  have hx5 : X.length = 5 := by rw [hX]; simp [by4]
  have hy9 : Y.length = 9 := by rw [hY]; simp [by8]
  have hbx : Byts X := by rw [hX]; exact (byts4 _).cons (by omega)
  have hby : Byts Y := by rw [hY]; exact (byts8 _).cons (by omega)
  have hwx := fun W : World => with4_c 202 (a : Int) W (by omega) a0 (by omega)
  have hwy := fun W : World => with8_c 203 (b : Int) W (by omega) b0 (by omega)
  have hfx := fun W : World => implF32W_c a W ha
  have hfy := fun W : World => implF64W_c b W hb
  rw [← hX] at hwx hfx
  rw [← hY] at hwy hfy
  have hrx : ∀ (A' : Option Addr) (n' c' : Nat) (W : World), Rd W A' (X ++ r) → (X ++ r).length = n' → Calls Tryd.prog 31 #[.slice A' n' c'] W fun e w' => e = .returned (.tuple #[.int .u32 a, .int .i64 k, .int .i64 0]) ∧ Below W.heap.size W w' := fun A' n' c' W h hn' => by
    have hl : n' = k + 5 := by rw [← hn', List.length_append, hx5, hrl]; omega
    have hh := implRF32_ok A' n' c' a _ W h hn' (by omega) (by omega) (by rw [hX]; rfl) (by rw [hX, p_be4]; omega)
    rw [show n' - 5 = k by omega] at hh
    exact hh
  have hry : ∀ (A' : Option Addr) (n' c' : Nat) (W : World), Rd W A' (Y ++ r) → (Y ++ r).length = n' → Calls Tryd.prog 32 #[.slice A' n' c'] W fun e w' => e = .returned (.tuple #[.int .u64 b, .int .i64 k, .int .i64 0]) ∧ Below W.heap.size W w' := fun A' n' c' W h hn' => by
    have hl : n' = k + 9 := by rw [← hn', List.length_append, hy9, hrl]; omega
    have hh := implRF64_ok A' n' c' b _ W h hn' (by omega) (by omega) (by rw [hY]; rfl) (by rw [hY, p_be8]; omega)
    rw [show n' - 9 = k by omega] at hh
    exact hh
  have hlenA : ([] : List Int).length + X.length ≤ 1000000000000 := by rw [hx5]; simp
  have hlenB : ([] : List Int).length + Y.length ≤ 1000000000000 := by rw [hy9]; simp
  have hlenC : X.length + r.length ≤ 1000000000000 := by rw [hx5, hrl]; omega
  have hlenD : Y.length + r.length ≤ 1000000000000 := by rw [hy9, hrl]; omega
  have hbxr : Byts (X ++ r) := hbx.append hrr.1
  have hbyr : Byts (Y ++ r) := hby.append hrr.1
  have wa : IntKind.u64.wrap (a : Int) = a := u64_wrap_id _ a0 (by omega)
  clear hrl ha hb hX hY hx5 hy9
  go_enter Tryd.func7, Tryd.ntmps7
  go_wp2_with fail
  ((with_reducible refine (hwx _).mono ?_); rintro e w1 ⟨v1, rfl, hown1, hb1⟩)
  obtain ⟨A1, c1, rfl, -, -, hr1⟩ := hown1.open_ hbx
  go_wp2_with fail
  ((with_reducible refine (hwy _).mono ?_); rintro e w2 ⟨v2, rfl, hown2, hb2⟩)
  obtain ⟨A2, c2, rfl, -, -, hr2⟩ := hown2.open_ hby
  have b2 := below_step hb1 hb2
  have hx2 := hr1.mono hb2
  go_wp2_with (first | (at_builtin; refine app_own rfl _ _ rfl w2.heap.size _ [] rfl (own_lit w2 [] #[] 0 rfl rfl (by omega)) A1 X.length c1 X rfl (hx2.alloc _) rfl hlenA (by simp) ?_; intro v4 w4 hown4 hb4; have k4 : Below w2.heap.size w2 w4 := ((Below.refl _ _).alloc (Nat.le_refl _) _).trans hb4) | (at_builtin; refine app_own rfl _ _ rfl w2.heap.size _ X rfl hown4 B k d r rfl ((hrr.mono b2).mono k4) HR.out hlenC k4.size ?_; intro v5 w5 hown5 hb5))
  have k5 := k4.trans hb5
  have b5 := below_step b2 k5
  obtain ⟨A5, c5, rfl, -, -, hr5⟩ := hown5.open_ hbxr
  ((with_reducible refine (hrx _ _ _ _ hr5 rfl).mono ?_); rintro e w6 ⟨rfl, hb6⟩)
  have b6 := below_step b5 hb6
  have hx6 := (hx2.mono k5).mono hb6
  have hy6 := (hr2.mono k5).mono hb6
  clear hrx hown4 hown5 hr5 hwx hwy
  go_wp2_with (first | (at_builtin; refine app_own rfl _ _ rfl w6.heap.size _ [] rfl (own_lit w6 [] #[] 0 rfl rfl (by omega)) A2 Y.length c2 Y rfl (hy6.alloc _) rfl hlenB (by simp) ?_; intro v7 w7 hown7 hb7; have k7 : Below w6.heap.size w6 w7 := ((Below.refl _ _).alloc (Nat.le_refl _) _).trans hb7) | (at_builtin; refine app_own rfl _ _ rfl w6.heap.size _ Y rfl hown7 B k d r rfl ((hrr.mono b6).mono k7) HR.out hlenD k7.size ?_; intro v8 w8 hown8 hb8))
  have k8 := k7.trans hb8
  have b8 := below_step b6 k8
  obtain ⟨A8, c8, rfl, -, -, hr8⟩ := hown8.open_ hbyr
  ((with_reducible refine (hry _ _ _ _ hr8 rfl).mono ?_); rintro e w9 ⟨rfl, hb9⟩)
  have b9 := below_step b8 hb9
  have hx9 := (hx6.mono k8).mono hb9
  have hy9' := (hy6.mono k8).mono hb9
  clear hry hown7 hown8 hr8
  go_wp2_with fail
  ((with_reducible refine (hfx _).mono ?_); rintro e w10 ⟨v10, rfl, hown10, hb10⟩)
  have b10 := below_step b9 hb10
  obtain ⟨A10, c10, rfl, -, -, hr10⟩ := hown10.open_ hbx
  go_wp2_with fail
  ((with_reducible refine (same_c _ _ _ _ _ X _ hr10 (hx9.mono hb10) rfl).mono ?_); rintro e w11 ⟨rfl, rfl⟩)
  go_wp2_with fail
  ((with_reducible refine (hfy _).mono ?_); rintro e w12 ⟨v12, rfl, hown12, hb12⟩)
  have b12 := below_step b10 hb12
  obtain ⟨A12, c12, rfl, -, -, hr12⟩ := hown12.open_ hby
  go_wp2_with fail
  ((with_reducible refine (same_c _ _ _ _ _ Y _ hr12 ((hy9'.mono hb10).mono hb12) rfl).mono ?_); rintro e w13 ⟨rfl, rfl⟩)
  go_wp2_with fail
  go_ret
  exact ⟨by first | rfl | (simp; done), b12⟩

set_option maxHeartbeats 2000000 in
set_option maxRecDepth 100000 in
theorem fnFloats_c (x y : Int) (B : Option Addr) (k d : Nat) (r : List Int) (w : World) (hx : 0 ≤ x ∧ x ≤ 4294967295) (hy : 0 ≤ y ∧ y ≤ 18446744073709551615) (hrr : Rd w B r) (hrl : r.length = k) (hkd : k ≤ d) (hdx : d ≤ maxLen) (hG : Glob w) :
    Calls Tryd.prog 7 #[.int .u32 x, .int .u64 y, .slice B k d] w fun e w' => e = .returned (.bool true) ∧ Below w.heap.size w w' := by
  by_cases h2 : 2147483647 < k
  · clear hrl hdx
    go_enter Tryd.func7, Tryd.ntmps7
    go_wp2_with fail
    go_ret
    exact ⟨rfl, Below.refl _ _⟩
  have h2' : k ≤ 2147483647 := by omega
  by_cases h4 : 131072 < k
  · clear hrl hdx h2
    go_enter Tryd.func7, Tryd.ntmps7
    go_wp2_with fail
    go_ret
    exact ⟨rfl, Below.refl _ _⟩
  have h4' : k ≤ 131072 := by omega
  obtain ⟨a, rfl⟩ := Int.eq_ofNat_of_zero_le hx.1
  obtain ⟨b, rfl⟩ := Int.eq_ofNat_of_zero_le hy.1
  cases ea : (bits .and .u32 (a : Int) 2139095040 == 2139095040)
  · cases eb : (bits .and .u64 (b : Int) 9218868437227405312 == 9218868437227405312)
    · exact fnFloats_any a b B k d r w (by omega) (by omega) hrr hrl h4' ea eb
    · clear hrl hdx hx hy h2 h4
      go_enter Tryd.func7, Tryd.ntmps7
      go_wp2_with fail
      go_ret
      exact ⟨rfl, Below.refl _ _⟩
  · clear hrl hdx hx hy h2 h4
    go_enter Tryd.func7, Tryd.ntmps7
    go_wp2_with fail
    go_ret
    exact ⟨rfl, Below.refl _ _⟩
end Go.Proofs.YtpmdlbbgljcloaaDoor
