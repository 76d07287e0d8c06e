/- How msgp reads numbers with a point where they are whole, and the thin package's Float32, Float64, ReadFloat32 and ReadFloat64, walked. Conditions: the slice reads as bytes and begins with a whole number of that form. -/
import Derived.Test.YtpmdlbbgljcloaaDoorFloatW
namespace Go.Proofs.YtpmdlbbgljcloaaDoor
open Go Go.RowKit Go.Lib
set_option linter.unusedVariables false

set_option maxHeartbeats 2000000 in
set_option maxRecDepth 100000 in
theorem rf32_ok (A : Option Addr) (n c m : Nat) (l : List Int) (w : World) (hr : Rd w A l) (hn : l.length = n) (hnc : n ≤ c) (hm : c ≤ maxLen) (h5 : 5 ≤ n) (h0 : at_ l 0 = 202) (hv : be4 l 1 = (m : Int)) :
    Calls Tryd.prog 76 #[.slice A n c] w (Ret3 w (.float .f32 m) (n - 5) .ok) := by
  have hm' : c ≤ 9223372036854775807 := by simp only [maxLen] at hm; omega
  obtain ⟨g, o, rfl, hg, -, hc⟩ := hr.open_ (by omega)
  have c0 := hc 0 (by omega)
  rw [Nat.add_zero, h0] at c0
  have hgm := getM32_c g o n c l w hr hn h5
  rw [hv] at hgm
  have hff := fun w : World => f32from (m : Int) w
  simp only [Int.toNat_natCast] at hff
  have b0 : 0 < n := by omega
  clear hn hc hm h0 hv hr
  go_enter Tryd.func76, Tryd.ntmps76
  go_wp2_with (first | (go_at_call 113; refine hgm.mono ?_; rintro e w1 ⟨rfl, hb1⟩) | fail)
  all_goals
    go_ret3
    exact ⟨_, _, rfl, by first | exact hb1 | exact Below.refl _ _⟩
set_option maxHeartbeats 2000000 in
set_option maxRecDepth 100000 in
theorem implRF32_ok (A : Option Addr) (n c m : Nat) (l : List Int) (w : World) (hr : Rd w A l) (hn : l.length = n) (hle : n ≤ 1000000000000) (h5 : 5 ≤ n) (h0 : at_ l 0 = 202) (hv : be4 l 1 = (m : Int)) :
    Calls Tryd.prog 31 #[.slice A n c] w fun e w' => e = .returned (.tuple #[.int .u32 m, .int .i64 ((n - 5 : Nat) : Int), .int .i64 0]) ∧ Below w.heap.size w w' := by
  subst hn
  have hcall : ∀ (A : Option Addr) (c : Nat) (W : World), Rd W A l → l.length ≤ c → c ≤ maxLen → Calls Tryd.prog 76 #[.slice A l.length c] W (Ret3 W (.float .f32 m) (l.length - 5) .ok) := fun A c W a b d => rf32_ok A _ c m l W a rfl b d h5 h0 hv
  have hfb := f32bits m
  clear h0 hv
  go_enter Tryd.func31, Tryd.ntmps31
  go_wp2_with fail
  ((with_reducible refine (clone_c _ _ _ l _ hr rfl hle).mono ?_); rintro e w1 ⟨v, rfl, hown, hb1⟩)
  obtain ⟨A1, c1, rfl, hc1, hm1, hr1⟩ := hown.open_ hr.1
  go_wp2_with fail
  ((with_reducible refine (hcall _ _ _ hr1 hc1 hm1).mono ?_); rintro e w2 ⟨A2, c2, rfl, hb2⟩)
  go_wp2_with fail
  go_ret3
  exact ⟨rfl, below_step hb1 hb2⟩
set_option maxHeartbeats 1000000 in
theorem implF32W_c (m : Nat) (w : World) (h1 : (m : Int) < 4294967296) : Calls Tryd.prog 33 #[.int .u32 m] w (Made w (202 :: by4 m)) := by
  have hff := fun w : World => f32from (m : Int) w
  simp only [Int.toNat_natCast] at hff
  have hap := appFloat32_c m w h1
  clear h1
  go_enter Tryd.func33, Tryd.ntmps33
  go_wp2_with (first | (go_at_call 78; refine hap.mono ?_; rintro e w1 ⟨v1, rfl, hown1, hb1⟩) | fail)
  go_ret
  exact ⟨_, rfl, hown1, hb1⟩

set_option maxHeartbeats 2000000 in
set_option maxRecDepth 100000 in
theorem rf64_ok (A : Option Addr) (n c m : Nat) (l : List Int) (w : World) (hr : Rd w A l) (hn : l.length = n) (hnc : n ≤ c) (hm : c ≤ maxLen) (h5 : 9 ≤ n) (h0 : at_ l 0 = 203) (hv : be8 l 1 = (m : Int)) :
    Calls Tryd.prog 77 #[.slice A n c] w (Ret3 w (.float .f64 m) (n - 9) .ok) := by
  have hm' : c ≤ 9223372036854775807 := by simp only [maxLen] at hm; omega
  obtain ⟨g, o, rfl, hg, -, hc⟩ := hr.open_ (by omega)
  have c0 := hc 0 (by omega)
  rw [Nat.add_zero, h0] at c0
  have hgm := getM64_c g o n c l w hr hn h5
  rw [hv] at hgm
  have hff := fun w : World => f64from (m : Int) w
  simp only [Int.toNat_natCast] at hff
  have b0 : 0 < n := by omega
  clear hn hc hm h0 hv hr
  go_enter Tryd.func77, Tryd.ntmps77
  go_wp2_with (first | (go_at_call 114; refine hgm.mono ?_; rintro e w1 ⟨rfl, hb1⟩) | fail)
  all_goals
    go_ret3
    exact ⟨_, _, rfl, by first | exact hb1 | exact Below.refl _ _⟩
set_option maxHeartbeats 2000000 in
set_option maxRecDepth 100000 in
theorem implRF64_ok (A : Option Addr) (n c m : Nat) (l : List Int) (w : World) (hr : Rd w A l) (hn : l.length = n) (hle : n ≤ 1000000000000) (h5 : 9 ≤ n) (h0 : at_ l 0 = 203) (hv : be8 l 1 = (m : Int)) :
    Calls Tryd.prog 32 #[.slice A n c] w fun e w' => e = .returned (.tuple #[.int .u64 m, .int .i64 ((n - 9 : Nat) : Int), .int .i64 0]) ∧ Below w.heap.size w w' := by
  subst hn
  have hcall : ∀ (A : Option Addr) (c : Nat) (W : World), Rd W A l → l.length ≤ c → c ≤ maxLen → Calls Tryd.prog 77 #[.slice A l.length c] W (Ret3 W (.float .f64 m) (l.length - 9) .ok) := fun A c W a b d => rf64_ok A _ c m l W a rfl b d h5 h0 hv
  have hfb := f64bits m
  clear h0 hv
  go_enter Tryd.func32, Tryd.ntmps32
  go_wp2_with fail
  ((with_reducible refine (clone_c _ _ _ l _ hr rfl hle).mono ?_); rintro e w1 ⟨v, rfl, hown, hb1⟩)
  obtain ⟨A1, c1, rfl, hc1, hm1, hr1⟩ := hown.open_ hr.1
  go_wp2_with fail
  ((with_reducible refine (hcall _ _ _ hr1 hc1 hm1).mono ?_); rintro e w2 ⟨A2, c2, rfl, hb2⟩)
  go_wp2_with fail
  go_ret3
  exact ⟨rfl, below_step hb1 hb2⟩
set_option maxHeartbeats 1000000 in
theorem implF64W_c (m : Nat) (w : World) (h1 : (m : Int) < 18446744073709551616) : Calls Tryd.prog 34 #[.int .u64 m] w (Made w (203 :: by8 m)) := by
  have hff := fun w : World => f64from (m : Int) w
  simp only [Int.toNat_natCast] at hff
  have hap := appFloat64_c m w h1
  clear h1
  go_enter Tryd.func34, Tryd.ntmps34
  go_wp2_with (first | (go_at_call 79; refine hap.mono ?_; rintro e w1 ⟨v1, rfl, hown1, hb1⟩) | fail)
  go_ret
  exact ⟨_, rfl, hown1, hb1⟩

end Go.Proofs.YtpmdlbbgljcloaaDoor
