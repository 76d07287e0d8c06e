/- How msgp reads complex numbers where they are whole, and the thin package's ReadComplex64 and ReadComplex128, walked. Conditions: the slice reads as bytes and begins with a whole number of that form. -/
import Derived.Test.YtpmdlbbgljcloaaDoorComplexW
import Derived.Test.YtpmdlbbgljcloaaDoorRead
import Derived.Test.YtpmdlbbgljcloaaDoorBig
import Derived.Test.YtpmdlbbgljcloaaDoorInts
import Derived.Test.YtpmdlbbgljcloaaDoorSame
namespace Go.Proofs.YtpmdlbbgljcloaaDoor
open Go Go.RowKit Go.Lib
set_option linter.unusedVariables false

theorem be4_dropk (l : List Int) (k : Nat) : be4 (l.drop k) 0 = be4 l k := by simp [be4, be2, at_drop, Nat.add_assoc]
theorem be8_dropk (l : List Int) (k : Nat) : be8 (l.drop k) 0 = be8 l k := by simp [be8, be4, be2, at_drop, Nat.add_assoc]
theorem results_four {fn : Func} {t u v x : Tmp} (h : fn.results = #[.tmp t, .tmp u, .tmp v, .tmp x]) (tmps : Array Value) (P : Program) (w : World) :
    (results fn tmps).run P w = .ok (.tuple #[tmps.getD t undef, tmps.getD u undef, tmps.getD v undef, tmps.getD x undef]) w := by
  simp [results, h]

set_option maxHeartbeats 4000000 in
set_option maxRecDepth 100000 in
theorem rc64_ok (A : Option Addr) (n c a b : Nat) (l : List Int) (w : World) (hr : Rd w A l) (hn : l.length = n) (hnc : n ≤ c) (hm : c ≤ maxLen) (h5 : 10 ≤ n) (h0 : at_ l 0 = 215) (h1 : at_ l 1 = 3) (ha : be4 l 2 = (a : Int)) (hb : be4 l 6 = (b : Int)) :
    Calls Tryd.prog 68 #[.slice A n c] w (Ret3 w (.complex .f32 a b) (n - 10) .ok) := by
  have hm' : c ≤ 9223372036854775807 := by simp only [maxLen] at hm; omega
  obtain ⟨g, o, rfl, hg, hr', hc⟩ := hr.open_ (by omega)
  have c0 := hc 0 (by omega)
  rw [Nat.add_zero, h0] at c0
  have c1 := hc 1 (by omega)
  rw [h1] at c1
  have hga : ∀ W : World, Below w.heap.size w W → Calls Tryd.prog 106 #[.agg #[], .slice (some ⟨g, o + 2, none⟩) (n - 2) (c - 2)] W fun e w' => e = .returned (.int .u32 a) ∧ Below W.heap.size W w' := fun W hb => by
    have h := u32_c g (o + 2) (n - 2) (c - 2) (l.drop 2) W ((hr'.mono hb).cut 2) (by simp [hn]) (by omega)
    rw [be4_dropk, ha] at h
    exact h
  have hgb : ∀ W : World, Below w.heap.size w W → Calls Tryd.prog 106 #[.agg #[], .slice (some ⟨g, o + 6, none⟩) (n - 6) (c - 6)] W fun e w' => e = .returned (.int .u32 b) ∧ Below W.heap.size W w' := fun W hb' => by
    have h := u32_c g (o + 6) (n - 6) (c - 6) (l.drop 6) W ((hr'.mono hb').cut 6) (by simp [hn]) (by omega)
    rw [be4_dropk, hb] at h
    exact h
  have hfa := fun w : World => f32from (a : Int) w
  have hfb := fun w : World => f32from (b : Int) w
  simp only [Int.toNat_natCast] at hfa hfb
  have s0 : 0 < n := by omega
  have s1 : (1 : Int) < n := by omega
  have s2 : (2 : Int) ≤ n := by omega
  have s3 : (6 : Int) ≤ n := by omega
  have s4 : (10 : Int) ≤ n := by omega
  have s5 : ¬ (n : Int) < 10 := by omega
  have s6 : (n : Int) ≤ c := by omega
  have z2 : ¬ c = 2 := by omega
  have z3 : ¬ c = 6 := by omega
  have hB0 : Below w.heap.size w w.drew := (Below.refl _ _).drew
  clear hn hc hm h0 h1 ha hb hr hr'
  go_enter Tryd.func68, Tryd.ntmps68
  go_wp2_with fail
  go_region_held3 (fun w' => Below w.heap.size w w') (assumption) ((go_at_call 106; first | (with_reducible refine (hga _ (by assumption)).mono ?_; rintro e w1 ⟨rfl, hb1⟩; have hS := below_step (by assumption) hb1) | (with_reducible refine (hgb _ (by assumption)).mono ?_; rintro e w1 ⟨rfl, hb1⟩; have hS := below_step (by assumption) hb1)))
  all_goals
    go_wp2_with fail
  all_goals
    go_ret3
    exact ⟨_, _, rfl, by assumption⟩

set_option maxHeartbeats 2000000 in
set_option maxRecDepth 100000 in
theorem implRC64_ok (A : Option Addr) (n c a b : Nat) (l : List Int) (w : World) (hr : Rd w A l) (hn : l.length = n) (hle : n ≤ 1000000000000) (h5 : 10 ≤ n) (h0 : at_ l 0 = 215) (h1 : at_ l 1 = 3) (ha : be4 l 2 = (a : Int)) (hb : be4 l 6 = (b : Int)) :
    Calls Tryd.prog 26 #[.slice A n c] w fun e w' => e = .returned (.tuple #[.int .u32 a, .int .u32 b, .int .i64 ((n - 10 : Nat) : Int), .int .i64 0]) ∧ Below w.heap.size w w' := by
  subst hn
  have hcall : ∀ (A : Option Addr) (c : Nat) (W : World), Rd W A l → l.length ≤ c → c ≤ maxLen → Calls Tryd.prog 68 #[.slice A l.length c] W (Ret3 W (.complex .f32 a b) (l.length - 10) .ok) := fun A c W hh hb' hd => rc64_ok A _ c a b l W hh rfl hb' hd h5 h0 h1 ha hb
  have hfa := f32bits a
  have hfb := f32bits b
  clear h0 h1 ha hb
  go_enter Tryd.func26, Tryd.ntmps26
  go_wp2_with fail
  ((with_reducible refine (clone_c _ _ _ l _ hr rfl hle).mono ?_); rintro e w1 ⟨v, rfl, hown, hb1⟩)
  obtain ⟨A1, c1, rfl, hc1, hm1, hr1⟩ := hown.open_ hr.1
  go_wp2_with fail
  ((with_reducible refine (hcall _ _ _ hr1 hc1 hm1).mono ?_); rintro e w2 ⟨A2, c2, rfl, hb2⟩)
  go_wp2_with fail
  all_goals try (go_quiet (fail); go_wp2_with fail)
  all_goals
    ((try simp only [Exit.inBlock, Exit.then]); refine bodyPost_ret (results_four rfl _ _ _) rfl ?_)
    exact ⟨rfl, below_step hb1 hb2⟩

set_option maxHeartbeats 4000000 in
set_option maxRecDepth 100000 in
theorem rc128_ok (A : Option Addr) (n c a b : Nat) (l : List Int) (w : World) (hr : Rd w A l) (hn : l.length = n) (hnc : n ≤ c) (hm : c ≤ maxLen) (h5 : 18 ≤ n) (h0 : at_ l 0 = 216) (h1 : at_ l 1 = 4) (ha : be8 l 2 = (a : Int)) (hb : be8 l 10 = (b : Int)) :
    Calls Tryd.prog 70 #[.slice A n c] w (Ret3 w (.complex .f64 a b) (n - 18) .ok) := by
  have hm' : c ≤ 9223372036854775807 := by simp only [maxLen] at hm; omega
  obtain ⟨g, o, rfl, hg, hr', hc⟩ := hr.open_ (by omega)
  have c0 := hc 0 (by omega)
  rw [Nat.add_zero, h0] at c0
  have c1 := hc 1 (by omega)
  rw [h1] at c1
  have hga : ∀ W : World, Below w.heap.size w W → Calls Tryd.prog 107 #[.agg #[], .slice (some ⟨g, o + 2, none⟩) (n - 2) (c - 2)] W fun e w' => e = .returned (.int .u64 a) ∧ Below W.heap.size W w' := fun W hb => by
    have h := u64_c g (o + 2) (n - 2) (c - 2) (l.drop 2) W ((hr'.mono hb).cut 2) (by simp [hn]) (by omega)
    rw [be8_dropk, ha] at h
    exact h
  have hgb : ∀ W : World, Below w.heap.size w W → Calls Tryd.prog 107 #[.agg #[], .slice (some ⟨g, o + 10, none⟩) (n - 10) (c - 10)] W fun e w' => e = .returned (.int .u64 b) ∧ Below W.heap.size W w' := fun W hb' => by
    have h := u64_c g (o + 10) (n - 10) (c - 10) (l.drop 10) W ((hr'.mono hb').cut 10) (by simp [hn]) (by omega)
    rw [be8_dropk, hb] at h
    exact h
  have hfa := fun w : World => f64from (a : Int) w
  have hfb := fun w : World => f64from (b : Int) w
  simp only [Int.toNat_natCast] at hfa hfb
  have s0 : 0 < n := by omega
  have s1 : (1 : Int) < n := by omega
  have s2 : (2 : Int) ≤ n := by omega
  have s3 : (10 : Int) ≤ n := by omega
  have s4 : (18 : Int) ≤ n := by omega
  have s5 : ¬ (n : Int) < 18 := by omega
  have s6 : (n : Int) ≤ c := by omega
  have z2 : ¬ c = 2 := by omega
  have z3 : ¬ c = 10 := by omega
  have hB0 : Below w.heap.size w w.drew := (Below.refl _ _).drew
  clear hn hc hm h0 h1 ha hb hr hr'
  go_enter Tryd.func70, Tryd.ntmps70
  go_wp2_with fail
  go_region_held3 (fun w' => Below w.heap.size w w') (assumption) ((go_at_call 107; first | (with_reducible refine (hga _ (by assumption)).mono ?_; rintro e w1 ⟨rfl, hb1⟩; have hS := below_step (by assumption) hb1) | (with_reducible refine (hgb _ (by assumption)).mono ?_; rintro e w1 ⟨rfl, hb1⟩; have hS := below_step (by assumption) hb1)))
  all_goals
    go_wp2_with fail
  all_goals
    go_ret3
    exact ⟨_, _, rfl, by assumption⟩

set_option maxHeartbeats 2000000 in
set_option maxRecDepth 100000 in
theorem implRC128_ok (A : Option Addr) (n c a b : Nat) (l : List Int) (w : World) (hr : Rd w A l) (hn : l.length = n) (hle : n ≤ 1000000000000) (h5 : 18 ≤ n) (h0 : at_ l 0 = 216) (h1 : at_ l 1 = 4) (ha : be8 l 2 = (a : Int)) (hb : be8 l 10 = (b : Int)) :
    Calls Tryd.prog 27 #[.slice A n c] w fun e w' => e = .returned (.tuple #[.int .u64 a, .int .u64 b, .int .i64 ((n - 18 : Nat) : Int), .int .i64 0]) ∧ Below w.heap.size w w' := by
  subst hn
  have hcall : ∀ (A : Option Addr) (c : Nat) (W : World), Rd W A l → l.length ≤ c → c ≤ maxLen → Calls Tryd.prog 70 #[.slice A l.length c] W (Ret3 W (.complex .f64 a b) (l.length - 18) .ok) := fun A c W hh hb' hd => rc128_ok A _ c a b l W hh rfl hb' hd h5 h0 h1 ha hb
  have hfa := f64bits a
  have hfb := f64bits b
  clear h0 h1 ha hb
  go_enter Tryd.func27, Tryd.ntmps27
  go_wp2_with fail
  ((with_reducible refine (clone_c _ _ _ l _ hr rfl hle).mono ?_); rintro e w1 ⟨v, rfl, hown, hb1⟩)
  obtain ⟨A1, c1, rfl, hc1, hm1, hr1⟩ := hown.open_ hr.1
  go_wp2_with fail
  ((with_reducible refine (hcall _ _ _ hr1 hc1 hm1).mono ?_); rintro e w2 ⟨A2, c2, rfl, hb2⟩)
  go_wp2_with fail
  all_goals try (go_quiet (fail); go_wp2_with fail)
  all_goals
    ((try simp only [Exit.inBlock, Exit.then]); refine bodyPost_ret (results_four rfl _ _ _) rfl ?_)
    exact ⟨rfl, below_step hb1 hb2⟩

end Go.Proofs.YtpmdlbbgljcloaaDoor
