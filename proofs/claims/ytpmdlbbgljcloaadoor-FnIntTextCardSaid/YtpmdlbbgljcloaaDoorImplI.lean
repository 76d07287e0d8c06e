/- The thin package's ReadInt at 8, 16, 32 and 64 bits, walked. Conditions: the slice reads as bytes; the two sentinels' variables hold what the program lays in them. -/
import Derived.Test.YtpmdlbbgljcloaaDoorReadI64
namespace Go.Proofs.YtpmdlbbgljcloaaDoor
open Go Go.RowKit Go.Lib
set_option linter.unusedVariables false

theorem rdI8_range (l : List Int) (hb : Byts l) : -128 ≤ (rdI8 l).1 ∧ (rdI8 l).1 ≤ 127 := by
  have h := rdI64_range l hb
  unfold InRI at h
  unfold rdI8
  split
  · exact ⟨show (-128 : Int) ≤ 0 by decide, show (0 : Int) ≤ 127 by decide⟩
  · omega

set_option maxHeartbeats 1000000 in
set_option maxRecDepth 100000 in
theorem implI8_c (A : Option Addr) (n c : Nat) (l : List Int) (w : World) (hr : Rd w A l) (hn : l.length = n) (hle : n ≤ 1000000000000) (hG : Glob w) :
    Calls Tryd.prog 17 #[.slice A n c, .int .i64 8] w fun e w' => e = .returned (.tuple #[.int .i64 (rdI8 l).1, .int .i64 (rdI8 l).2.1, .int .i64 (rdI8 l).2.2.code]) ∧ Below w.heap.size w w' := by
  have HN : Hid (l.length = n) := hn
  have HG : Hid (Glob w) := hG
  have hcall : ∀ (A : Option Addr) (c : Nat) (w : World), Rd w A l → l.length ≤ c → c ≤ maxLen → Glob w → Calls Tryd.prog 54 #[.slice A l.length c] w (Ret3 w (.int .i8 (rdI8 l).1) (rdI8 l).2.1 (rdI8 l).2.2) := fun A c w a b d e => readI8_c A _ c l w a rfl b d e
  have hrg := rdI8_range l hr.1
  generalize rdI8 l = R at hcall hrg ⊢
  obtain ⟨x, k, r⟩ := R
  obtain ⟨x0, x1⟩ := hrg
  simp only at hcall x0 x1
  simp only []
  clear hn hG
  go_enter Tryd.func17, Tryd.ntmps17
  go_wp2_with fail
  ((with_reducible refine (clone_c _ _ _ l _ hr HN.out hle).mono ?_); rintro e w1 ⟨v, rfl, hown, hb1⟩)
  obtain ⟨A1, c1, rfl, hc1, hm1, hr1⟩ := hown.open_ hr.1
  go_wp2_with fail
  ((with_reducible refine (hcall _ _ _ hr1 hc1 hm1 (HG.out.mono hb1)).mono ?_); rintro e w2 ⟨A2, c2, rfl, hb2⟩)
  go_wp2_with fail
  ((with_reducible refine (codeOf_c _ _ ((HG.out.mono hb1).mono hb2)).mono ?_); rintro e w3 ⟨rfl, hb3⟩)
  go_wp2_with fail
  go_ret3
  exact ⟨rfl, below_step (below_step hb1 hb2) hb3⟩

theorem rdI16_range (l : List Int) (hb : Byts l) : -32768 ≤ (rdI16 l).1 ∧ (rdI16 l).1 ≤ 32767 := by
  have h := rdI64_range l hb
  unfold InRI at h
  unfold rdI16
  split
  · exact ⟨show (-32768 : Int) ≤ 0 by decide, show (0 : Int) ≤ 32767 by decide⟩
  · omega

set_option maxHeartbeats 1000000 in
set_option maxRecDepth 100000 in
theorem implI16_c (A : Option Addr) (n c : Nat) (l : List Int) (w : World) (hr : Rd w A l) (hn : l.length = n) (hle : n ≤ 1000000000000) (hG : Glob w) :
    Calls Tryd.prog 17 #[.slice A n c, .int .i64 16] w fun e w' => e = .returned (.tuple #[.int .i64 (rdI16 l).1, .int .i64 (rdI16 l).2.1, .int .i64 (rdI16 l).2.2.code]) ∧ Below w.heap.size w w' := by
  have HN : Hid (l.length = n) := hn
  have HG : Hid (Glob w) := hG
  have hcall : ∀ (A : Option Addr) (c : Nat) (w : World), Rd w A l → l.length ≤ c → c ≤ maxLen → Glob w → Calls Tryd.prog 56 #[.slice A l.length c] w (Ret3 w (.int .i16 (rdI16 l).1) (rdI16 l).2.1 (rdI16 l).2.2) := fun A c w a b d e => readI16_c A _ c l w a rfl b d e
  have hrg := rdI16_range l hr.1
  generalize rdI16 l = R at hcall hrg ⊢
  obtain ⟨x, k, r⟩ := R
  obtain ⟨x0, x1⟩ := hrg
  simp only at hcall x0 x1
  simp only []
  clear hn hG
  go_enter Tryd.func17, Tryd.ntmps17
  go_wp2_with fail
  ((with_reducible refine (clone_c _ _ _ l _ hr HN.out hle).mono ?_); rintro e w1 ⟨v, rfl, hown, hb1⟩)
  obtain ⟨A1, c1, rfl, hc1, hm1, hr1⟩ := hown.open_ hr.1
  go_wp2_with fail
  ((with_reducible refine (hcall _ _ _ hr1 hc1 hm1 (HG.out.mono hb1)).mono ?_); rintro e w2 ⟨A2, c2, rfl, hb2⟩)
  go_wp2_with fail
  ((with_reducible refine (codeOf_c _ _ ((HG.out.mono hb1).mono hb2)).mono ?_); rintro e w3 ⟨rfl, hb3⟩)
  go_wp2_with fail
  go_ret3
  exact ⟨rfl, below_step (below_step hb1 hb2) hb3⟩

theorem rdI32_range (l : List Int) (hb : Byts l) : -2147483648 ≤ (rdI32 l).1 ∧ (rdI32 l).1 ≤ 2147483647 := by
  have h := rdI64_range l hb
  unfold InRI at h
  unfold rdI32
  split
  · exact ⟨show (-2147483648 : Int) ≤ 0 by decide, show (0 : Int) ≤ 2147483647 by decide⟩
  · omega

set_option maxHeartbeats 1000000 in
set_option maxRecDepth 100000 in
theorem implI32_c (A : Option Addr) (n c : Nat) (l : List Int) (w : World) (hr : Rd w A l) (hn : l.length = n) (hle : n ≤ 1000000000000) (hG : Glob w) :
    Calls Tryd.prog 17 #[.slice A n c, .int .i64 32] w fun e w' => e = .returned (.tuple #[.int .i64 (rdI32 l).1, .int .i64 (rdI32 l).2.1, .int .i64 (rdI32 l).2.2.code]) ∧ Below w.heap.size w w' := by
  have HN : Hid (l.length = n) := hn
  have HG : Hid (Glob w) := hG
  have hcall : ∀ (A : Option Addr) (c : Nat) (w : World), Rd w A l → l.length ≤ c → c ≤ maxLen → Glob w → Calls Tryd.prog 57 #[.slice A l.length c] w (Ret3 w (.int .i32 (rdI32 l).1) (rdI32 l).2.1 (rdI32 l).2.2) := fun A c w a b d e => readI32_c A _ c l w a rfl b d e
  have hrg := rdI32_range l hr.1
  generalize rdI32 l = R at hcall hrg ⊢
  obtain ⟨x, k, r⟩ := R
  obtain ⟨x0, x1⟩ := hrg
  simp only at hcall x0 x1
  simp only []
  clear hn hG
  go_enter Tryd.func17, Tryd.ntmps17
  go_wp2_with fail
  ((with_reducible refine (clone_c _ _ _ l _ hr HN.out hle).mono ?_); rintro e w1 ⟨v, rfl, hown, hb1⟩)
  obtain ⟨A1, c1, rfl, hc1, hm1, hr1⟩ := hown.open_ hr.1
  go_wp2_with fail
  ((with_reducible refine (hcall _ _ _ hr1 hc1 hm1 (HG.out.mono hb1)).mono ?_); rintro e w2 ⟨A2, c2, rfl, hb2⟩)
  go_wp2_with fail
  ((with_reducible refine (codeOf_c _ _ ((HG.out.mono hb1).mono hb2)).mono ?_); rintro e w3 ⟨rfl, hb3⟩)
  go_wp2_with fail
  go_ret3
  exact ⟨rfl, below_step (below_step hb1 hb2) hb3⟩

set_option maxHeartbeats 1000000 in
set_option maxRecDepth 100000 in
theorem implI64_c (A : Option Addr) (n c : Nat) (l : List Int) (w : World) (hr : Rd w A l) (hn : l.length = n) (hle : n ≤ 1000000000000) (hG : Glob w) :
    Calls Tryd.prog 17 #[.slice A n c, .int .i64 64] w fun e w' => e = .returned (.tuple #[.int .i64 (rdI64 l).1, .int .i64 (rdI64 l).2.1, .int .i64 (rdI64 l).2.2.code]) ∧ Below w.heap.size w w' := by
  have HN : Hid (l.length = n) := hn
  have HG : Hid (Glob w) := hG
  have hcall : ∀ (A : Option Addr) (c : Nat) (w : World), Rd w A l → l.length ≤ c → c ≤ maxLen → Glob w → Calls Tryd.prog 58 #[.slice A l.length c] w (Ret3 w (.int .i64 (rdI64 l).1) (rdI64 l).2.1 (rdI64 l).2.2) := fun A c w a b d e => readI64_c A _ c l w a rfl b d e
  have hrg := rdI64_range l hr.1
  generalize rdI64 l = R at hcall hrg ⊢
  obtain ⟨x, k, r⟩ := R
  obtain ⟨x0, x1⟩ := hrg
  simp only at hcall x0 x1
  simp only []
  clear hn hG
  go_enter Tryd.func17, Tryd.ntmps17
  go_wp2_with fail
  ((with_reducible refine (clone_c _ _ _ l _ hr HN.out hle).mono ?_); rintro e w1 ⟨v, rfl, hown, hb1⟩)
  obtain ⟨A1, c1, rfl, hc1, hm1, hr1⟩ := hown.open_ hr.1
  go_wp2_with fail
  ((with_reducible refine (hcall _ _ _ hr1 hc1 hm1 (HG.out.mono hb1)).mono ?_); rintro e w2 ⟨A2, c2, rfl, hb2⟩)
  go_wp2_with fail
  ((with_reducible refine (codeOf_c _ _ ((HG.out.mono hb1).mono hb2)).mono ?_); rintro e w3 ⟨rfl, hb3⟩)
  go_wp2_with fail
  go_ret3
  exact ⟨rfl, below_step (below_step hb1 hb2) hb3⟩

end Go.Proofs.YtpmdlbbgljcloaaDoor
