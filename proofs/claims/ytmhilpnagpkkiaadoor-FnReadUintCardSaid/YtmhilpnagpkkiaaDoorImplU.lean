/- The thin package's ReadUint at 8, 16, 32 and 64 bits, walked. Conditions: the slice reads as bytes; the two sentinels' variables hold what the program lays in them. -/
import Derived.Test.YtmhilpnagpkkiaaDoorReadU64
namespace Go.Proofs.YtmhilpnagpkkiaaDoor
open Go Go.RowKit Go.Lib
set_option linter.unusedVariables false

theorem rdU8_range (l : List Int) (hb : Byts l) : 0 ≤ (rdU8 l).1 ∧ (rdU8 l).1 ≤ 255 := by
  have h := rdU64_range l hb
  unfold InRU at h
  unfold rdU8
  split
  · exact ⟨show (0 : Int) ≤ 0 by decide, show (0 : Int) ≤ 255 by decide⟩
  · omega

set_option maxHeartbeats 1000000 in
set_option maxRecDepth 100000 in
theorem implU8_c (A : Option Addr) (n c : Nat) (l : List Int) (w : World) (hr : Rd w A l) (hn : l.length = n) (hle : n ≤ 1000000000000) (hG : Glob w) :
    Calls Tryd.prog 26 #[.slice A n c, .int .i64 8] w fun e w' => e = .returned (.tuple #[.int .u64 (rdU8 l).1, .int .i64 (rdU8 l).2.1, .int .i64 (rdU8 l).2.2.code]) ∧ Below w.heap.size w w' := by
  have HN : Hid (l.length = n) := hn
  have HG : Hid (Glob w) := hG
  have hcall : ∀ (A : Option Addr) (c : Nat) (w : World), Rd w A l → l.length ≤ c → c ≤ maxLen → Glob w → Calls Tryd.prog 43 #[.slice A l.length c] w (Ret3 w (.int .u8 (rdU8 l).1) (rdU8 l).2.1 (rdU8 l).2.2) := fun A c w a b d e => readU8_c A _ c l w a rfl b d e
  have hrg := rdU8_range l hr.1
  generalize rdU8 l = R at hcall hrg ⊢
  obtain ⟨x, k, r⟩ := R
  obtain ⟨x0, x1⟩ := hrg
  simp only at hcall x0 x1
  simp only []
  clear hn hG
  go_enter Tryd.func26, Tryd.ntmps26
  go_wp2_with fail
  ((with_reducible refine (clone_c _ _ _ l _ hr HN.out hle).mono ?_); rintro e w1 ⟨v, rfl, hown, hb1⟩)
  obtain ⟨A1, c1, rfl, hc1, hm1, hr1⟩ := hown.open_ hr.1
  go_wp2_with fail
  ((with_reducible refine (hcall _ _ _ hr1 hc1 hm1 (HG.out.mono hb1)).mono ?_); rintro e w2 ⟨A2, c2, rfl, hb2⟩)
  go_wp2_with fail
  ((with_reducible refine (codeOf_c _ _ ((HG.out.mono hb1).mono hb2)).mono ?_); rintro e w3 ⟨rfl, hb3⟩)
  go_wp2_with fail
  go_ret3
  exact ⟨rfl, below_step (below_step hb1 hb2) hb3⟩

theorem rdU16_range (l : List Int) (hb : Byts l) : 0 ≤ (rdU16 l).1 ∧ (rdU16 l).1 ≤ 65535 := by
  have h := rdU64_range l hb
  unfold InRU at h
  unfold rdU16
  split
  · exact ⟨show (0 : Int) ≤ 0 by decide, show (0 : Int) ≤ 65535 by decide⟩
  · omega

set_option maxHeartbeats 1000000 in
set_option maxRecDepth 100000 in
theorem implU16_c (A : Option Addr) (n c : Nat) (l : List Int) (w : World) (hr : Rd w A l) (hn : l.length = n) (hle : n ≤ 1000000000000) (hG : Glob w) :
    Calls Tryd.prog 26 #[.slice A n c, .int .i64 16] w fun e w' => e = .returned (.tuple #[.int .u64 (rdU16 l).1, .int .i64 (rdU16 l).2.1, .int .i64 (rdU16 l).2.2.code]) ∧ Below w.heap.size w w' := by
  have HN : Hid (l.length = n) := hn
  have HG : Hid (Glob w) := hG
  have hcall : ∀ (A : Option Addr) (c : Nat) (w : World), Rd w A l → l.length ≤ c → c ≤ maxLen → Glob w → Calls Tryd.prog 44 #[.slice A l.length c] w (Ret3 w (.int .u16 (rdU16 l).1) (rdU16 l).2.1 (rdU16 l).2.2) := fun A c w a b d e => readU16_c A _ c l w a rfl b d e
  have hrg := rdU16_range l hr.1
  generalize rdU16 l = R at hcall hrg ⊢
  obtain ⟨x, k, r⟩ := R
  obtain ⟨x0, x1⟩ := hrg
  simp only at hcall x0 x1
  simp only []
  clear hn hG
  go_enter Tryd.func26, Tryd.ntmps26
  go_wp2_with fail
  ((with_reducible refine (clone_c _ _ _ l _ hr HN.out hle).mono ?_); rintro e w1 ⟨v, rfl, hown, hb1⟩)
  obtain ⟨A1, c1, rfl, hc1, hm1, hr1⟩ := hown.open_ hr.1
  go_wp2_with fail
  ((with_reducible refine (hcall _ _ _ hr1 hc1 hm1 (HG.out.mono hb1)).mono ?_); rintro e w2 ⟨A2, c2, rfl, hb2⟩)
  go_wp2_with fail
  ((with_reducible refine (codeOf_c _ _ ((HG.out.mono hb1).mono hb2)).mono ?_); rintro e w3 ⟨rfl, hb3⟩)
  go_wp2_with fail
  go_ret3
  exact ⟨rfl, below_step (below_step hb1 hb2) hb3⟩

theorem rdU32_range (l : List Int) (hb : Byts l) : 0 ≤ (rdU32 l).1 ∧ (rdU32 l).1 ≤ 4294967295 := by
  have h := rdU64_range l hb
  unfold InRU at h
  unfold rdU32
  split
  · exact ⟨show (0 : Int) ≤ 0 by decide, show (0 : Int) ≤ 4294967295 by decide⟩
  · omega

set_option maxHeartbeats 1000000 in
set_option maxRecDepth 100000 in
theorem implU32_c (A : Option Addr) (n c : Nat) (l : List Int) (w : World) (hr : Rd w A l) (hn : l.length = n) (hle : n ≤ 1000000000000) (hG : Glob w) :
    Calls Tryd.prog 26 #[.slice A n c, .int .i64 32] w fun e w' => e = .returned (.tuple #[.int .u64 (rdU32 l).1, .int .i64 (rdU32 l).2.1, .int .i64 (rdU32 l).2.2.code]) ∧ Below w.heap.size w w' := by
  have HN : Hid (l.length = n) := hn
  have HG : Hid (Glob w) := hG
  have hcall : ∀ (A : Option Addr) (c : Nat) (w : World), Rd w A l → l.length ≤ c → c ≤ maxLen → Glob w → Calls Tryd.prog 45 #[.slice A l.length c] w (Ret3 w (.int .u32 (rdU32 l).1) (rdU32 l).2.1 (rdU32 l).2.2) := fun A c w a b d e => readU32_c A _ c l w a rfl b d e
  have hrg := rdU32_range l hr.1
  generalize rdU32 l = R at hcall hrg ⊢
  obtain ⟨x, k, r⟩ := R
  obtain ⟨x0, x1⟩ := hrg
  simp only at hcall x0 x1
  simp only []
  clear hn hG
  go_enter Tryd.func26, Tryd.ntmps26
  go_wp2_with fail
  ((with_reducible refine (clone_c _ _ _ l _ hr HN.out hle).mono ?_); rintro e w1 ⟨v, rfl, hown, hb1⟩)
  obtain ⟨A1, c1, rfl, hc1, hm1, hr1⟩ := hown.open_ hr.1
  go_wp2_with fail
  ((with_reducible refine (hcall _ _ _ hr1 hc1 hm1 (HG.out.mono hb1)).mono ?_); rintro e w2 ⟨A2, c2, rfl, hb2⟩)
  go_wp2_with fail
  ((with_reducible refine (codeOf_c _ _ ((HG.out.mono hb1).mono hb2)).mono ?_); rintro e w3 ⟨rfl, hb3⟩)
  go_wp2_with fail
  go_ret3
  exact ⟨rfl, below_step (below_step hb1 hb2) hb3⟩

set_option maxHeartbeats 1000000 in
set_option maxRecDepth 100000 in
theorem implU64_c (A : Option Addr) (n c : Nat) (l : List Int) (w : World) (hr : Rd w A l) (hn : l.length = n) (hle : n ≤ 1000000000000) (hG : Glob w) :
    Calls Tryd.prog 26 #[.slice A n c, .int .i64 64] w fun e w' => e = .returned (.tuple #[.int .u64 (rdU64 l).1, .int .i64 (rdU64 l).2.1, .int .i64 (rdU64 l).2.2.code]) ∧ Below w.heap.size w w' := by
  have HN : Hid (l.length = n) := hn
  have HG : Hid (Glob w) := hG
  have hcall : ∀ (A : Option Addr) (c : Nat) (w : World), Rd w A l → l.length ≤ c → c ≤ maxLen → Glob w → Calls Tryd.prog 46 #[.slice A l.length c] w (Ret3 w (.int .u64 (rdU64 l).1) (rdU64 l).2.1 (rdU64 l).2.2) := fun A c w a b d e => readU64_c A _ c l w a rfl b d e
  have hrg := rdU64_range l hr.1
  generalize rdU64 l = R at hcall hrg ⊢
  obtain ⟨x, k, r⟩ := R
  obtain ⟨x0, x1⟩ := hrg
  simp only at hcall x0 x1
  simp only []
  clear hn hG
  go_enter Tryd.func26, Tryd.ntmps26
  go_wp2_with fail
  ((with_reducible refine (clone_c _ _ _ l _ hr HN.out hle).mono ?_); rintro e w1 ⟨v, rfl, hown, hb1⟩)
  obtain ⟨A1, c1, rfl, hc1, hm1, hr1⟩ := hown.open_ hr.1
  go_wp2_with fail
  ((with_reducible refine (hcall _ _ _ hr1 hc1 hm1 (HG.out.mono hb1)).mono ?_); rintro e w2 ⟨A2, c2, rfl, hb2⟩)
  go_wp2_with fail
  ((with_reducible refine (codeOf_c _ _ ((HG.out.mono hb1).mono hb2)).mono ?_); rintro e w3 ⟨rfl, hb3⟩)
  go_wp2_with fail
  go_ret3
  exact ⟨rfl, below_step (below_step hb1 hb2) hb3⟩

end Go.Proofs.YtmhilpnagpkkiaaDoor
