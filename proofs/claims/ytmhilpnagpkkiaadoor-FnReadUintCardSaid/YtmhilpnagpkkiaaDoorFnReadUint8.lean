/- The law FnReadUint, walked: a number without a sign is read just if the bytes begin with one that has room. Conditions: the slice reads as bytes; the two sentinels' variables hold what the program lays in them. -/
import Derived.Test.YtmhilpnagpkkiaaDoorImplU
import Derived.Test.YtmhilpnagpkkiaaDoorIntPlain
import Derived.Test.YtmhilpnagpkkiaaDoorHead
import Derived.Lib.EndianBits
namespace Go.Proofs.YtmhilpnagpkkiaaDoor
open Go Go.RowKit Go.Lib
set_option linter.unusedVariables false

set_option maxHeartbeats 4000000 in
set_option maxRecDepth 100000 in
theorem fnReadUint8_c (A : Option Addr) (n c : Nat) (l : List Int) (w : World) (hr : Rd w A l) (hn : l.length = n) (hnc : n ≤ c) (hm : c ≤ maxLen) (h3 : n ≤ 131072) (hG : Glob w) :
    Calls Tryd.prog 11 #[.slice A n c, .int .i64 8] w fun e w' => e = .returned (.bool true) ∧ Below w.heap.size w w' := by
  have HG : Hid (Glob w) := hG
  have hp := plainU l hr.1
  rw [hn] at hp
  have hhead := headOf_c A n c l w hr hn hnc hm
  have hcall : ∀ W : World, Rd W A l → Glob W → Calls Tryd.prog 26 #[.slice A n c, .int .i64 8] W fun e w' => e = .returned (.tuple #[.int .u64 (rdU8 l).1, .int .i64 (rdU8 l).2.1, .int .i64 (rdU8 l).2.2.code]) ∧ Below W.heap.size W w' := fun W hr' hG' => implU8_c A n c l W hr' hn (by omega) hG'
  have hcn := fun w1 : World => hcells_new w1 (headOf l)
  generalize headOf l = H at hp hhead hcn
  clear hn hm hG
  obtain ⟨k, x, len, t, s, sh⟩ := H
  simp only at hcn
  simp only [PlainU, RightI] at hp
  rcases hp with ⟨p1, p2, r, p3, q1, q2, q3⟩ | ⟨p1, p2, p3⟩ | ⟨p1, p2, p3, p4, r, p5, p6⟩ | ⟨p1, p2, p3, p4, p5, k2, p6, p7, p8⟩
  · rw [narrowU8 l p3, if_neg (by omega)] at hcall
    simp only at hcall
    have e3 : (k == 3) = false := by simpa using p1
    have e4 : (k == 4) = false := by simpa using p2
    have f3 : (k != 3) = true := by simpa using p1
    have f4 : (k != 4) = true := by simpa using p2
    clear p3
    generalize r.code = q at *
    have e0 : (q == 0) = false := by simpa using q1
    have f0 : (q != 0) = true := by simpa using q1
    by_cases z0 : n = 0
    · subst z0
      obtain rfl : q = 1 := by omega
      go_enter Tryd.func11, Tryd.ntmps11
      go_wp2_with fail
      ((with_reducible refine hhead.mono ?_); rintro e w1 ⟨rfl, hb1⟩)
      have hH := hcn w1
      go_wp2_with fail
      ((with_reducible refine (hcall _ ((hr.mono hb1).alloc _) ((HG.out.mono hb1).alloc _)).mono ?_); rintro e w2 ⟨rfl, hb2⟩)
      obtain ⟨d0, d1, d2, d3, d4, d5⟩ := hH.mono hb2
      go_wp2_with fail
      go_ret
      exact ⟨by first | rfl | (simp [*]; done) | (simp; omega), below_via hb1 hb2⟩
    have z1 : 0 < n := by omega
    by_cases z2 : n < 16
    · go_enter Tryd.func11, Tryd.ntmps11
      go_wp2_with fail
      ((with_reducible refine hhead.mono ?_); rintro e w1 ⟨rfl, hb1⟩)
      have hH := hcn w1
      go_wp2_with fail
      ((with_reducible refine (hcall _ ((hr.mono hb1).alloc _) ((HG.out.mono hb1).alloc _)).mono ?_); rintro e w2 ⟨rfl, hb2⟩)
      obtain ⟨d0, d1, d2, d3, d4, d5⟩ := hH.mono hb2
      go_wp2_with fail
      go_ret
      exact ⟨by first | rfl | (simp [*]; done) | (simp; omega), below_via hb1 hb2⟩
    by_cases z3 : k = 0
    · subst z3
      go_enter Tryd.func11, Tryd.ntmps11
      go_wp2_with fail
      ((with_reducible refine hhead.mono ?_); rintro e w1 ⟨rfl, hb1⟩)
      have hH := hcn w1
      go_wp2_with fail
      ((with_reducible refine (hcall _ ((hr.mono hb1).alloc _) ((HG.out.mono hb1).alloc _)).mono ?_); rintro e w2 ⟨rfl, hb2⟩)
      obtain ⟨d0, d1, d2, d3, d4, d5⟩ := hH.mono hb2
      go_wp2_with fail
      go_ret
      exact ⟨by first | rfl | (simp [*]; done) | (simp; omega), below_via hb1 hb2⟩
    · obtain rfl : q = 2 := by omega
      have e00 : (k == 0) = false := by simpa using z3
      go_enter Tryd.func11, Tryd.ntmps11
      go_wp2_with fail
      ((with_reducible refine hhead.mono ?_); rintro e w1 ⟨rfl, hb1⟩)
      have hH := hcn w1
      go_wp2_with fail
      ((with_reducible refine (hcall _ ((hr.mono hb1).alloc _) ((HG.out.mono hb1).alloc _)).mono ?_); rintro e w2 ⟨rfl, hb2⟩)
      obtain ⟨d0, d1, d2, d3, d4, d5⟩ := hH.mono hb2
      go_wp2_with fail
      go_ret
      exact ⟨by first | rfl | (simp [*]; done) | (simp; omega), below_via hb1 hb2⟩
  · rw [narrowU8 l p3, if_neg (by omega)] at hcall
    simp only [Er.code] at hcall
    subst p2
    rcases p1 with rfl | rfl
    · go_enter Tryd.func11, Tryd.ntmps11
      go_wp2_with fail
      ((with_reducible refine hhead.mono ?_); rintro e w1 ⟨rfl, hb1⟩)
      have hH := hcn w1
      go_wp2_with fail
      ((with_reducible refine (hcall _ ((hr.mono hb1).alloc _) ((HG.out.mono hb1).alloc _)).mono ?_); rintro e w2 ⟨rfl, hb2⟩)
      obtain ⟨d0, d1, d2, d3, d4, d5⟩ := hH.mono hb2
      go_wp2_with fail
      go_ret
      exact ⟨by first | rfl | (simp [*]; done) | (simp; omega), below_via hb1 hb2⟩
    · go_enter Tryd.func11, Tryd.ntmps11
      go_wp2_with fail
      ((with_reducible refine hhead.mono ?_); rintro e w1 ⟨rfl, hb1⟩)
      have hH := hcn w1
      go_wp2_with fail
      ((with_reducible refine (hcall _ ((hr.mono hb1).alloc _) ((HG.out.mono hb1).alloc _)).mono ?_); rintro e w2 ⟨rfl, hb2⟩)
      obtain ⟨d0, d1, d2, d3, d4, d5⟩ := hH.mono hb2
      go_wp2_with fail
      go_ret
      exact ⟨by first | rfl | (simp [*]; done) | (simp; omega), below_via hb1 hb2⟩
  · rw [narrowU8 l p5, if_neg (by omega)] at hcall
    simp only [p6] at hcall
    subst p1 p2
    have hx : IntKind.i64.wrap x = x - 18446744073709551616 := by rw [← show s64 x = IntKind.i64.wrap x from rfl, s64_eq (by omega) p4, if_neg (by omega)]
    have hx0 : x - 18446744073709551616 < 0 := by omega
    have hx1 : -9223372036854775808 ≤ x - 18446744073709551616 := by omega
    generalize x - 18446744073709551616 = m at *
    go_enter Tryd.func11, Tryd.ntmps11
    go_wp2_with fail
    ((with_reducible refine hhead.mono ?_); rintro e w1 ⟨rfl, hb1⟩)
    have hH := hcn w1
    go_wp2_with fail
    ((with_reducible refine (hcall _ ((hr.mono hb1).alloc _) ((HG.out.mono hb1).alloc _)).mono ?_); rintro e w2 ⟨rfl, hb2⟩)
    obtain ⟨d0, d1, d2, d3, d4, d5⟩ := hH.mono hb2
    go_wp2_with fail
    go_ret
    exact ⟨by first | rfl | (simp [*]; done) | (simp; omega), below_via hb1 hb2⟩
  · subst p2
    have hwr : wrap64 ((n : Int) - s) = (k2 : Int) := by unfold wrap64; omega
    by_cases y : 255 < x
    · rw [narrowU8 l p6, if_pos y] at hcall
      simp only [Er.code] at hcall
      have hsh : (x / 256 == 0) = false := by simp; omega
      have hsg : (x / 256 != 0) = true := by simp; omega
      rcases p1 with rfl | rfl
      · have y3 := p3 rfl
        go_enter Tryd.func11, Tryd.ntmps11
        go_wp2_with fail
        ((with_reducible refine hhead.mono ?_); rintro e w1 ⟨rfl, hb1⟩)
        have hH := hcn w1
        go_wp2_with fail
        ((with_reducible refine (hcall _ ((hr.mono hb1).alloc _) ((HG.out.mono hb1).alloc _)).mono ?_); rintro e w2 ⟨rfl, hb2⟩)
        obtain ⟨d0, d1, d2, d3, d4, d5⟩ := hH.mono hb2
        go_wp2_with fail
        go_ret
        exact ⟨by first | rfl | (simp [*]; done) | (simp; omega), below_via hb1 hb2⟩
      · go_enter Tryd.func11, Tryd.ntmps11
        go_wp2_with fail
        ((with_reducible refine hhead.mono ?_); rintro e w1 ⟨rfl, hb1⟩)
        have hH := hcn w1
        go_wp2_with fail
        ((with_reducible refine (hcall _ ((hr.mono hb1).alloc _) ((HG.out.mono hb1).alloc _)).mono ?_); rintro e w2 ⟨rfl, hb2⟩)
        obtain ⟨d0, d1, d2, d3, d4, d5⟩ := hH.mono hb2
        go_wp2_with fail
        go_ret
        exact ⟨by first | rfl | (simp [*]; done) | (simp; omega), below_via hb1 hb2⟩
    · rw [narrowU8 l p6, if_neg y] at hcall
      simp only [Er.code] at hcall
      have hsh : x / 256 = 0 := by omega
      rcases p1 with rfl | rfl
      · have y3 := p3 rfl
        go_enter Tryd.func11, Tryd.ntmps11
        go_wp2_with fail
        ((with_reducible refine hhead.mono ?_); rintro e w1 ⟨rfl, hb1⟩)
        have hH := hcn w1
        go_wp2_with fail
        ((with_reducible refine (hcall _ ((hr.mono hb1).alloc _) ((HG.out.mono hb1).alloc _)).mono ?_); rintro e w2 ⟨rfl, hb2⟩)
        obtain ⟨d0, d1, d2, d3, d4, d5⟩ := hH.mono hb2
        go_wp2_with fail
        go_ret
        exact ⟨by first | rfl | (simp [*]; done) | (simp; omega), below_via hb1 hb2⟩
      · go_enter Tryd.func11, Tryd.ntmps11
        go_wp2_with fail
        ((with_reducible refine hhead.mono ?_); rintro e w1 ⟨rfl, hb1⟩)
        have hH := hcn w1
        go_wp2_with fail
        ((with_reducible refine (hcall _ ((hr.mono hb1).alloc _) ((HG.out.mono hb1).alloc _)).mono ?_); rintro e w2 ⟨rfl, hb2⟩)
        obtain ⟨d0, d1, d2, d3, d4, d5⟩ := hH.mono hb2
        go_wp2_with fail
        go_ret
        exact ⟨by first | rfl | (simp [*]; done) | (simp; omega), below_via hb1 hb2⟩

end Go.Proofs.YtmhilpnagpkkiaaDoor
