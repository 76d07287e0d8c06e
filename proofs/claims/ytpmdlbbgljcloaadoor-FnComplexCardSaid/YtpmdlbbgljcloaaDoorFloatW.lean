/- How msgp writes numbers with a point (AppendFloat32, AppendFloat64 onto nil), and how it reads them where they are whole, walked. Conditions: the slice reads as bytes. -/
import Derived.Test.YtpmdlbbgljcloaaDoorPrefix
import Derived.Test.YtpmdlbbgljcloaaDoorRead
import Derived.Test.YtpmdlbbgljcloaaDoorSame
import Derived.Deep.RegionHeld3
import Derived.Lib.EndianBits
namespace Go.Proofs.YtpmdlbbgljcloaaDoor
open Go Go.RowKit Go.Lib
set_option linter.unusedVariables false

theorem f32from (m : Int) (w : World) : (callFunc 73 #[.int .u32 m]).run Tryd.prog w = .ok (.value (.float .f32 m.toNat)) w := by kernel_rfl
theorem f64from (m : Int) (w : World) : (callFunc 75 #[.int .u64 m]).run Tryd.prog w = .ok (.value (.float .f64 m.toNat)) w := by kernel_rfl
theorem f32bits (m : Nat) (w : World) : (callFunc 69 #[.float .f32 m]).run Tryd.prog w = .ok (.value (.int .u32 m)) w := by kernel_rfl
theorem f64bits (m : Nat) (w : World) : (callFunc 71 #[.float .f64 m]).run Tryd.prog w = .ok (.value (.int .u64 m)) w := by kernel_rfl
theorem or_swp (k : IntKind) (a b : Int) : bits .or k a b = bits .or k b a := by
  cases k <;> simp only [bits, BitVec.or_comm]
theorem made_full {w w' : World} {g n : Nat} {l : List Int} (hrow : RowI w' g l) (hn : l.length = n) (hm : n ≤ 1000000000000) (hg : w.heap.size ≤ g) (hb : Below w.heap.size w w') : Made w l (.returned (.slice (some ⟨g, 0, none⟩) n n)) w' :=
  ⟨_, rfl, hrow.own hg hn hm, hb⟩
theorem setsb5 (p a b c d : Int) : (((((List.replicate 5 (0 : Int)).set 0 p).set 1 a).set 2 b).set 3 c).set 4 d = [p, a, b, c, d] := rfl
theorem setsb9 (p a b c d e f g h : Int) : (((((((((List.replicate 9 (0 : Int)).set 0 p).set 1 a).set 2 b).set 3 c).set 4 d).set 5 e).set 6 f).set 7 g).set 8 h = [p, a, b, c, d, e, f, g, h] := rfl

set_option maxHeartbeats 2000000 in
set_option maxRecDepth 100000 in
theorem appFloat32_c (m : Nat) (w : World) (h1 : (m : Int) < 4294967296) : Calls Tryd.prog 78 #[.slice none 0 0, .float .f32 m] w (Made w (202 :: by4 m)) := by
  have hfb := f32bits m
  have hx0 : (0 : Int) ≤ m := by omega
  have HX := Lib.hid h1
  clear h1
  have hpre : ∀ W : World, RowI W w.heap.size (List.replicate 5 0) → Calls Tryd.prog 115 #[.slice (some ⟨w.heap.size, 0, none⟩) 5 5, .int .u8 202, .int .u32 m] W fun e w' => e = .returned (.tuple #[]) ∧ RowI w' w.heap.size (202 :: by4 m) ∧ Below w.heap.size W w' := fun W hrow => by
    refine (prefixu32_c _ _ _ _ _ (List.replicate 5 0) W hrow (by simp) (by omega) (by omega) hx0 HX.out).mono ?_
    rintro e w' ⟨he, hr, hb⟩
    refine ⟨he, ?_, hb⟩
    have e2 : (m : Int) / 16777216 % 256 = m / 16777216 := by have := HX.out; omega
    rw [setsb5] at hr
    simp only [by4]
    rw [e2]
    exact hr
  go_enter Tryd.func78, Tryd.ntmps78
  go_wp2_with (go_at_call 93; refine (ensure_k _ 5 _ (by rfl) (by omega) (by omega)).mono ?_; rintro e w1 ⟨rfl, rfl⟩)
  go_region_held3 (fun w' => True) (trivial) ((go_at_call 115; refine (hpre ((w.alloc (.cells (zer 5) 5)).drew) (row_new w 5)).mono ?_; rintro e w2 ⟨rfl, hrow, hbel⟩))
  all_goals
    go_wp2_with fail
    go_ret
    exact made_full hrow (by rfl) (by omega) (Nat.le_refl _) ((((Below.refl _ _).alloc (Nat.le_refl _) _).drew).trans hbel)

set_option maxHeartbeats 2000000 in
set_option maxRecDepth 100000 in
theorem appFloat64_c (m : Nat) (w : World) (h1 : (m : Int) < 18446744073709551616) : Calls Tryd.prog 79 #[.slice none 0 0, .float .f64 m] w (Made w (203 :: by8 m)) := by
  have hfb := f64bits m
  have hx0 : (0 : Int) ≤ m := by omega
  have HX := Lib.hid h1
  clear h1
  have hpre : ∀ W : World, RowI W w.heap.size (List.replicate 9 0) → Calls Tryd.prog 116 #[.slice (some ⟨w.heap.size, 0, none⟩) 9 9, .int .u8 203, .int .u64 m] W fun e w' => e = .returned (.tuple #[]) ∧ RowI w' w.heap.size (203 :: by8 m) ∧ Below w.heap.size W w' := fun W hrow => by
    refine (prefixu64_c _ _ _ _ _ (List.replicate 9 0) W hrow (by simp) (by omega) (by omega) hx0 HX.out).mono ?_
    rintro e w' ⟨he, hr, hb⟩
    refine ⟨he, ?_, hb⟩
    have e2 : (m : Int) / 72057594037927936 % 256 = m / 72057594037927936 := by have := HX.out; omega
    rw [setsb9] at hr
    simp only [by8]
    rw [e2]
    exact hr
  go_enter Tryd.func79, Tryd.ntmps79
  go_wp2_with (go_at_call 93; refine (ensure_k _ 9 _ (by rfl) (by omega) (by omega)).mono ?_; rintro e w1 ⟨rfl, rfl⟩)
  go_region_held3 (fun w' => True) (trivial) ((go_at_call 116; refine (hpre ((w.alloc (.cells (zer 9) 5)).drew) (row_new w 9)).mono ?_; rintro e w2 ⟨rfl, hrow, hbel⟩))
  all_goals
    go_wp2_with fail
    go_ret
    exact made_full hrow (by rfl) (by omega) (Nat.le_refl _) ((((Below.refl _ _).alloc (Nat.le_refl _) _).drew).trans hbel)

set_option maxHeartbeats 4000000 in
set_option maxRecDepth 100000 in
theorem getM32_c (g o n c : Nat) (l : List Int) (w : World) (hr : Rd w (some ⟨g, o, none⟩) l) (hn : l.length = n) (h2 : 5 ≤ n) : Calls Tryd.prog 113 #[.slice (some ⟨g, o, none⟩) n c] w fun e w' => e = .returned (.int .u32 (be4 l 1)) ∧ Below w.heap.size w w' := by
  obtain ⟨g', o', hA', hg, hc⟩ := hr.2 (by omega)
  injection hA' with hA'
  injection hA' with h1' h2'
  subst h1'; subst h2'
  have c1 := hc 1 (by omega)
  obtain ⟨p1, q1⟩ := hr.1.at_ 1
  have c2 := hc 2 (by omega)
  obtain ⟨p2, q2⟩ := hr.1.at_ 2
  have c3 := hc 3 (by omega)
  obtain ⟨p3, q3⟩ := hr.1.at_ 3
  have c4 := hc 4 (by omega)
  obtain ⟨p4, q4⟩ := hr.1.at_ 4
  have hbe : Hid (be4 l 1 = at_ l 1 * 16777216 + at_ l 2 * 65536 + at_ l 3 * 256 + at_ l 4) := by show _ = _; simp only [be4, be2, Nat.reduceAdd] <;> omega
  rw [hbe.out]
  clear hc hr hn hbe
  generalize at_ l 1 = x1 at *
  generalize at_ l 2 = x2 at *
  generalize at_ l 3 = x3 at *
  generalize at_ l 4 = x4 at *
  have s1 : IntKind.u32.wrap (x1 * 16777216) = x1 * 16777216 := u32_wrap_id _ (by omega) (by omega)
  have s2 : IntKind.u32.wrap (x2 * 65536) = x2 * 65536 := u32_wrap_id _ (by omega) (by omega)
  have e2 : bits .or .u32 (x1 * 16777216) (x2 * 65536) = x1 * 16777216 + x2 * 65536 := by rw [or_swp, u32_or24 _ _ (by omega) (by omega) (by omega) (by omega) (by omega)]; omega
  have s3 : IntKind.u32.wrap (x3 * 256) = x3 * 256 := u32_wrap_id _ (by omega) (by omega)
  have e3 : bits .or .u32 (x1 * 16777216 + x2 * 65536) (x3 * 256) = x1 * 16777216 + x2 * 65536 + x3 * 256 := by rw [or_swp, u32_or16 _ _ (by omega) (by omega) (by omega) (by omega) (by omega)]; omega
  have e4 : bits .or .u32 (x1 * 16777216 + x2 * 65536 + x3 * 256) (x4) = x1 * 16777216 + x2 * 65536 + x3 * 256 + x4 := by rw [or_swp, u32_or8 _ _ (by omega) (by omega) (by omega) (by omega) (by omega)]; omega
  have b1 : (1 : Int) < (n : Int) := by omega
  have b2 : (2 : Int) < (n : Int) := by omega
  have b3 : (3 : Int) < (n : Int) := by omega
  have b4 : (4 : Int) < (n : Int) := by omega
  go_enter Tryd.func113, Tryd.ntmps113
  go_wp2
  go_quiet (fail)
  go_wp2
  go_ret
  exact ⟨rfl, below_drewN (Below.refl _ _) _⟩

set_option maxHeartbeats 4000000 in
set_option maxRecDepth 100000 in
theorem getM64_c (g o n c : Nat) (l : List Int) (w : World) (hr : Rd w (some ⟨g, o, none⟩) l) (hn : l.length = n) (h2 : 9 ≤ n) : Calls Tryd.prog 114 #[.slice (some ⟨g, o, none⟩) n c] w fun e w' => e = .returned (.int .u64 (be8 l 1)) ∧ Below w.heap.size w w' := by
  obtain ⟨g', o', hA', hg, hc⟩ := hr.2 (by omega)
  injection hA' with hA'
  injection hA' with h1' h2'
  subst h1'; subst h2'
  have c1 := hc 1 (by omega)
  obtain ⟨p1, q1⟩ := hr.1.at_ 1
  have c2 := hc 2 (by omega)
  obtain ⟨p2, q2⟩ := hr.1.at_ 2
  have c3 := hc 3 (by omega)
  obtain ⟨p3, q3⟩ := hr.1.at_ 3
  have c4 := hc 4 (by omega)
  obtain ⟨p4, q4⟩ := hr.1.at_ 4
  have c5 := hc 5 (by omega)
  obtain ⟨p5, q5⟩ := hr.1.at_ 5
  have c6 := hc 6 (by omega)
  obtain ⟨p6, q6⟩ := hr.1.at_ 6
  have c7 := hc 7 (by omega)
  obtain ⟨p7, q7⟩ := hr.1.at_ 7
  have c8 := hc 8 (by omega)
  obtain ⟨p8, q8⟩ := hr.1.at_ 8
  have hbe : Hid (be8 l 1 = at_ l 1 * 72057594037927936 + at_ l 2 * 281474976710656 + at_ l 3 * 1099511627776 + at_ l 4 * 4294967296 + at_ l 5 * 16777216 + at_ l 6 * 65536 + at_ l 7 * 256 + at_ l 8) := by show _ = _; simp only [be8, be4, be2, Nat.reduceAdd] <;> omega
  rw [hbe.out]
  clear hc hr hn hbe
  generalize at_ l 1 = x1 at *
  generalize at_ l 2 = x2 at *
  generalize at_ l 3 = x3 at *
  generalize at_ l 4 = x4 at *
  generalize at_ l 5 = x5 at *
  generalize at_ l 6 = x6 at *
  generalize at_ l 7 = x7 at *
  generalize at_ l 8 = x8 at *
  have s1 : IntKind.u64.wrap (x1 * 72057594037927936) = x1 * 72057594037927936 := u64_wrap_id _ (by omega) (by omega)
  have s2 : IntKind.u64.wrap (x2 * 281474976710656) = x2 * 281474976710656 := u64_wrap_id _ (by omega) (by omega)
  have e2 : bits .or .u64 (x1 * 72057594037927936) (x2 * 281474976710656) = x1 * 72057594037927936 + x2 * 281474976710656 := by rw [or_swp, u64_or56 _ _ (by omega) (by omega) (by omega) (by omega) (by omega)]; omega
  have s3 : IntKind.u64.wrap (x3 * 1099511627776) = x3 * 1099511627776 := u64_wrap_id _ (by omega) (by omega)
  have e3 : bits .or .u64 (x1 * 72057594037927936 + x2 * 281474976710656) (x3 * 1099511627776) = x1 * 72057594037927936 + x2 * 281474976710656 + x3 * 1099511627776 := by rw [or_swp, u64_or48 _ _ (by omega) (by omega) (by omega) (by omega) (by omega)]; omega
  have s4 : IntKind.u64.wrap (x4 * 4294967296) = x4 * 4294967296 := u64_wrap_id _ (by omega) (by omega)
  have e4 : bits .or .u64 (x1 * 72057594037927936 + x2 * 281474976710656 + x3 * 1099511627776) (x4 * 4294967296) = x1 * 72057594037927936 + x2 * 281474976710656 + x3 * 1099511627776 + x4 * 4294967296 := by rw [or_swp, u64_or40 _ _ (by omega) (by omega) (by omega) (by omega) (by omega)]; omega
  have s5 : IntKind.u64.wrap (x5 * 16777216) = x5 * 16777216 := u64_wrap_id _ (by omega) (by omega)
  have e5 : bits .or .u64 (x1 * 72057594037927936 + x2 * 281474976710656 + x3 * 1099511627776 + x4 * 4294967296) (x5 * 16777216) = x1 * 72057594037927936 + x2 * 281474976710656 + x3 * 1099511627776 + x4 * 4294967296 + x5 * 16777216 := by rw [or_swp, u64_or32 _ _ (by omega) (by omega) (by omega) (by omega) (by omega)]; omega
  have s6 : IntKind.u64.wrap (x6 * 65536) = x6 * 65536 := u64_wrap_id _ (by omega) (by omega)
  have e6 : bits .or .u64 (x1 * 72057594037927936 + x2 * 281474976710656 + x3 * 1099511627776 + x4 * 4294967296 + x5 * 16777216) (x6 * 65536) = x1 * 72057594037927936 + x2 * 281474976710656 + x3 * 1099511627776 + x4 * 4294967296 + x5 * 16777216 + x6 * 65536 := by rw [or_swp, u64_or24 _ _ (by omega) (by omega) (by omega) (by omega) (by omega)]; omega
  have s7 : IntKind.u64.wrap (x7 * 256) = x7 * 256 := u64_wrap_id _ (by omega) (by omega)
  have e7 : bits .or .u64 (x1 * 72057594037927936 + x2 * 281474976710656 + x3 * 1099511627776 + x4 * 4294967296 + x5 * 16777216 + x6 * 65536) (x7 * 256) = x1 * 72057594037927936 + x2 * 281474976710656 + x3 * 1099511627776 + x4 * 4294967296 + x5 * 16777216 + x6 * 65536 + x7 * 256 := by rw [or_swp, u64_or16 _ _ (by omega) (by omega) (by omega) (by omega) (by omega)]; omega
  have e8 : bits .or .u64 (x1 * 72057594037927936 + x2 * 281474976710656 + x3 * 1099511627776 + x4 * 4294967296 + x5 * 16777216 + x6 * 65536 + x7 * 256) (x8) = x1 * 72057594037927936 + x2 * 281474976710656 + x3 * 1099511627776 + x4 * 4294967296 + x5 * 16777216 + x6 * 65536 + x7 * 256 + x8 := by rw [or_swp, u64_or8 _ _ (by omega) (by omega) (by omega) (by omega) (by omega)]; omega
  have b1 : (1 : Int) < (n : Int) := by omega
  have b2 : (2 : Int) < (n : Int) := by omega
  have b3 : (3 : Int) < (n : Int) := by omega
  have b4 : (4 : Int) < (n : Int) := by omega
  have b5 : (5 : Int) < (n : Int) := by omega
  have b6 : (6 : Int) < (n : Int) := by omega
  have b7 : (7 : Int) < (n : Int) := by omega
  have b8 : (8 : Int) < (n : Int) := by omega
  go_enter Tryd.func114, Tryd.ntmps114
  go_wp2
  go_quiet (fail)
  go_wp2
  go_ret
  exact ⟨rfl, below_drewN (Below.refl _ _) _⟩

end Go.Proofs.YtpmdlbbgljcloaaDoor
