/- Go's binary.BigEndian.Uint16, Uint32 and Uint64, walked: the bytes as one number, the highest first. Conditions: as many bytes are there. -/
import Derived.Test.YtpmdlbbgljcloaaDoorPure
import Derived.Lib.EndianBits
namespace Go.Proofs.YtpmdlbbgljcloaaDoor
open Go Go.RowKit Go.Lib

theorem or_swap (k : IntKind) (a b : Int) : bits .or k a b = bits .or k b a := by
  cases k <;> simp only [bits, BitVec.or_comm]

set_option maxHeartbeats 4000000 in
set_option maxRecDepth 100000 in
theorem u16_c (g o n c : Nat) (l : List Int) (w : World) (hr : Rd w (some ⟨g, o, none⟩) l) (hn : l.length = n) (h2 : 2 ≤ n) : Calls Tryd.prog 105 #[.agg #[], .slice (some ⟨g, o, none⟩) n c] w fun e w' => e = .returned (.int .u16 (be2 l 0)) ∧ Below w.heap.size w w' := by
  obtain ⟨g', o', hA', hg, hc⟩ := hr.2 (by omega)
  injection hA' with hA'
  injection hA' with h1' h2'
  subst h1'; subst h2'
  have c0 := hc 0 (by omega)
  have c1 := hc 1 (by omega)
  rw [Nat.add_zero] at c0
  obtain ⟨p0, q0⟩ := hr.1.at_ 0
  obtain ⟨p1, q1⟩ := hr.1.at_ 1
  have hbe : Hid (be2 l 0 = at_ l 0 * 256 + at_ l 1) := by show _ = _; simp only [be2, Nat.reduceAdd] <;> omega
  rw [hbe.out]
  clear hc hr hn hbe
  generalize at_ l 0 = x0 at *
  generalize at_ l 1 = x1 at *
  have s1 : IntKind.u16.wrap (x0 * 256) = x0 * 256 := u16_wrap_id _ (by omega) (by omega)
  have e1 : bits .or .u16 x1 (x0 * 256) = x0 * 256 + x1 := by rw [u16_or8 _ _ (by omega) (by omega) (by omega) (by omega) (by omega)]; omega
  have hA : ∀ (W : World) (o' : Obj) (j : Nat), g < W.heap.size → (W.alloc o').cell? ⟨g, j, none⟩ = W.cell? ⟨g, j, none⟩ := fun W o' j h => World.cell?_alloc_lt W o' ⟨g, j, none⟩ h
  have b0 : 0 < n := by omega
  have b1 : (1 : Int) < (n : Int) := by omega
  go_enter Tryd.func105, Tryd.ntmps105
  go_wp2
  go_quiet (fail)
  go_wp2
  go_ret
  exact ⟨rfl, below_drewN ((Below.refl _ _).alloc (Nat.le_refl _) _) _⟩

set_option maxHeartbeats 4000000 in
set_option maxRecDepth 100000 in
theorem u32_c (g o n c : Nat) (l : List Int) (w : World) (hr : Rd w (some ⟨g, o, none⟩) l) (hn : l.length = n) (h2 : 4 ≤ n) : Calls Tryd.prog 106 #[.agg #[], .slice (some ⟨g, o, none⟩) n c] w fun e w' => e = .returned (.int .u32 (be4 l 0)) ∧ Below w.heap.size w w' := by
  obtain ⟨g', o', hA', hg, hc⟩ := hr.2 (by omega)
  injection hA' with hA'
  injection hA' with h1' h2'
  subst h1'; subst h2'
  have c0 := hc 0 (by omega)
  have c1 := hc 1 (by omega)
  have c2 := hc 2 (by omega)
  have c3 := hc 3 (by omega)
  rw [Nat.add_zero] at c0
  obtain ⟨p0, q0⟩ := hr.1.at_ 0
  obtain ⟨p1, q1⟩ := hr.1.at_ 1
  obtain ⟨p2, q2⟩ := hr.1.at_ 2
  obtain ⟨p3, q3⟩ := hr.1.at_ 3
  have hbe : Hid (be4 l 0 = at_ l 0 * 16777216 + at_ l 1 * 65536 + at_ l 2 * 256 + at_ l 3) := by show _ = _; simp only [be4, be2, Nat.reduceAdd] <;> omega
  rw [hbe.out]
  clear hc hr hn hbe
  generalize at_ l 0 = x0 at *
  generalize at_ l 1 = x1 at *
  generalize at_ l 2 = x2 at *
  generalize at_ l 3 = x3 at *
  have s1 : IntKind.u32.wrap (x2 * 256) = x2 * 256 := u32_wrap_id _ (by omega) (by omega)
  have e1 : bits .or .u32 x3 (x2 * 256) = x2 * 256 + x3 := by rw [u32_or8 _ _ (by omega) (by omega) (by omega) (by omega) (by omega)]; omega
  have s2 : IntKind.u32.wrap (x1 * 65536) = x1 * 65536 := u32_wrap_id _ (by omega) (by omega)
  have e2 : bits .or .u32 (x2 * 256 + x3) (x1 * 65536) = x1 * 65536 + x2 * 256 + x3 := by rw [u32_or16 _ _ (by omega) (by omega) (by omega) (by omega) (by omega)]; omega
  have s3 : IntKind.u32.wrap (x0 * 16777216) = x0 * 16777216 := u32_wrap_id _ (by omega) (by omega)
  have e3 : bits .or .u32 (x1 * 65536 + x2 * 256 + x3) (x0 * 16777216) = x0 * 16777216 + x1 * 65536 + x2 * 256 + x3 := by rw [u32_or24 _ _ (by omega) (by omega) (by omega) (by omega) (by omega)]; omega
  have hA : ∀ (W : World) (o' : Obj) (j : Nat), g < W.heap.size → (W.alloc o').cell? ⟨g, j, none⟩ = W.cell? ⟨g, j, none⟩ := fun W o' j h => World.cell?_alloc_lt W o' ⟨g, j, none⟩ h
  have b0 : 0 < n := by omega
  have b1 : (1 : Int) < (n : Int) := by omega
  have b2 : (2 : Int) < (n : Int) := by omega
  have b3 : (3 : Int) < (n : Int) := by omega
  go_enter Tryd.func106, Tryd.ntmps106
  go_wp2
  go_quiet (fail)
  go_wp2
  go_ret
  exact ⟨rfl, below_drewN ((Below.refl _ _).alloc (Nat.le_refl _) _) _⟩

set_option maxHeartbeats 4000000 in
set_option maxRecDepth 100000 in
theorem u64_c (g o n c : Nat) (l : List Int) (w : World) (hr : Rd w (some ⟨g, o, none⟩) l) (hn : l.length = n) (h2 : 8 ≤ n) : Calls Tryd.prog 107 #[.agg #[], .slice (some ⟨g, o, none⟩) n c] w fun e w' => e = .returned (.int .u64 (be8 l 0)) ∧ Below w.heap.size w w' := by
  obtain ⟨g', o', hA', hg, hc⟩ := hr.2 (by omega)
  injection hA' with hA'
  injection hA' with h1' h2'
  subst h1'; subst h2'
  have c0 := hc 0 (by omega)
  have c1 := hc 1 (by omega)
  have c2 := hc 2 (by omega)
  have c3 := hc 3 (by omega)
  have c4 := hc 4 (by omega)
  have c5 := hc 5 (by omega)
  have c6 := hc 6 (by omega)
  have c7 := hc 7 (by omega)
  rw [Nat.add_zero] at c0
  obtain ⟨p0, q0⟩ := hr.1.at_ 0
  obtain ⟨p1, q1⟩ := hr.1.at_ 1
  obtain ⟨p2, q2⟩ := hr.1.at_ 2
  obtain ⟨p3, q3⟩ := hr.1.at_ 3
  obtain ⟨p4, q4⟩ := hr.1.at_ 4
  obtain ⟨p5, q5⟩ := hr.1.at_ 5
  obtain ⟨p6, q6⟩ := hr.1.at_ 6
  obtain ⟨p7, q7⟩ := hr.1.at_ 7
  have hbe : Hid (be8 l 0 = at_ l 0 * 72057594037927936 + at_ l 1 * 281474976710656 + at_ l 2 * 1099511627776 + at_ l 3 * 4294967296 + at_ l 4 * 16777216 + at_ l 5 * 65536 + at_ l 6 * 256 + at_ l 7) := by show _ = _; simp only [be8, be4, be2, Nat.reduceAdd] <;> omega
  rw [hbe.out]
  clear hc hr hn hbe
  generalize at_ l 0 = x0 at *
  generalize at_ l 1 = x1 at *
  generalize at_ l 2 = x2 at *
  generalize at_ l 3 = x3 at *
  generalize at_ l 4 = x4 at *
  generalize at_ l 5 = x5 at *
  generalize at_ l 6 = x6 at *
  generalize at_ l 7 = x7 at *
  have s1 : IntKind.u64.wrap (x6 * 256) = x6 * 256 := u64_wrap_id _ (by omega) (by omega)
  have e1 : bits .or .u64 x7 (x6 * 256) = x6 * 256 + x7 := by rw [u64_or8 _ _ (by omega) (by omega) (by omega) (by omega) (by omega)]; omega
  have s2 : IntKind.u64.wrap (x5 * 65536) = x5 * 65536 := u64_wrap_id _ (by omega) (by omega)
  have e2 : bits .or .u64 (x6 * 256 + x7) (x5 * 65536) = x5 * 65536 + x6 * 256 + x7 := by rw [u64_or16 _ _ (by omega) (by omega) (by omega) (by omega) (by omega)]; omega
  have s3 : IntKind.u64.wrap (x4 * 16777216) = x4 * 16777216 := u64_wrap_id _ (by omega) (by omega)
  have e3 : bits .or .u64 (x5 * 65536 + x6 * 256 + x7) (x4 * 16777216) = x4 * 16777216 + x5 * 65536 + x6 * 256 + x7 := by rw [u64_or24 _ _ (by omega) (by omega) (by omega) (by omega) (by omega)]; omega
  have s4 : IntKind.u64.wrap (x3 * 4294967296) = x3 * 4294967296 := u64_wrap_id _ (by omega) (by omega)
  have e4 : bits .or .u64 (x4 * 16777216 + x5 * 65536 + x6 * 256 + x7) (x3 * 4294967296) = x3 * 4294967296 + x4 * 16777216 + x5 * 65536 + x6 * 256 + x7 := by rw [u64_or32 _ _ (by omega) (by omega) (by omega) (by omega) (by omega)]; omega
  have s5 : IntKind.u64.wrap (x2 * 1099511627776) = x2 * 1099511627776 := u64_wrap_id _ (by omega) (by omega)
  have e5 : bits .or .u64 (x3 * 4294967296 + x4 * 16777216 + x5 * 65536 + x6 * 256 + x7) (x2 * 1099511627776) = x2 * 1099511627776 + x3 * 4294967296 + x4 * 16777216 + x5 * 65536 + x6 * 256 + x7 := by rw [u64_or40 _ _ (by omega) (by omega) (by omega) (by omega) (by omega)]; omega
  have s6 : IntKind.u64.wrap (x1 * 281474976710656) = x1 * 281474976710656 := u64_wrap_id _ (by omega) (by omega)
  have e6 : bits .or .u64 (x2 * 1099511627776 + x3 * 4294967296 + x4 * 16777216 + x5 * 65536 + x6 * 256 + x7) (x1 * 281474976710656) = x1 * 281474976710656 + x2 * 1099511627776 + x3 * 4294967296 + x4 * 16777216 + x5 * 65536 + x6 * 256 + x7 := by rw [u64_or48 _ _ (by omega) (by omega) (by omega) (by omega) (by omega)]; omega
  have s7 : IntKind.u64.wrap (x0 * 72057594037927936) = x0 * 72057594037927936 := u64_wrap_id _ (by omega) (by omega)
  have e7 : bits .or .u64 (x1 * 281474976710656 + x2 * 1099511627776 + x3 * 4294967296 + x4 * 16777216 + x5 * 65536 + x6 * 256 + x7) (x0 * 72057594037927936) = x0 * 72057594037927936 + x1 * 281474976710656 + x2 * 1099511627776 + x3 * 4294967296 + x4 * 16777216 + x5 * 65536 + x6 * 256 + x7 := by rw [u64_or56 _ _ (by omega) (by omega) (by omega) (by omega) (by omega)]; omega
  have hA : ∀ (W : World) (o' : Obj) (j : Nat), g < W.heap.size → (W.alloc o').cell? ⟨g, j, none⟩ = W.cell? ⟨g, j, none⟩ := fun W o' j h => World.cell?_alloc_lt W o' ⟨g, j, none⟩ h
  have b0 : 0 < n := by omega
  have b1 : (1 : Int) < (n : Int) := by omega
  have b2 : (2 : Int) < (n : Int) := by omega
  have b3 : (3 : Int) < (n : Int) := by omega
  have b4 : (4 : Int) < (n : Int) := by omega
  have b5 : (5 : Int) < (n : Int) := by omega
  have b6 : (6 : Int) < (n : Int) := by omega
  have b7 : (7 : Int) < (n : Int) := by omega
  go_enter Tryd.func107, Tryd.ntmps107
  go_wp2
  go_quiet (fail)
  go_wp2
  go_ret
  exact ⟨rfl, below_drewN ((Below.refl _ _).alloc (Nat.le_refl _) _) _⟩

end Go.Proofs.YtpmdlbbgljcloaaDoor
