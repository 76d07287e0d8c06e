/- msgp's ensure onto nil, and prefixu8, prefixu16, prefixu32 and prefixu64 into a row that is known whole, walked. Conditions: the row has room. -/
import Derived.Test.YtpmdlbbgljcloaaDoorRow
namespace Go.Proofs.YtpmdlbbgljcloaaDoor
open Go Go.RowKit
set_option linter.unusedVariables false

set_option maxHeartbeats 1000000 in
theorem ensure_c (k : Nat) (w : World) (h0 : 0 < k) (h1 : k ≤ 1000000000000) : Calls Tryd.prog 93 #[.slice none 0 0, .int .i64 k] w fun e w' => e = .returned (.tuple #[.slice (some ⟨w.heap.size, 0, none⟩) k k, .int .i64 0]) ∧ w.alloc (.cells (zer k) 5) = w' := by
  have hmk := run_make_bytes k h1
  have hcp := run_copy_nil_src
  go_enter Tryd.func93, Tryd.ntmps93
  go_wp2
  go_ret2
  exact ⟨rfl, rfl⟩

theorem ensure_k (K : Int) (k : Nat) (w : World) (hK : K = k) (h0 : 0 < k) (h1 : k ≤ 1000000000000) : Calls Tryd.prog 93 #[.slice none 0 0, .int .i64 K] w fun e w' => e = .returned (.tuple #[.slice (some ⟨w.heap.size, 0, none⟩) k k, .int .i64 0]) ∧ w.alloc (.cells (zer k) 5) = w' := by
  subst hK; exact ensure_c k w h0 h1
theorem at_set_same (l : List Int) (j : Nat) (x : Int) (h : j < l.length) : at_ (l.set j x) j = x := by
  unfold at_
  simp [List.getD_eq_getElem?_getD, h]

set_option maxHeartbeats 2000000 in
set_option maxRecDepth 100000 in
theorem prefixu8_c (g n c : Nat) (p x : Int) (cur : List Int) (w : World) (hrow : RowI w g cur) (hl : 2 ≤ cur.length) (hn : 2 ≤ n) (hp : 0 ≤ p ∧ p < 256) (h0 : 0 ≤ x) (h1 : x < 256) :
    Calls Tryd.prog 119 #[.slice (some ⟨g, 0, none⟩) n c, .int .u8 p, .int .u8 x] w fun e w' => e = .returned (.tuple #[]) ∧ RowI w' g (((cur).set 0 (p)).set 1 (x)) ∧ Below g w w' := by
  have q0 := hrow.cell 0 (by omega)
  have q1 := hrow.cell 1 (by omega)
  have hf := fun j => hrow.frozen j
  have hs := ((hrow).set 0 (p)).set 1 (x)
  have HR := Lib.hid hs
  clear hs hl
  go_enter Tryd.func119, Tryd.ntmps119
  go_wp2
  go_end0
  refine ⟨rfl, HR.out, ?_⟩
  refine Below.setCell ?_ (by simp) _
  refine Below.setCell ?_ (by simp) _
  exact Below.refl _ _

set_option maxHeartbeats 2000000 in
set_option maxRecDepth 100000 in
theorem prefixu16_c (g n c : Nat) (p x : Int) (cur : List Int) (w : World) (hrow : RowI w g cur) (hl : 3 ≤ cur.length) (hn : 3 ≤ n) (hp : 0 ≤ p ∧ p < 256) (h0 : 0 ≤ x) (h1 : x < 65536) :
    Calls Tryd.prog 120 #[.slice (some ⟨g, 0, none⟩) n c, .int .u8 p, .int .u16 x] w fun e w' => e = .returned (.tuple #[]) ∧ RowI w' g ((((cur).set 0 (p)).set 1 (x / 256)).set 2 (x % 256)) ∧ Below g w w' := by
  have q0 := hrow.cell 0 (by omega)
  have q1 := hrow.cell 1 (by omega)
  have q2 := hrow.cell 2 (by omega)
  have hf := fun j => hrow.frozen j
  have hs := (((hrow).set 0 (p)).set 1 (x / 256)).set 2 (x % 256)
  have HR := Lib.hid hs
  clear hs hl
  go_enter Tryd.func120, Tryd.ntmps120
  go_wp2
  go_end0
  refine ⟨rfl, HR.out, ?_⟩
  refine Below.setCell ?_ (by simp) _
  refine Below.setCell ?_ (by simp) _
  refine Below.setCell ?_ (by simp) _
  exact Below.refl _ _

set_option maxHeartbeats 2000000 in
set_option maxRecDepth 100000 in
theorem prefixu32_c (g n c : Nat) (p x : Int) (cur : List Int) (w : World) (hrow : RowI w g cur) (hl : 5 ≤ cur.length) (hn : 5 ≤ n) (hp : 0 ≤ p ∧ p < 256) (h0 : 0 ≤ x) (h1 : x < 4294967296) :
    Calls Tryd.prog 115 #[.slice (some ⟨g, 0, none⟩) n c, .int .u8 p, .int .u32 x] w fun e w' => e = .returned (.tuple #[]) ∧ RowI w' g ((((((cur).set 0 (p)).set 1 (x / 16777216)).set 2 (x / 65536 % 256)).set 3 (x / 256 % 256)).set 4 (x % 256)) ∧ Below g w w' := by
  have q0 := hrow.cell 0 (by omega)
  have q1 := hrow.cell 1 (by omega)
  have q2 := hrow.cell 2 (by omega)
  have q3 := hrow.cell 3 (by omega)
  have q4 := hrow.cell 4 (by omega)
  have hf := fun j => hrow.frozen j
  have hs := (((((hrow).set 0 (p)).set 1 (x / 16777216)).set 2 (x / 65536 % 256)).set 3 (x / 256 % 256)).set 4 (x % 256)
  have HR := Lib.hid hs
  clear hs hl
  go_enter Tryd.func115, Tryd.ntmps115
  go_wp2
  go_end0
  refine ⟨rfl, HR.out, ?_⟩
  refine Below.setCell ?_ (by simp) _
  refine Below.setCell ?_ (by simp) _
  refine Below.setCell ?_ (by simp) _
  refine Below.setCell ?_ (by simp) _
  refine Below.setCell ?_ (by simp) _
  exact Below.refl _ _

set_option maxHeartbeats 2000000 in
set_option maxRecDepth 100000 in
theorem prefixu64_c (g n c : Nat) (p x : Int) (cur : List Int) (w : World) (hrow : RowI w g cur) (hl : 9 ≤ cur.length) (hn : 9 ≤ n) (hp : 0 ≤ p ∧ p < 256) (h0 : 0 ≤ x) (h1 : x < 18446744073709551616) :
    Calls Tryd.prog 116 #[.slice (some ⟨g, 0, none⟩) n c, .int .u8 p, .int .u64 x] w fun e w' => e = .returned (.tuple #[]) ∧ RowI w' g ((((((((((cur).set 0 (p)).set 1 (x / 72057594037927936)).set 2 (x / 281474976710656 % 256)).set 3 (x / 1099511627776 % 256)).set 4 (x / 4294967296 % 256)).set 5 (x / 16777216 % 256)).set 6 (x / 65536 % 256)).set 7 (x / 256 % 256)).set 8 (x % 256)) ∧ Below g w w' := by
  have q0 := hrow.cell 0 (by omega)
  have q1 := hrow.cell 1 (by omega)
  have q2 := hrow.cell 2 (by omega)
  have q3 := hrow.cell 3 (by omega)
  have q4 := hrow.cell 4 (by omega)
  have q5 := hrow.cell 5 (by omega)
  have q6 := hrow.cell 6 (by omega)
  have q7 := hrow.cell 7 (by omega)
  have q8 := hrow.cell 8 (by omega)
  have hf := fun j => hrow.frozen j
  have hs := (((((((((hrow).set 0 (p)).set 1 (x / 72057594037927936)).set 2 (x / 281474976710656 % 256)).set 3 (x / 1099511627776 % 256)).set 4 (x / 4294967296 % 256)).set 5 (x / 16777216 % 256)).set 6 (x / 65536 % 256)).set 7 (x / 256 % 256)).set 8 (x % 256)
  have HR := Lib.hid hs
  clear hs hl
  go_enter Tryd.func116, Tryd.ntmps116
  go_wp2
  go_end0
  refine ⟨rfl, HR.out, ?_⟩
  refine Below.setCell ?_ (by simp) _
  refine Below.setCell ?_ (by simp) _
  refine Below.setCell ?_ (by simp) _
  refine Below.setCell ?_ (by simp) _
  refine Below.setCell ?_ (by simp) _
  refine Below.setCell ?_ (by simp) _
  refine Below.setCell ?_ (by simp) _
  refine Below.setCell ?_ (by simp) _
  refine Below.setCell ?_ (by simp) _
  exact Below.refl _ _

end Go.Proofs.YtpmdlbbgljcloaaDoor
