/- Go's binary.BigEndian.PutUint16, PutUint32 and PutUint64 into a row that is known whole, at an offset, walked. Conditions: the row has room. -/
import Derived.Test.YtpmdlbbgljcloaaDoorRow
namespace Go.Proofs.YtpmdlbbgljcloaaDoor
open Go Go.RowKit
set_option linter.unusedVariables false

set_option maxHeartbeats 2000000 in
set_option maxRecDepth 100000 in
theorem putu16_c (g o n c : Nat) (x : Int) (cur : List Int) (w : World) (hrow : RowI w g cur) (hl : o + 2 ≤ cur.length) (hn : 2 ≤ n) (h0 : 0 ≤ x) (h1 : x < 65536) :
    Calls Tryd.prog 122 #[.agg #[], .slice (some ⟨g, o, none⟩) n c, .int .u16 x] w fun e w' => e = .returned (.tuple #[]) ∧ RowI w' g ((((cur).set o (x / 256))).set (o + 1) (x % 256)) ∧ Below g w w' := by
  have hg := hrow.lt
  have q0 := hrow.cell o (by omega)
  have q1 := hrow.cell (o + 1) (by omega)
  have hA : ∀ (W : World) (o' : Obj) (j : Nat), g < W.heap.size → (W.alloc o').cell? ⟨g, j, none⟩ = W.cell? ⟨g, j, none⟩ := fun W o' j h => World.cell?_alloc_lt W o' ⟨g, j, none⟩ h
  have hf := fun j => hrow.frozen j
  have hs := (RowI.set (RowI.set hrow o (x / 256)) (o + 1) (x % 256))
  have HR := Lib.hid hs
  have bb : (1 : Int) < (n : Int) := by omega
  clear hs hl hrow
  go_enter Tryd.func122, Tryd.ntmps122
  go_wp2
  go_end0
  refine ⟨rfl, HR.out.kept ((Below.refl _ _).alloc (Nat.le_refl _) _), ?_⟩
  refine Below.alloc ?_ (by simp; omega) _
  refine Below.setCell ?_ (by simp) _
  refine Below.setCell ?_ (by simp) _
  exact Below.refl _ _

set_option maxHeartbeats 2000000 in
set_option maxRecDepth 100000 in
theorem putu32_c (g o n c : Nat) (x : Int) (cur : List Int) (w : World) (hrow : RowI w g cur) (hl : o + 4 ≤ cur.length) (hn : 4 ≤ n) (h0 : 0 ≤ x) (h1 : x < 4294967296) :
    Calls Tryd.prog 110 #[.agg #[], .slice (some ⟨g, o, none⟩) n c, .int .u32 x] w fun e w' => e = .returned (.tuple #[]) ∧ RowI w' g ((((((((cur).set o (x / 16777216))).set (o + 1) (x / 65536 % 256))).set (o + 2) (x / 256 % 256))).set (o + 3) (x % 256)) ∧ Below g w w' := by
  have hg := hrow.lt
  have q0 := hrow.cell o (by omega)
  have q1 := hrow.cell (o + 1) (by omega)
  have q2 := hrow.cell (o + 2) (by omega)
  have q3 := hrow.cell (o + 3) (by omega)
  have hA : ∀ (W : World) (o' : Obj) (j : Nat), g < W.heap.size → (W.alloc o').cell? ⟨g, j, none⟩ = W.cell? ⟨g, j, none⟩ := fun W o' j h => World.cell?_alloc_lt W o' ⟨g, j, none⟩ h
  have hf := fun j => hrow.frozen j
  have hs := (RowI.set (RowI.set (RowI.set (RowI.set hrow o (x / 16777216)) (o + 1) (x / 65536 % 256)) (o + 2) (x / 256 % 256)) (o + 3) (x % 256))
  have HR := Lib.hid hs
  have bb : (3 : Int) < (n : Int) := by omega
  clear hs hl hrow
  go_enter Tryd.func110, Tryd.ntmps110
  go_wp2
  go_end0
  refine ⟨rfl, HR.out.kept ((Below.refl _ _).alloc (Nat.le_refl _) _), ?_⟩
  refine Below.alloc ?_ (by simp; omega) _
  refine Below.setCell ?_ (by simp) _
  refine Below.setCell ?_ (by simp) _
  refine Below.setCell ?_ (by simp) _
  refine Below.setCell ?_ (by simp) _
  exact Below.refl _ _

set_option maxHeartbeats 2000000 in
set_option maxRecDepth 100000 in
theorem putu64_c (g o n c : Nat) (x : Int) (cur : List Int) (w : World) (hrow : RowI w g cur) (hl : o + 8 ≤ cur.length) (hn : 8 ≤ n) (h0 : 0 ≤ x) (h1 : x < 18446744073709551616) :
    Calls Tryd.prog 111 #[.agg #[], .slice (some ⟨g, o, none⟩) n c, .int .u64 x] w fun e w' => e = .returned (.tuple #[]) ∧ RowI w' g ((((((((((((((((cur).set o (x / 72057594037927936))).set (o + 1) (x / 281474976710656 % 256))).set (o + 2) (x / 1099511627776 % 256))).set (o + 3) (x / 4294967296 % 256))).set (o + 4) (x / 16777216 % 256))).set (o + 5) (x / 65536 % 256))).set (o + 6) (x / 256 % 256))).set (o + 7) (x % 256)) ∧ Below g w w' := by
  have hg := hrow.lt
  have q0 := hrow.cell o (by omega)
  have q1 := hrow.cell (o + 1) (by omega)
  have q2 := hrow.cell (o + 2) (by omega)
  have q3 := hrow.cell (o + 3) (by omega)
  have q4 := hrow.cell (o + 4) (by omega)
  have q5 := hrow.cell (o + 5) (by omega)
  have q6 := hrow.cell (o + 6) (by omega)
  have q7 := hrow.cell (o + 7) (by omega)
  have hA : ∀ (W : World) (o' : Obj) (j : Nat), g < W.heap.size → (W.alloc o').cell? ⟨g, j, none⟩ = W.cell? ⟨g, j, none⟩ := fun W o' j h => World.cell?_alloc_lt W o' ⟨g, j, none⟩ h
  have hf := fun j => hrow.frozen j
  have hs := (RowI.set (RowI.set (RowI.set (RowI.set (RowI.set (RowI.set (RowI.set (RowI.set hrow o (x / 72057594037927936)) (o + 1) (x / 281474976710656 % 256)) (o + 2) (x / 1099511627776 % 256)) (o + 3) (x / 4294967296 % 256)) (o + 4) (x / 16777216 % 256)) (o + 5) (x / 65536 % 256)) (o + 6) (x / 256 % 256)) (o + 7) (x % 256))
  have HR := Lib.hid hs
  have bb : (7 : Int) < (n : Int) := by omega
  clear hs hl hrow
  go_enter Tryd.func111, Tryd.ntmps111
  go_wp2
  go_end0
  refine ⟨rfl, HR.out.kept ((Below.refl _ _).alloc (Nat.le_refl _) _), ?_⟩
  refine Below.alloc ?_ (by simp; omega) _
  refine Below.setCell ?_ (by simp) _
  refine Below.setCell ?_ (by simp) _
  refine Below.setCell ?_ (by simp) _
  refine Below.setCell ?_ (by simp) _
  refine Below.setCell ?_ (by simp) _
  refine Below.setCell ?_ (by simp) _
  refine Below.setCell ?_ (by simp) _
  refine Below.setCell ?_ (by simp) _
  exact Below.refl _ _

end Go.Proofs.YtpmdlbbgljcloaaDoor
