/- The thin package's codeOf at each error, walked: the code of an error. Conditions: the two sentinels' variables hold what the program lays in them. -/
import Derived.Test.YtpmdlbbgljcloaaDoorErr
namespace Go.Proofs.YtpmdlbbgljcloaaDoor
open Go Go.RowKit Go.Extern.Stop Go.Stop Go.Extern

/-- The two sentinels' variables hold what the program lays in them. -/
def Glob (w : World) : Prop := w.cell? ⟨0, 0, none⟩ = some eShort ∧ w.cell? ⟨1, 0, none⟩ = some eRec
theorem Glob.mono {w w' : World} (h : Glob w) (hb : Below w.heap.size w w') : Glob w' := by
  have h1 := World.block_lt_of_cell? w _ h.1
  have h2 := World.block_lt_of_cell? w _ h.2
  exact ⟨(hb.cell h1).trans h.1, (hb.cell h2).trans h.2⟩
theorem Glob.alloc {w : World} (h : Glob w) (o : Obj) : Glob (w.alloc o) := h.mono ((Below.refl _ _).alloc (Nat.le_refl _) o)

set_option maxHeartbeats 1000000 in
set_option maxRecDepth 100000 in
theorem codeOf_nil (w : World) : Calls Tryd.prog 55 #[.nilIface] w fun e w' => e = .returned (.int .i64 0) ∧ w = w' := by
  go_enter Tryd.func55, Tryd.ntmps55
  go_wp2_with fail
  go_ret
  exact ⟨rfl, rfl⟩

theorem as_Short_W (w : World) : (Instr.typeAssert eShort 77 186 true).run Tryd.prog w = .ok (.tuple #[.agg #[.nilIface, .string ⟨#[]⟩], .bool false]) w := by kernel_rfl
set_option maxHeartbeats 1000000 in
set_option maxRecDepth 100000 in
theorem codeOf_Short (w : World) (hG : Glob w) : Calls Tryd.prog 55 #[eShort] w fun e w' => e = .returned (.int .i64 1) ∧ Below w.heap.size w w' := by
  obtain ⟨g1, g2⟩ := hG
  have l1 := World.block_lt_of_cell? w _ g1
  have l2 := World.block_lt_of_cell? w _ g2
  simp only at l1 l2
  have hA : ∀ (W : World) (o' : Obj) (g j : Nat), g < W.heap.size → (W.alloc o').cell? ⟨g, j, none⟩ = W.cell? ⟨g, j, none⟩ := fun W o' g j h => World.cell?_alloc_lt W o' ⟨g, j, none⟩ h
  have aW := as_Short_W 
  go_enter Tryd.func55, Tryd.ntmps55
  go_wp2_with (go_at_call 99; go_in)
  ((with_reducible refine (is_Short_s _).mono ?_); rintro e w' ⟨rfl, rfl⟩)
  go_wp2_with fail
  go_ret
  exact ⟨rfl, by repeat (first | exact Below.refl _ _ | (refine Below.alloc ?_ (by simp <;> omega) _))⟩
theorem as_Rec_W (w : World) : (Instr.typeAssert eRec 77 186 true).run Tryd.prog w = .ok (.tuple #[.agg #[.nilIface, .string ⟨#[]⟩], .bool false]) w := by kernel_rfl
set_option maxHeartbeats 1000000 in
set_option maxRecDepth 100000 in
theorem codeOf_Rec (w : World) (hG : Glob w) : Calls Tryd.prog 55 #[eRec] w fun e w' => e = .returned (.int .i64 6) ∧ Below w.heap.size w w' := by
  obtain ⟨g1, g2⟩ := hG
  have l1 := World.block_lt_of_cell? w _ g1
  have l2 := World.block_lt_of_cell? w _ g2
  simp only at l1 l2
  have hA : ∀ (W : World) (o' : Obj) (g j : Nat), g < W.heap.size → (W.alloc o').cell? ⟨g, j, none⟩ = W.cell? ⟨g, j, none⟩ := fun W o' g j h => World.cell?_alloc_lt W o' ⟨g, j, none⟩ h
  have aW := as_Rec_W 
  go_enter Tryd.func55, Tryd.ntmps55
  go_wp2_with (go_at_call 99; go_in)
  ((with_reducible refine (is_Rec_s _).mono ?_); rintro e w' ⟨rfl, rfl⟩)
  go_wp2_with fail
  ((with_reducible refine (is_Rec_r _).mono ?_); rintro e w' ⟨rfl, rfl⟩)
  go_wp2_with fail
  go_ret
  exact ⟨rfl, by repeat (first | exact Below.refl _ _ | (refine Below.alloc ?_ (by simp <;> omega) _))⟩
theorem as_Type_W (m t : Int) (w : World) : (Instr.typeAssert (eType m t) 77 186 true).run Tryd.prog w = .ok (.tuple #[.agg #[.nilIface, .string ⟨#[]⟩], .bool false]) w := by kernel_rfl
theorem as_Type_Type (m t : Int) (w : World) : (Instr.typeAssert (eType m t) 77 149 true).run Tryd.prog w = .ok (.tuple #[.agg #[.int .u8 m, .int .u8 t, .string ⟨#[]⟩], .bool true]) w := by kernel_rfl
set_option maxHeartbeats 1000000 in
set_option maxRecDepth 100000 in
theorem codeOf_Type (m t : Int) (w : World) (hG : Glob w) : Calls Tryd.prog 55 #[(eType m t)] w fun e w' => e = .returned (.int .i64 2) ∧ Below w.heap.size w w' := by
  obtain ⟨g1, g2⟩ := hG
  have l1 := World.block_lt_of_cell? w _ g1
  have l2 := World.block_lt_of_cell? w _ g2
  simp only at l1 l2
  have hA : ∀ (W : World) (o' : Obj) (g j : Nat), g < W.heap.size → (W.alloc o').cell? ⟨g, j, none⟩ = W.cell? ⟨g, j, none⟩ := fun W o' g j h => World.cell?_alloc_lt W o' ⟨g, j, none⟩ h
  have aW := as_Type_W m t
  have aType := as_Type_Type m t
  go_enter Tryd.func55, Tryd.ntmps55
  go_wp2_with (go_at_call 99; go_in)
  ((with_reducible refine (is_Type_s m t _).mono ?_); rintro e w' ⟨rfl, rfl⟩)
  go_wp2_with fail
  ((with_reducible refine (is_Type_r m t _).mono ?_); rintro e w' ⟨rfl, rfl⟩)
  go_wp2_with fail
  go_ret
  exact ⟨rfl, by repeat (first | exact Below.refl _ _ | (refine Below.alloc ?_ (by simp <;> omega) _))⟩
theorem as_IOver_W (m t : Int) (w : World) : (Instr.typeAssert (eIOver m t) 77 186 true).run Tryd.prog w = .ok (.tuple #[.agg #[.nilIface, .string ⟨#[]⟩], .bool false]) w := by kernel_rfl
theorem as_IOver_Type (m t : Int) (w : World) : (Instr.typeAssert (eIOver m t) 77 149 true).run Tryd.prog w = .ok (.tuple #[.agg #[.int .u8 0, .int .u8 0, .string ⟨#[]⟩], .bool false]) w := by kernel_rfl
theorem as_IOver_IOver (m t : Int) (w : World) : (Instr.typeAssert (eIOver m t) 77 144 true).run Tryd.prog w = .ok (.tuple #[.agg #[.int .i64 m, .int .i64 t, .string ⟨#[]⟩], .bool true]) w := by kernel_rfl
theorem as_IOver_UOver (m t : Int) (w : World) : (Instr.typeAssert (eIOver m t) 77 151 true).run Tryd.prog w = .ok (.tuple #[.agg #[.int .u64 0, .int .i64 0, .string ⟨#[]⟩], .bool false]) w := by kernel_rfl
set_option maxHeartbeats 1000000 in
set_option maxRecDepth 100000 in
theorem codeOf_IOver (m t : Int) (w : World) (hG : Glob w) : Calls Tryd.prog 55 #[(eIOver m t)] w fun e w' => e = .returned (.int .i64 3) ∧ Below w.heap.size w w' := by
  obtain ⟨g1, g2⟩ := hG
  have l1 := World.block_lt_of_cell? w _ g1
  have l2 := World.block_lt_of_cell? w _ g2
  simp only at l1 l2
  have hA : ∀ (W : World) (o' : Obj) (g j : Nat), g < W.heap.size → (W.alloc o').cell? ⟨g, j, none⟩ = W.cell? ⟨g, j, none⟩ := fun W o' g j h => World.cell?_alloc_lt W o' ⟨g, j, none⟩ h
  have aW := as_IOver_W m t
  have aType := as_IOver_Type m t
  have aIOver := as_IOver_IOver m t
  have aUOver := as_IOver_UOver m t
  go_enter Tryd.func55, Tryd.ntmps55
  go_wp2_with (go_at_call 99; go_in)
  ((with_reducible refine (is_IOver_s m t _).mono ?_); rintro e w' ⟨rfl, rfl⟩)
  go_wp2_with fail
  ((with_reducible refine (is_IOver_r m t _).mono ?_); rintro e w' ⟨rfl, rfl⟩)
  go_wp2_with fail
  go_ret
  exact ⟨rfl, by repeat (first | exact Below.refl _ _ | (refine Below.alloc ?_ (by simp <;> omega) _))⟩
theorem as_UOver_W (m t : Int) (w : World) : (Instr.typeAssert (eUOver m t) 77 186 true).run Tryd.prog w = .ok (.tuple #[.agg #[.nilIface, .string ⟨#[]⟩], .bool false]) w := by kernel_rfl
theorem as_UOver_Type (m t : Int) (w : World) : (Instr.typeAssert (eUOver m t) 77 149 true).run Tryd.prog w = .ok (.tuple #[.agg #[.int .u8 0, .int .u8 0, .string ⟨#[]⟩], .bool false]) w := by kernel_rfl
theorem as_UOver_IOver (m t : Int) (w : World) : (Instr.typeAssert (eUOver m t) 77 144 true).run Tryd.prog w = .ok (.tuple #[.agg #[.int .i64 0, .int .i64 0, .string ⟨#[]⟩], .bool false]) w := by kernel_rfl
theorem as_UOver_UOver (m t : Int) (w : World) : (Instr.typeAssert (eUOver m t) 77 151 true).run Tryd.prog w = .ok (.tuple #[.agg #[.int .u64 m, .int .i64 t, .string ⟨#[]⟩], .bool true]) w := by kernel_rfl
set_option maxHeartbeats 1000000 in
set_option maxRecDepth 100000 in
theorem codeOf_UOver (m t : Int) (w : World) (hG : Glob w) : Calls Tryd.prog 55 #[(eUOver m t)] w fun e w' => e = .returned (.int .i64 3) ∧ Below w.heap.size w w' := by
  obtain ⟨g1, g2⟩ := hG
  have l1 := World.block_lt_of_cell? w _ g1
  have l2 := World.block_lt_of_cell? w _ g2
  simp only at l1 l2
  have hA : ∀ (W : World) (o' : Obj) (g j : Nat), g < W.heap.size → (W.alloc o').cell? ⟨g, j, none⟩ = W.cell? ⟨g, j, none⟩ := fun W o' g j h => World.cell?_alloc_lt W o' ⟨g, j, none⟩ h
  have aW := as_UOver_W m t
  have aType := as_UOver_Type m t
  have aIOver := as_UOver_IOver m t
  have aUOver := as_UOver_UOver m t
  go_enter Tryd.func55, Tryd.ntmps55
  go_wp2_with (go_at_call 99; go_in)
  ((with_reducible refine (is_UOver_s m t _).mono ?_); rintro e w' ⟨rfl, rfl⟩)
  go_wp2_with fail
  ((with_reducible refine (is_UOver_r m t _).mono ?_); rintro e w' ⟨rfl, rfl⟩)
  go_wp2_with fail
  go_ret
  exact ⟨rfl, by repeat (first | exact Below.refl _ _ | (refine Below.alloc ?_ (by simp <;> omega) _))⟩
theorem as_Pre_W (m : Int) (w : World) : (Instr.typeAssert (ePre m) 77 186 true).run Tryd.prog w = .ok (.tuple #[.agg #[.nilIface, .string ⟨#[]⟩], .bool false]) w := by kernel_rfl
theorem as_Pre_Type (m : Int) (w : World) : (Instr.typeAssert (ePre m) 77 149 true).run Tryd.prog w = .ok (.tuple #[.agg #[.int .u8 0, .int .u8 0, .string ⟨#[]⟩], .bool false]) w := by kernel_rfl
theorem as_Pre_IOver (m : Int) (w : World) : (Instr.typeAssert (ePre m) 77 144 true).run Tryd.prog w = .ok (.tuple #[.agg #[.int .i64 0, .int .i64 0, .string ⟨#[]⟩], .bool false]) w := by kernel_rfl
theorem as_Pre_UOver (m : Int) (w : World) : (Instr.typeAssert (ePre m) 77 151 true).run Tryd.prog w = .ok (.tuple #[.agg #[.int .u64 0, .int .i64 0, .string ⟨#[]⟩], .bool false]) w := by kernel_rfl
theorem as_Pre_Pre (m : Int) (w : World) : (Instr.typeAssert (ePre m) 77 152 true).run Tryd.prog w = .ok (.tuple #[.int .u8 m, .bool true]) w := by kernel_rfl
set_option maxHeartbeats 1000000 in
set_option maxRecDepth 100000 in
theorem codeOf_Pre (m : Int) (w : World) (hG : Glob w) : Calls Tryd.prog 55 #[(ePre m)] w fun e w' => e = .returned (.int .i64 4) ∧ Below w.heap.size w w' := by
  obtain ⟨g1, g2⟩ := hG
  have l1 := World.block_lt_of_cell? w _ g1
  have l2 := World.block_lt_of_cell? w _ g2
  simp only at l1 l2
  have hA : ∀ (W : World) (o' : Obj) (g j : Nat), g < W.heap.size → (W.alloc o').cell? ⟨g, j, none⟩ = W.cell? ⟨g, j, none⟩ := fun W o' g j h => World.cell?_alloc_lt W o' ⟨g, j, none⟩ h
  have aW := as_Pre_W m
  have aType := as_Pre_Type m
  have aIOver := as_Pre_IOver m
  have aUOver := as_Pre_UOver m
  have aPre := as_Pre_Pre m
  go_enter Tryd.func55, Tryd.ntmps55
  go_wp2_with (go_at_call 99; go_in)
  ((with_reducible refine (is_Pre_s m _).mono ?_); rintro e w' ⟨rfl, rfl⟩)
  go_wp2_with fail
  ((with_reducible refine (is_Pre_r m _).mono ?_); rintro e w' ⟨rfl, rfl⟩)
  go_wp2_with fail
  go_ret
  exact ⟨rfl, by repeat (first | exact Below.refl _ _ | (refine Below.alloc ?_ (by simp <;> omega) _))⟩
theorem as_Ext_W (m t : Int) (w : World) : (Instr.typeAssert (eExt m t) 77 186 true).run Tryd.prog w = .ok (.tuple #[.agg #[.nilIface, .string ⟨#[]⟩], .bool false]) w := by kernel_rfl
theorem as_Ext_Type (m t : Int) (w : World) : (Instr.typeAssert (eExt m t) 77 149 true).run Tryd.prog w = .ok (.tuple #[.agg #[.int .u8 0, .int .u8 0, .string ⟨#[]⟩], .bool false]) w := by kernel_rfl
theorem as_Ext_IOver (m t : Int) (w : World) : (Instr.typeAssert (eExt m t) 77 144 true).run Tryd.prog w = .ok (.tuple #[.agg #[.int .i64 0, .int .i64 0, .string ⟨#[]⟩], .bool false]) w := by kernel_rfl
theorem as_Ext_UOver (m t : Int) (w : World) : (Instr.typeAssert (eExt m t) 77 151 true).run Tryd.prog w = .ok (.tuple #[.agg #[.int .u64 0, .int .i64 0, .string ⟨#[]⟩], .bool false]) w := by kernel_rfl
theorem as_Ext_Pre (m t : Int) (w : World) : (Instr.typeAssert (eExt m t) 77 152 true).run Tryd.prog w = .ok (.tuple #[.int .u8 0, .bool false]) w := by kernel_rfl
theorem as_Ext_Ext (m t : Int) (w : World) : (Instr.typeAssert (eExt m t) 77 154 true).run Tryd.prog w = .ok (.tuple #[.agg #[.int .i8 m, .int .i8 t], .bool true]) w := by kernel_rfl
set_option maxHeartbeats 1000000 in
set_option maxRecDepth 100000 in
theorem codeOf_Ext (m t : Int) (w : World) (hG : Glob w) : Calls Tryd.prog 55 #[(eExt m t)] w fun e w' => e = .returned (.int .i64 6) ∧ Below w.heap.size w w' := by
  obtain ⟨g1, g2⟩ := hG
  have l1 := World.block_lt_of_cell? w _ g1
  have l2 := World.block_lt_of_cell? w _ g2
  simp only at l1 l2
  have hA : ∀ (W : World) (o' : Obj) (g j : Nat), g < W.heap.size → (W.alloc o').cell? ⟨g, j, none⟩ = W.cell? ⟨g, j, none⟩ := fun W o' g j h => World.cell?_alloc_lt W o' ⟨g, j, none⟩ h
  have aW := as_Ext_W m t
  have aType := as_Ext_Type m t
  have aIOver := as_Ext_IOver m t
  have aUOver := as_Ext_UOver m t
  have aPre := as_Ext_Pre m t
  have aExt := as_Ext_Ext m t
  go_enter Tryd.func55, Tryd.ntmps55
  go_wp2_with (go_at_call 99; go_in)
  ((with_reducible refine (is_Ext_s m t _).mono ?_); rintro e w' ⟨rfl, rfl⟩)
  go_wp2_with fail
  ((with_reducible refine (is_Ext_r m t _).mono ?_); rintro e w' ⟨rfl, rfl⟩)
  go_wp2_with fail
  go_ret
  exact ⟨rfl, by repeat (first | exact Below.refl _ _ | (refine Below.alloc ?_ (by simp <;> omega) _))⟩
theorem as_Below_W (m : Int) (w : World) : (Instr.typeAssert (eBelow m) 77 186 true).run Tryd.prog w = .ok (.tuple #[.agg #[.nilIface, .string ⟨#[]⟩], .bool false]) w := by kernel_rfl
theorem as_Below_Type (m : Int) (w : World) : (Instr.typeAssert (eBelow m) 77 149 true).run Tryd.prog w = .ok (.tuple #[.agg #[.int .u8 0, .int .u8 0, .string ⟨#[]⟩], .bool false]) w := by kernel_rfl
theorem as_Below_IOver (m : Int) (w : World) : (Instr.typeAssert (eBelow m) 77 144 true).run Tryd.prog w = .ok (.tuple #[.agg #[.int .i64 0, .int .i64 0, .string ⟨#[]⟩], .bool false]) w := by kernel_rfl
theorem as_Below_UOver (m : Int) (w : World) : (Instr.typeAssert (eBelow m) 77 151 true).run Tryd.prog w = .ok (.tuple #[.agg #[.int .u64 0, .int .i64 0, .string ⟨#[]⟩], .bool false]) w := by kernel_rfl
theorem as_Below_Pre (m : Int) (w : World) : (Instr.typeAssert (eBelow m) 77 152 true).run Tryd.prog w = .ok (.tuple #[.int .u8 0, .bool false]) w := by kernel_rfl
theorem as_Below_Ext (m : Int) (w : World) : (Instr.typeAssert (eBelow m) 77 154 true).run Tryd.prog w = .ok (.tuple #[.agg #[.int .i8 0, .int .i8 0], .bool false]) w := by kernel_rfl
set_option maxHeartbeats 1000000 in
set_option maxRecDepth 100000 in
theorem codeOf_Below (m : Int) (w : World) (hG : Glob w) : Calls Tryd.prog 55 #[(eBelow m)] w fun e w' => e = .returned (.int .i64 5) ∧ Below w.heap.size w w' := by
  obtain ⟨g1, g2⟩ := hG
  have l1 := World.block_lt_of_cell? w _ g1
  have l2 := World.block_lt_of_cell? w _ g2
  simp only at l1 l2
  have hA : ∀ (W : World) (o' : Obj) (g j : Nat), g < W.heap.size → (W.alloc o').cell? ⟨g, j, none⟩ = W.cell? ⟨g, j, none⟩ := fun W o' g j h => World.cell?_alloc_lt W o' ⟨g, j, none⟩ h
  have aW := as_Below_W m
  have aType := as_Below_Type m
  have aIOver := as_Below_IOver m
  have aUOver := as_Below_UOver m
  have aPre := as_Below_Pre m
  have aExt := as_Below_Ext m
  go_enter Tryd.func55, Tryd.ntmps55
  go_wp2_with (go_at_call 99; go_in)
  ((with_reducible refine (is_Below_s m _).mono ?_); rintro e w' ⟨rfl, rfl⟩)
  go_wp2_with fail
  ((with_reducible refine (is_Below_r m _).mono ?_); rintro e w' ⟨rfl, rfl⟩)
  go_wp2_with fail
  go_ret
  exact ⟨rfl, by repeat (first | exact Below.refl _ _ | (refine Below.alloc ?_ (by simp <;> omega) _))⟩
end Go.Proofs.YtpmdlbbgljcloaaDoor
