/- The package's errors as values, and Go's errors.Is at each of them and the two sentinels, walked. Conditions: none. -/
import Derived.Test.YtpmdlbbgljcloaaDoorPure
import Derived.LaidEql
import Derived.Stop.Asserts
import Derived.RowKitTokens
namespace Go.Proofs.YtpmdlbbgljcloaaDoor
open Go Go.RowKit Go.Extern.Stop Go.Stop Go.Extern

abbrev eShort : Value := .iface 242 (.agg #[])
abbrev eRec : Value := .iface 243 (.agg #[])
abbrev eType (m t : Int) : Value := .iface 149 (.agg #[.int .u8 m, .int .u8 t, .string ⟨#[]⟩])
abbrev eIOver (m t : Int) : Value := .iface 144 (.agg #[.int .i64 m, .int .i64 t, .string ⟨#[]⟩])
abbrev eUOver (m t : Int) : Value := .iface 151 (.agg #[.int .u64 m, .int .i64 t, .string ⟨#[]⟩])
abbrev ePre (m : Int) : Value := .iface 152 (.int .u8 m)
abbrev eExt (m t : Int) : Value := .iface 154 (.agg #[.int .i8 m, .int .i8 t])
abbrev eBelow (m : Int) : Value := .iface 164 (.agg #[.int .i64 m, .string ⟨#[]⟩])

/-- What 'reflectlite.TypeOf(target).Comparable()' gives at the two sentinels. -/
theorem typeOf_s (w : World) : (Extern.ReflectliteType.typeOf #[eShort]).run Tryd.prog w = .ok (.iface 198 (.agg #[.pointer (some ⟨4, 242, none⟩)])) w := by kernel_rfl
theorem typeOf_r (w : World) : (Extern.ReflectliteType.typeOf #[eRec]).run Tryd.prog w = .ok (.iface 198 (.agg #[.pointer (some ⟨4, 243, none⟩)])) w := by kernel_rfl
theorem isComparable_s (w : World) : ((Extern.ReflectliteType.method fun t => do Extern.Rtype.noPackHeld "Comparable" t; (fun a => Value.bool a.comparable) <$> typeInfo t) #[.agg #[.pointer (some ⟨4, 242, none⟩)]]).run Tryd.prog w = .ok (.bool true) w := by kernel_rfl
theorem isComparable_r (w : World) : ((Extern.ReflectliteType.method fun t => do Extern.Rtype.noPackHeld "Comparable" t; (fun a => Value.bool a.comparable) <$> typeInfo t) #[.agg #[.pointer (some ⟨4, 243, none⟩)]]).run Tryd.prog w = .ok (.bool true) w := by kernel_rfl
theorem isMethodComparable (k : Nat) (v : Value) (w : World) : (Go.method (k + 1) 198 v "Comparable").run Tryd.prog w = .ok (174, v) w := by kernel_rfl
theorem callTypeOf (args : Array Value) (w : World) : (callFunc 134 args).run Tryd.prog w = ((Extern.ReflectliteType.typeOf args).run Tryd.prog w).andThen fun v w' => .ok (.value v) w' := run_callFunc_extern Tryd.func134 (by kernel_rfl) (by kernel_rfl) (by kernel_rfl) (by kernel_rfl) args w
theorem callComparable (args : Array Value) (w : World) : (callFunc 174 args).run Tryd.prog w = (((Extern.ReflectliteType.method fun t => do Extern.Rtype.noPackHeld "Comparable" t; (fun a => Value.bool a.comparable) <$> typeInfo t) args).run Tryd.prog w).andThen fun v w' => .ok (.value v) w' := by
  have h := @run_callFunc_extern Tryd.prog 174 _ (Extern.ReflectliteType.method fun t => do Extern.Rtype.noPackHeld "Comparable" t; pure (.bool (← typeInfo t).comparable)) Tryd.func174 (by kernel_rfl) (by kernel_rfl) (by kernel_rfl) (by kernel_rfl) args w
  simpa using h

theorem noIs_Short (v : Value) (xT : TypeId) (w : World) : (Instr.typeAssert (.iface 242 v) xT 200 true).run Tryd.prog w = .ok (.tuple #[.nilIface, .bool false]) w := run_typeAssert_lacksB Tryd.underlying200 (by kernel_rfl) (by kernel_rfl) v xT w
theorem noUn_Short (v : Value) (xT : TypeId) (w : World) : (Instr.typeAssert (.iface 242 v) xT 203 true).run Tryd.prog w = .ok (.tuple #[.nilIface, .bool false]) w := run_typeAssert_lacksB Tryd.underlying203 (by kernel_rfl) (by kernel_rfl) v xT w
theorem noUs_Short (v : Value) (xT : TypeId) (w : World) : (Instr.typeAssert (.iface 242 v) xT 205 true).run Tryd.prog w = .ok (.tuple #[.nilIface, .bool false]) w := run_typeAssert_lacksB Tryd.underlying205 (by kernel_rfl) (by kernel_rfl) v xT w
theorem eq_Short_s (w : World) : (binOp .eql 77 eShort eShort).run Tryd.prog w = .ok (.bool true) w := by kernel_rfl
set_option maxHeartbeats 1000000 in
set_option maxRecDepth 100000 in
theorem is_Short_s (w : World) : Calls Tryd.prog 100 #[eShort, eShort] w fun e w' => e = .returned (.bool true) ∧ w = w' := by
  have h8 := callTypeOf
  have h32 := callComparable
  have k1 := typeOf_s
  have k2 := isComparable_s
  have k3 := isMethodComparable
  have k4 := eq_Short_s 
  go_enter Tryd.func100, Tryd.ntmps100
  go_wp2
  refine wp_loop_rounds 1 ?_
  rw [rounds_succ]
  go_wp2
  go_ret
  exact ⟨rfl, rfl⟩
theorem eq_Short_r (w : World) : (binOp .eql 77 eShort eRec).run Tryd.prog w = .ok (.bool false) w := by kernel_rfl
set_option maxHeartbeats 1000000 in
set_option maxRecDepth 100000 in
theorem is_Short_r (w : World) : Calls Tryd.prog 100 #[eShort, eRec] w fun e w' => e = .returned (.bool false) ∧ w = w' := by
  have h8 := callTypeOf
  have h32 := callComparable
  have k1 := typeOf_r
  have k2 := isComparable_r
  have k3 := isMethodComparable
  have k4 := eq_Short_r 
  have k5 := noIs_Short
  have k6 := noUn_Short
  have k7 := noUs_Short
  go_enter Tryd.func100, Tryd.ntmps100
  go_wp2
  refine wp_loop_rounds 1 ?_
  rw [rounds_succ]
  go_wp2
  go_ret
  exact ⟨rfl, rfl⟩
theorem noIs_Rec (v : Value) (xT : TypeId) (w : World) : (Instr.typeAssert (.iface 243 v) xT 200 true).run Tryd.prog w = .ok (.tuple #[.nilIface, .bool false]) w := run_typeAssert_lacksB Tryd.underlying200 (by kernel_rfl) (by kernel_rfl) v xT w
theorem noUn_Rec (v : Value) (xT : TypeId) (w : World) : (Instr.typeAssert (.iface 243 v) xT 203 true).run Tryd.prog w = .ok (.tuple #[.nilIface, .bool false]) w := run_typeAssert_lacksB Tryd.underlying203 (by kernel_rfl) (by kernel_rfl) v xT w
theorem noUs_Rec (v : Value) (xT : TypeId) (w : World) : (Instr.typeAssert (.iface 243 v) xT 205 true).run Tryd.prog w = .ok (.tuple #[.nilIface, .bool false]) w := run_typeAssert_lacksB Tryd.underlying205 (by kernel_rfl) (by kernel_rfl) v xT w
theorem eq_Rec_s (w : World) : (binOp .eql 77 eRec eShort).run Tryd.prog w = .ok (.bool false) w := by kernel_rfl
set_option maxHeartbeats 1000000 in
set_option maxRecDepth 100000 in
theorem is_Rec_s (w : World) : Calls Tryd.prog 100 #[eRec, eShort] w fun e w' => e = .returned (.bool false) ∧ w = w' := by
  have h8 := callTypeOf
  have h32 := callComparable
  have k1 := typeOf_s
  have k2 := isComparable_s
  have k3 := isMethodComparable
  have k4 := eq_Rec_s 
  have k5 := noIs_Rec
  have k6 := noUn_Rec
  have k7 := noUs_Rec
  go_enter Tryd.func100, Tryd.ntmps100
  go_wp2
  refine wp_loop_rounds 1 ?_
  rw [rounds_succ]
  go_wp2
  go_ret
  exact ⟨rfl, rfl⟩
theorem eq_Rec_r (w : World) : (binOp .eql 77 eRec eRec).run Tryd.prog w = .ok (.bool true) w := by kernel_rfl
set_option maxHeartbeats 1000000 in
set_option maxRecDepth 100000 in
theorem is_Rec_r (w : World) : Calls Tryd.prog 100 #[eRec, eRec] w fun e w' => e = .returned (.bool true) ∧ w = w' := by
  have h8 := callTypeOf
  have h32 := callComparable
  have k1 := typeOf_r
  have k2 := isComparable_r
  have k3 := isMethodComparable
  have k4 := eq_Rec_r 
  go_enter Tryd.func100, Tryd.ntmps100
  go_wp2
  refine wp_loop_rounds 1 ?_
  rw [rounds_succ]
  go_wp2
  go_ret
  exact ⟨rfl, rfl⟩
theorem noIs_Type (v : Value) (xT : TypeId) (w : World) : (Instr.typeAssert (.iface 149 v) xT 200 true).run Tryd.prog w = .ok (.tuple #[.nilIface, .bool false]) w := run_typeAssert_lacksB Tryd.underlying200 (by kernel_rfl) (by kernel_rfl) v xT w
theorem noUn_Type (v : Value) (xT : TypeId) (w : World) : (Instr.typeAssert (.iface 149 v) xT 203 true).run Tryd.prog w = .ok (.tuple #[.nilIface, .bool false]) w := run_typeAssert_lacksB Tryd.underlying203 (by kernel_rfl) (by kernel_rfl) v xT w
theorem noUs_Type (v : Value) (xT : TypeId) (w : World) : (Instr.typeAssert (.iface 149 v) xT 205 true).run Tryd.prog w = .ok (.tuple #[.nilIface, .bool false]) w := run_typeAssert_lacksB Tryd.underlying205 (by kernel_rfl) (by kernel_rfl) v xT w
theorem eq_Type_s (m t : Int) (w : World) : (binOp .eql 77 (eType m t) eShort).run Tryd.prog w = .ok (.bool false) w := by kernel_rfl
set_option maxHeartbeats 1000000 in
set_option maxRecDepth 100000 in
theorem is_Type_s (m t : Int) (w : World) : Calls Tryd.prog 100 #[(eType m t), eShort] w fun e w' => e = .returned (.bool false) ∧ w = w' := by
  have h8 := callTypeOf
  have h32 := callComparable
  have k1 := typeOf_s
  have k2 := isComparable_s
  have k3 := isMethodComparable
  have k4 := eq_Type_s m t
  have k5 := noIs_Type
  have k6 := noUn_Type
  have k7 := noUs_Type
  go_enter Tryd.func100, Tryd.ntmps100
  go_wp2
  refine wp_loop_rounds 1 ?_
  rw [rounds_succ]
  go_wp2
  go_ret
  exact ⟨rfl, rfl⟩
theorem eq_Type_r (m t : Int) (w : World) : (binOp .eql 77 (eType m t) eRec).run Tryd.prog w = .ok (.bool false) w := by kernel_rfl
set_option maxHeartbeats 1000000 in
set_option maxRecDepth 100000 in
theorem is_Type_r (m t : Int) (w : World) : Calls Tryd.prog 100 #[(eType m t), eRec] w fun e w' => e = .returned (.bool false) ∧ w = w' := by
  have h8 := callTypeOf
  have h32 := callComparable
  have k1 := typeOf_r
  have k2 := isComparable_r
  have k3 := isMethodComparable
  have k4 := eq_Type_r m t
  have k5 := noIs_Type
  have k6 := noUn_Type
  have k7 := noUs_Type
  go_enter Tryd.func100, Tryd.ntmps100
  go_wp2
  refine wp_loop_rounds 1 ?_
  rw [rounds_succ]
  go_wp2
  go_ret
  exact ⟨rfl, rfl⟩
theorem noIs_IOver (v : Value) (xT : TypeId) (w : World) : (Instr.typeAssert (.iface 144 v) xT 200 true).run Tryd.prog w = .ok (.tuple #[.nilIface, .bool false]) w := run_typeAssert_lacksB Tryd.underlying200 (by kernel_rfl) (by kernel_rfl) v xT w
theorem noUn_IOver (v : Value) (xT : TypeId) (w : World) : (Instr.typeAssert (.iface 144 v) xT 203 true).run Tryd.prog w = .ok (.tuple #[.nilIface, .bool false]) w := run_typeAssert_lacksB Tryd.underlying203 (by kernel_rfl) (by kernel_rfl) v xT w
theorem noUs_IOver (v : Value) (xT : TypeId) (w : World) : (Instr.typeAssert (.iface 144 v) xT 205 true).run Tryd.prog w = .ok (.tuple #[.nilIface, .bool false]) w := run_typeAssert_lacksB Tryd.underlying205 (by kernel_rfl) (by kernel_rfl) v xT w
theorem eq_IOver_s (m t : Int) (w : World) : (binOp .eql 77 (eIOver m t) eShort).run Tryd.prog w = .ok (.bool false) w := by kernel_rfl
set_option maxHeartbeats 1000000 in
set_option maxRecDepth 100000 in
theorem is_IOver_s (m t : Int) (w : World) : Calls Tryd.prog 100 #[(eIOver m t), eShort] w fun e w' => e = .returned (.bool false) ∧ w = w' := by
  have h8 := callTypeOf
  have h32 := callComparable
  have k1 := typeOf_s
  have k2 := isComparable_s
  have k3 := isMethodComparable
  have k4 := eq_IOver_s m t
  have k5 := noIs_IOver
  have k6 := noUn_IOver
  have k7 := noUs_IOver
  go_enter Tryd.func100, Tryd.ntmps100
  go_wp2
  refine wp_loop_rounds 1 ?_
  rw [rounds_succ]
  go_wp2
  go_ret
  exact ⟨rfl, rfl⟩
theorem eq_IOver_r (m t : Int) (w : World) : (binOp .eql 77 (eIOver m t) eRec).run Tryd.prog w = .ok (.bool false) w := by kernel_rfl
set_option maxHeartbeats 1000000 in
set_option maxRecDepth 100000 in
theorem is_IOver_r (m t : Int) (w : World) : Calls Tryd.prog 100 #[(eIOver m t), eRec] w fun e w' => e = .returned (.bool false) ∧ w = w' := by
  have h8 := callTypeOf
  have h32 := callComparable
  have k1 := typeOf_r
  have k2 := isComparable_r
  have k3 := isMethodComparable
  have k4 := eq_IOver_r m t
  have k5 := noIs_IOver
  have k6 := noUn_IOver
  have k7 := noUs_IOver
  go_enter Tryd.func100, Tryd.ntmps100
  go_wp2
  refine wp_loop_rounds 1 ?_
  rw [rounds_succ]
  go_wp2
  go_ret
  exact ⟨rfl, rfl⟩
theorem noIs_UOver (v : Value) (xT : TypeId) (w : World) : (Instr.typeAssert (.iface 151 v) xT 200 true).run Tryd.prog w = .ok (.tuple #[.nilIface, .bool false]) w := run_typeAssert_lacksB Tryd.underlying200 (by kernel_rfl) (by kernel_rfl) v xT w
theorem noUn_UOver (v : Value) (xT : TypeId) (w : World) : (Instr.typeAssert (.iface 151 v) xT 203 true).run Tryd.prog w = .ok (.tuple #[.nilIface, .bool false]) w := run_typeAssert_lacksB Tryd.underlying203 (by kernel_rfl) (by kernel_rfl) v xT w
theorem noUs_UOver (v : Value) (xT : TypeId) (w : World) : (Instr.typeAssert (.iface 151 v) xT 205 true).run Tryd.prog w = .ok (.tuple #[.nilIface, .bool false]) w := run_typeAssert_lacksB Tryd.underlying205 (by kernel_rfl) (by kernel_rfl) v xT w
theorem eq_UOver_s (m t : Int) (w : World) : (binOp .eql 77 (eUOver m t) eShort).run Tryd.prog w = .ok (.bool false) w := by kernel_rfl
set_option maxHeartbeats 1000000 in
set_option maxRecDepth 100000 in
theorem is_UOver_s (m t : Int) (w : World) : Calls Tryd.prog 100 #[(eUOver m t), eShort] w fun e w' => e = .returned (.bool false) ∧ w = w' := by
  have h8 := callTypeOf
  have h32 := callComparable
  have k1 := typeOf_s
  have k2 := isComparable_s
  have k3 := isMethodComparable
  have k4 := eq_UOver_s m t
  have k5 := noIs_UOver
  have k6 := noUn_UOver
  have k7 := noUs_UOver
  go_enter Tryd.func100, Tryd.ntmps100
  go_wp2
  refine wp_loop_rounds 1 ?_
  rw [rounds_succ]
  go_wp2
  go_ret
  exact ⟨rfl, rfl⟩
theorem eq_UOver_r (m t : Int) (w : World) : (binOp .eql 77 (eUOver m t) eRec).run Tryd.prog w = .ok (.bool false) w := by kernel_rfl
set_option maxHeartbeats 1000000 in
set_option maxRecDepth 100000 in
theorem is_UOver_r (m t : Int) (w : World) : Calls Tryd.prog 100 #[(eUOver m t), eRec] w fun e w' => e = .returned (.bool false) ∧ w = w' := by
  have h8 := callTypeOf
  have h32 := callComparable
  have k1 := typeOf_r
  have k2 := isComparable_r
  have k3 := isMethodComparable
  have k4 := eq_UOver_r m t
  have k5 := noIs_UOver
  have k6 := noUn_UOver
  have k7 := noUs_UOver
  go_enter Tryd.func100, Tryd.ntmps100
  go_wp2
  refine wp_loop_rounds 1 ?_
  rw [rounds_succ]
  go_wp2
  go_ret
  exact ⟨rfl, rfl⟩
theorem noIs_Pre (v : Value) (xT : TypeId) (w : World) : (Instr.typeAssert (.iface 152 v) xT 200 true).run Tryd.prog w = .ok (.tuple #[.nilIface, .bool false]) w := run_typeAssert_lacksB Tryd.underlying200 (by kernel_rfl) (by kernel_rfl) v xT w
theorem noUn_Pre (v : Value) (xT : TypeId) (w : World) : (Instr.typeAssert (.iface 152 v) xT 203 true).run Tryd.prog w = .ok (.tuple #[.nilIface, .bool false]) w := run_typeAssert_lacksB Tryd.underlying203 (by kernel_rfl) (by kernel_rfl) v xT w
theorem noUs_Pre (v : Value) (xT : TypeId) (w : World) : (Instr.typeAssert (.iface 152 v) xT 205 true).run Tryd.prog w = .ok (.tuple #[.nilIface, .bool false]) w := run_typeAssert_lacksB Tryd.underlying205 (by kernel_rfl) (by kernel_rfl) v xT w
theorem eq_Pre_s (m : Int) (w : World) : (binOp .eql 77 (ePre m) eShort).run Tryd.prog w = .ok (.bool false) w := by kernel_rfl
set_option maxHeartbeats 1000000 in
set_option maxRecDepth 100000 in
theorem is_Pre_s (m : Int) (w : World) : Calls Tryd.prog 100 #[(ePre m), eShort] w fun e w' => e = .returned (.bool false) ∧ w = w' := by
  have h8 := callTypeOf
  have h32 := callComparable
  have k1 := typeOf_s
  have k2 := isComparable_s
  have k3 := isMethodComparable
  have k4 := eq_Pre_s m
  have k5 := noIs_Pre
  have k6 := noUn_Pre
  have k7 := noUs_Pre
  go_enter Tryd.func100, Tryd.ntmps100
  go_wp2
  refine wp_loop_rounds 1 ?_
  rw [rounds_succ]
  go_wp2
  go_ret
  exact ⟨rfl, rfl⟩
theorem eq_Pre_r (m : Int) (w : World) : (binOp .eql 77 (ePre m) eRec).run Tryd.prog w = .ok (.bool false) w := by kernel_rfl
set_option maxHeartbeats 1000000 in
set_option maxRecDepth 100000 in
theorem is_Pre_r (m : Int) (w : World) : Calls Tryd.prog 100 #[(ePre m), eRec] w fun e w' => e = .returned (.bool false) ∧ w = w' := by
  have h8 := callTypeOf
  have h32 := callComparable
  have k1 := typeOf_r
  have k2 := isComparable_r
  have k3 := isMethodComparable
  have k4 := eq_Pre_r m
  have k5 := noIs_Pre
  have k6 := noUn_Pre
  have k7 := noUs_Pre
  go_enter Tryd.func100, Tryd.ntmps100
  go_wp2
  refine wp_loop_rounds 1 ?_
  rw [rounds_succ]
  go_wp2
  go_ret
  exact ⟨rfl, rfl⟩
theorem noIs_Ext (v : Value) (xT : TypeId) (w : World) : (Instr.typeAssert (.iface 154 v) xT 200 true).run Tryd.prog w = .ok (.tuple #[.nilIface, .bool false]) w := run_typeAssert_lacksB Tryd.underlying200 (by kernel_rfl) (by kernel_rfl) v xT w
theorem noUn_Ext (v : Value) (xT : TypeId) (w : World) : (Instr.typeAssert (.iface 154 v) xT 203 true).run Tryd.prog w = .ok (.tuple #[.nilIface, .bool false]) w := run_typeAssert_lacksB Tryd.underlying203 (by kernel_rfl) (by kernel_rfl) v xT w
theorem noUs_Ext (v : Value) (xT : TypeId) (w : World) : (Instr.typeAssert (.iface 154 v) xT 205 true).run Tryd.prog w = .ok (.tuple #[.nilIface, .bool false]) w := run_typeAssert_lacksB Tryd.underlying205 (by kernel_rfl) (by kernel_rfl) v xT w
theorem eq_Ext_s (m t : Int) (w : World) : (binOp .eql 77 (eExt m t) eShort).run Tryd.prog w = .ok (.bool false) w := by kernel_rfl
set_option maxHeartbeats 1000000 in
set_option maxRecDepth 100000 in
theorem is_Ext_s (m t : Int) (w : World) : Calls Tryd.prog 100 #[(eExt m t), eShort] w fun e w' => e = .returned (.bool false) ∧ w = w' := by
  have h8 := callTypeOf
  have h32 := callComparable
  have k1 := typeOf_s
  have k2 := isComparable_s
  have k3 := isMethodComparable
  have k4 := eq_Ext_s m t
  have k5 := noIs_Ext
  have k6 := noUn_Ext
  have k7 := noUs_Ext
  go_enter Tryd.func100, Tryd.ntmps100
  go_wp2
  refine wp_loop_rounds 1 ?_
  rw [rounds_succ]
  go_wp2
  go_ret
  exact ⟨rfl, rfl⟩
theorem eq_Ext_r (m t : Int) (w : World) : (binOp .eql 77 (eExt m t) eRec).run Tryd.prog w = .ok (.bool false) w := by kernel_rfl
set_option maxHeartbeats 1000000 in
set_option maxRecDepth 100000 in
theorem is_Ext_r (m t : Int) (w : World) : Calls Tryd.prog 100 #[(eExt m t), eRec] w fun e w' => e = .returned (.bool false) ∧ w = w' := by
  have h8 := callTypeOf
  have h32 := callComparable
  have k1 := typeOf_r
  have k2 := isComparable_r
  have k3 := isMethodComparable
  have k4 := eq_Ext_r m t
  have k5 := noIs_Ext
  have k6 := noUn_Ext
  have k7 := noUs_Ext
  go_enter Tryd.func100, Tryd.ntmps100
  go_wp2
  refine wp_loop_rounds 1 ?_
  rw [rounds_succ]
  go_wp2
  go_ret
  exact ⟨rfl, rfl⟩
theorem noIs_Below (v : Value) (xT : TypeId) (w : World) : (Instr.typeAssert (.iface 164 v) xT 200 true).run Tryd.prog w = .ok (.tuple #[.nilIface, .bool false]) w := run_typeAssert_lacksB Tryd.underlying200 (by kernel_rfl) (by kernel_rfl) v xT w
theorem noUn_Below (v : Value) (xT : TypeId) (w : World) : (Instr.typeAssert (.iface 164 v) xT 203 true).run Tryd.prog w = .ok (.tuple #[.nilIface, .bool false]) w := run_typeAssert_lacksB Tryd.underlying203 (by kernel_rfl) (by kernel_rfl) v xT w
theorem noUs_Below (v : Value) (xT : TypeId) (w : World) : (Instr.typeAssert (.iface 164 v) xT 205 true).run Tryd.prog w = .ok (.tuple #[.nilIface, .bool false]) w := run_typeAssert_lacksB Tryd.underlying205 (by kernel_rfl) (by kernel_rfl) v xT w
theorem eq_Below_s (m : Int) (w : World) : (binOp .eql 77 (eBelow m) eShort).run Tryd.prog w = .ok (.bool false) w := by kernel_rfl
set_option maxHeartbeats 1000000 in
set_option maxRecDepth 100000 in
theorem is_Below_s (m : Int) (w : World) : Calls Tryd.prog 100 #[(eBelow m), eShort] w fun e w' => e = .returned (.bool false) ∧ w = w' := by
  have h8 := callTypeOf
  have h32 := callComparable
  have k1 := typeOf_s
  have k2 := isComparable_s
  have k3 := isMethodComparable
  have k4 := eq_Below_s m
  have k5 := noIs_Below
  have k6 := noUn_Below
  have k7 := noUs_Below
  go_enter Tryd.func100, Tryd.ntmps100
  go_wp2
  refine wp_loop_rounds 1 ?_
  rw [rounds_succ]
  go_wp2
  go_ret
  exact ⟨rfl, rfl⟩
theorem eq_Below_r (m : Int) (w : World) : (binOp .eql 77 (eBelow m) eRec).run Tryd.prog w = .ok (.bool false) w := by kernel_rfl
set_option maxHeartbeats 1000000 in
set_option maxRecDepth 100000 in
theorem is_Below_r (m : Int) (w : World) : Calls Tryd.prog 100 #[(eBelow m), eRec] w fun e w' => e = .returned (.bool false) ∧ w = w' := by
  have h8 := callTypeOf
  have h32 := callComparable
  have k1 := typeOf_r
  have k2 := isComparable_r
  have k3 := isMethodComparable
  have k4 := eq_Below_r m
  have k5 := noIs_Below
  have k6 := noUn_Below
  have k7 := noUs_Below
  go_enter Tryd.func100, Tryd.ntmps100
  go_wp2
  refine wp_loop_rounds 1 ?_
  rw [rounds_succ]
  go_wp2
  go_ret
  exact ⟨rfl, rfl⟩

end Go.Proofs.YtpmdlbbgljcloaaDoor
