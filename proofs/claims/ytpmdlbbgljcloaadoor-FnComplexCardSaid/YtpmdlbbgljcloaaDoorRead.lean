/- What readers answer, as plain data: the errors with their codes; and the package's badPrefix, walked. Conditions: the two sentinels' variables hold what the program lays in them. -/
import Derived.Test.YtpmdlbbgljcloaaDoorCode
import Derived.Test.YtpmdlbbgljcloaaDoorBig
import Derived.Test.YtpmdlbbgljcloaaDoorGetSpec
import Derived.Test.YtpmdlbbgljcloaaDoorClone
namespace Go.Proofs.YtpmdlbbgljcloaaDoor
open Go Go.RowKit Go.Lib

/-- The errors. -/
inductive Er where
  | ok
  | short
  | deep
  | type (m t : Int)
  | iover (m t : Int)
  | uover (m t : Int)
  | pre (m : Int)
  | ext (m t : Int)
  | below (m : Int)
/-- .. as Go's values. -/
abbrev Er.val : Er → Value
  | .ok => .nilIface
  | .short => eShort
  | .deep => eRec
  | .type m t => eType m t
  | .iover m t => eIOver m t
  | .uover m t => eUOver m t
  | .pre m => ePre m
  | .ext m t => eExt m t
  | .below m => eBelow m
/-- .. their codes. -/
def Er.code : Er → Int
  | .ok => 0
  | .short => 1
  | .deep => 6
  | .type _ _ => 2
  | .iover _ _ => 3
  | .uover _ _ => 3
  | .pre _ => 4
  | .ext _ _ => 6
  | .below _ => 5

theorem codeOf_c (e : Er) (w : World) (hG : Glob w) : Calls Tryd.prog 55 #[e.val] w fun x w' => x = .returned (.int .i64 e.code) ∧ Below w.heap.size w w' := by
  cases e with
  | ok => exact (codeOf_nil w).mono fun _ _ ⟨h1, h2⟩ => ⟨h1, h2 ▸ Below.refl _ _⟩
  | short => exact codeOf_Short w hG
  | deep => exact codeOf_Rec w hG
  | type m t => exact codeOf_Type m t w hG
  | iover m t => exact codeOf_IOver m t w hG
  | uover m t => exact codeOf_UOver m t w hG
  | pre m => exact codeOf_Pre m w hG
  | ext m t => exact codeOf_Ext m t w hG
  | below m => exact codeOf_Below m w hG

/-- 'The call answers v, a rest of k bytes, and this error.' -/
def Ret3 (w : World) (v : Value) (k : Nat) (x : Er) (e : Ending) (w' : World) : Prop := ∃ A c, e = .returned (.tuple #[v, .slice A k c, x.val]) ∧ Below w.heap.size w w'
/-- 'The call answers a rest of k bytes, and this error.' -/
def Ret2 (w : World) (k : Nat) (x : Er) (e : Ending) (w' : World) : Prop := ∃ A c, e = .returned (.tuple #[.slice A k c, x.val]) ∧ Below w.heap.size w w'

/-- What badPrefix answers. -/
def bp (m c : Int) : Er := if bty c = 0 then .pre c else .type m (bty c)

set_option maxRecDepth 100000 in
theorem and224 (x : Int) (h0 : 0 ≤ x) (h1 : x < 256) : bits .and .u8 x 224 = x / 32 * 32 := by
  rw [u8_and x 224 h0 h1 (by omega) (by omega)]
  show ((x.toNat &&& 224 : Nat) : Int) = x / 32 * 32
  have key : ∀ y : Fin 256, (y.val &&& 224) = y.val / 32 * 32 := by decide
  have := key ⟨x.toNat, by omega⟩
  simp only at this
  rw [this]
  omega
set_option maxRecDepth 100000 in
theorem and240 (x : Int) (h0 : 0 ≤ x) (h1 : x < 256) : bits .and .u8 x 240 = x / 16 * 16 := by
  rw [u8_and x 240 h0 h1 (by omega) (by omega)]
  show ((x.toNat &&& 240 : Nat) : Int) = x / 16 * 16
  have key : ∀ y : Fin 256, (y.val &&& 240) = y.val / 16 * 16 := by decide
  have := key ⟨x.toNat, by omega⟩
  simp only at this
  rw [this]
  omega
def InT (k : Int) : Prop := 0 ≤ k ∧ k ≤ 12
theorem int_ite {p : Prop} [Decidable p] {a b : Int} (ha : InT a) (hb : InT b) : InT (if p then a else b) := by split <;> assumption
theorem int_mk {k : Int} (h : 0 ≤ k ∧ k ≤ 12) : InT k := h
theorem bty_range (c : Int) : InT (bty c) := by
  unfold bty
  repeat' (first | exact int_mk (by decide) | refine int_ite ?_ ?_)

theorem field_typ (c : Int) (w : World) : (Instr.field 195 (bval c) 2).run Tryd.prog w = .ok (.int .u8 (bty c)) w := by kernel_rfl

set_option maxHeartbeats 1000000 in
set_option maxRecDepth 100000 in
theorem badPrefix_c (m c : Int) (w : World) (h0 : 0 ≤ c) (h1 : c < 256) : Calls Tryd.prog 108 #[.int .u8 m, .int .u8 c] w fun e w' => e = .returned (bp m c).val ∧ Below w.heap.size w w' := by
  by_cases hb : bty c = 0
  · have hv : bp m c = .pre c := by rw [bp, if_pos hb]
    rw [hv]
    clear hv
    have hbb : (bty c == 0) = true := by simp [hb]
    clear hb
    have hf := field_typ c
    go_enter Tryd.func108, Tryd.ntmps108
    go_wp2_with (first | (go_at_call 136; refine (getBytespec_c _ _ h0 h1).mono ?_; rintro e w' ⟨rfl, rfl⟩) | go_in)
    go_ret
    exact ⟨rfl, by repeat (first | exact Below.refl _ _ | (refine Below.alloc ?_ (by simp <;> omega) _))⟩
  · have hv : bp m c = .type m (bty c) := by rw [bp, if_neg hb]
    rw [hv]
    clear hv
    have hbb : (bty c == 0) = false := by simp [hb]
    clear hb
    have hf := field_typ c
    go_enter Tryd.func108, Tryd.ntmps108
    go_wp2_with (first | (go_at_call 136; refine (getBytespec_c _ _ h0 h1).mono ?_; rintro e w' ⟨rfl, rfl⟩) | go_in)
    go_ret
    exact ⟨rfl, by repeat (first | exact Below.refl _ _ | (refine Below.alloc ?_ (by simp <;> omega) _))⟩

end Go.Proofs.YtpmdlbbgljcloaaDoor
