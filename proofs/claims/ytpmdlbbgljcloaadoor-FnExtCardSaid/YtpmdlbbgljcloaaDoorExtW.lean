/- msgp's RawExtension: Len, ExtensionType and MarshalBinaryTo, walked. Conditions: the struct's two cells hold a byte slice and a type. -/
import Derived.Test.YtpmdlbbgljcloaaDoorRow
namespace Go.Proofs.YtpmdlbbgljcloaaDoor
open Go Go.RowKit
set_option linter.unusedVariables false

/-- The struct at p holds this slice and this type. -/
def ExtAt (w : World) (p : Nat) (v : Value) (t : Int) : Prop := w.cell? ⟨p, 0, none⟩ = some v ∧ w.cell? ⟨p, 1, none⟩ = some (.int .i8 t)
theorem ExtAt.mono {w w' : World} {p : Nat} {v : Value} {t : Int} (h : ExtAt w p v t) (hb : Below w.heap.size w w') : ExtAt w' p v t := by
  have hp := World.block_lt_of_cell? w _ h.1
  exact ⟨(hb.cell (p := ⟨p, 0, none⟩) hp).trans h.1, (hb.cell (p := ⟨p, 1, none⟩) hp).trans h.2⟩

set_option maxHeartbeats 1000000 in
theorem len_e (p m c : Nat) (A : Option Addr) (t : Int) (w : World) (h : ExtAt w p (.slice A m c) t) : Calls Tryd.prog 157 #[.pointer (some ⟨p, 0, none⟩)] w fun e w' => e = .returned (.int .i64 m) ∧ w = w' := by
  obtain ⟨c0, c1⟩ := h
  go_enter Tryd.func157, Tryd.ntmps157
  go_wp2_with fail
  go_ret
  exact ⟨rfl, rfl⟩
set_option maxHeartbeats 1000000 in
theorem type_e (p : Nat) (v : Value) (t : Int) (w : World) (h : ExtAt w p v t) : Calls Tryd.prog 156 #[.pointer (some ⟨p, 0, none⟩)] w fun e w' => e = .returned (.int .i8 t) ∧ w = w' := by
  obtain ⟨c0, c1⟩ := h
  go_enter Tryd.func156, Tryd.ntmps156
  go_wp2_with fail
  go_ret
  exact ⟨rfl, rfl⟩
set_option maxHeartbeats 1000000 in
set_option maxRecDepth 100000 in
theorem marshal_e (p m c g off q r : Nat) (A : Option Addr) (t : Int) (x cur : List Int) (w : World) (h : ExtAt w p (.slice A m c) t) (hr : Rd w A x) (hm : x.length = m) (hrow : RowI w g cur) (hq : m ≤ q) (hfit : off + m ≤ cur.length) :
    Calls Tryd.prog 158 #[.pointer (some ⟨p, 0, none⟩), .slice (some ⟨g, off, none⟩) q r] w fun e w' => e = .returned .nilIface ∧ RowI w' g (splice cur off x) ∧ Below g w w' := by
  obtain ⟨c0, c1⟩ := h
  have HM : Hid (x.length = m) := hm
  clear hm
  go_enter Tryd.func158, Tryd.ntmps158
  go_wp2_with (refine copy_rd rfl (.tmp 5) (.tmp 9) (by rfl) _ _ _ _ _ _ (by rfl) (by rfl) g off cur hrow x (by rw [HM.out]; exact (Nat.min_eq_left hq).symm) (fun _ => rfl) (by rw [HM.out]; exact hfit) hr g w (Below.refl _ _) (Nat.le_refl _) ?_; intro w3 hrow3 hb3)
  go_ret
  exact ⟨rfl, hrow3, hb3⟩
end Go.Proofs.YtpmdlbbgljcloaaDoor
