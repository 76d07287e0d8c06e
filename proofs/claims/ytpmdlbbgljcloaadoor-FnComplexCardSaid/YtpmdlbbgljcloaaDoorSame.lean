/- The laws' test 'same' of two byte slices that read alike: true, and nothing has turned. Conditions: both read as the same bytes. -/
import Derived.Test.YtpmdlbbgljcloaaDoorPure
import Derived.Laws.BytesArg
namespace Go.Proofs.YtpmdlbbgljcloaaDoor
open Go Go.RowKit

/-- A byte slice made into a string. -/
theorem run_string_of {w : World} {A : Option Addr} {l : List Int} (h : Rd w A l) (n c : Nat) (hn : l.length = n) :
    (convert 22 9 (.slice A n c)).run Tryd.prog w = .ok (.string (strOfNums l)) w := by
  subst hn
  rcases Nat.eq_zero_or_pos l.length with h0 | h0
  · obtain rfl := List.eq_nil_of_length_eq_zero h0
    rcases A with _ | ⟨g, o, s⟩
    · exact run_convert_bytes_nil (P := Tryd.prog) w 22 5 Tryd.underlying22 Tryd.underlying5 _ c _ Tryd.underlying9
    · have hl : (loadCells ⟨g, o, s⟩ 0).run Tryd.prog w = .ok #[] w := by simpa using run_loadCells_list (P := Tryd.prog) w ⟨g, o, s⟩ [] (by simp)
      rw [run_convert_bytes_string w 22 9 5 _ _ c Tryd.underlying22 Tryd.underlying5 Tryd.underlying9]
      exact run_bytesToString w _ 0 c [] hl
  · obtain ⟨g, o, rfl, -, -, hc⟩ := h.open_ h0
    exact run_convert_bytes_arg (P := Tryd.prog) w 22 5 Tryd.underlying22 Tryd.underlying5 g o l.length c l rfl hc _ Tryd.underlying9

set_option maxHeartbeats 400000 in
theorem same_c (A B : Option Addr) (n c d : Nat) (l : List Int) (w : World) (ha : Rd w A l) (hb : Rd w B l) (hn : l.length = n) : Calls Tryd.prog 15 #[.slice A n c, .slice B n d] w fun e w' => e = .returned (.bool true) ∧ w = w' := by
  have k1 := run_string_of ha n c hn
  have k2 := run_string_of hb n d hn
  clear hn
  go_enter Tryd.func15, Tryd.ntmps15
  go_wp2
  go_ret
  exact ⟨rfl, rfl⟩

/-- One step more, behind an allocation. -/
theorem below_via {w w1 w2 : World} {o : Obj} (h : Below w.heap.size w w1) (hb : Below (w1.alloc o).heap.size (w1.alloc o) w2) : Below w.heap.size w w2 :=
  h.trans ((((Below.refl _ _).alloc (Nat.le_refl _) o).trans (hb.mono (by simp))).mono h.size)
/-- One step more. -/
theorem below_step {w w1 w2 : World} (h : Below w.heap.size w w1) (hb : Below w1.heap.size w1 w2) : Below w.heap.size w w2 := h.trans (hb.mono h.size)
/-- One step more, behind an allocation, that spares what was there ahead of it. -/
theorem below_over {w w1 w2 : World} {o : Obj} (h : Below w.heap.size w w1) (hb : Below w1.heap.size (w1.alloc o) w2) : Below w.heap.size w w2 :=
  h.trans ((((Below.refl _ _).alloc (Nat.le_refl _) o).trans hb).mono h.size)
end Go.Proofs.YtpmdlbbgljcloaaDoor
