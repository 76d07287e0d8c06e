/- The laws' test 'same' of two byte slices that read alike: true, and nothing has turned. Conditions: both read as the same bytes. -/
import Derived.Test.YtbikbanmdepakaaPure
import Derived.Laws.BytesArg
namespace Go.Proofs.Ytbikbanmdepakaa
open Go Go.RowKit

/-- A byte slice made into a string. -/
theorem run_string_of {w : World} {A : Option Addr} {l : List Int} (h : Rd w A l) (n c : Nat) (hn : l.length = n) :
    (convert 23 9 (.slice A n c)).run Try.prog w = .ok (.string (strOfNums l)) w := by
  subst hn
  rcases Nat.eq_zero_or_pos l.length with h0 | h0
  · obtain rfl := List.eq_nil_of_length_eq_zero h0
    rcases A with _ | ⟨g, o, s⟩
    · exact run_convert_bytes_nil (P := Try.prog) w 23 5 Try.underlying23 Try.underlying5 _ c _ Try.underlying9
    · have hl : (loadCells ⟨g, o, s⟩ 0).run Try.prog w = .ok #[] w := by simpa using run_loadCells_list (P := Try.prog) w ⟨g, o, s⟩ [] (by simp)
      rw [run_convert_bytes_string w 23 9 5 _ _ c Try.underlying23 Try.underlying5 Try.underlying9]
      exact run_bytesToString w _ 0 c [] hl
  · obtain ⟨g, o, rfl, -, -, hc⟩ := h.open_ h0
    exact run_convert_bytes_arg (P := Try.prog) w 23 5 Try.underlying23 Try.underlying5 g o l.length c l rfl hc _ Try.underlying9

set_option maxHeartbeats 400000 in
theorem same_c (A B : Option Addr) (n c d : Nat) (l : List Int) (w : World) (ha : Rd w A l) (hb : Rd w B l) (hn : l.length = n) : Calls Try.prog 5 #[.slice A n c, .slice B n d] w fun e w' => e = .returned (.bool true) ∧ w = w' := by
  have k1 := run_string_of ha n c hn
  have k2 := run_string_of hb n d hn
  clear hn
  go_enter Try.func5, Try.ntmps5
  go_wp2
  go_ret
  exact ⟨rfl, rfl⟩
end Go.Proofs.Ytbikbanmdepakaa
