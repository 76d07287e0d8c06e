/- Go's slices.Clone at a byte slice, walked: a new row that reads the same, or nil. Conditions: at most 10^12 bytes. -/
import Derived.Test.YtpmdlbbgljcloaaDoorPure
namespace Go.Proofs.YtpmdlbbgljcloaaDoor
open Go Go.RowKit
set_option maxHeartbeats 400000 in
theorem clone_c (A : Option Addr) (n c : Nat) (l : List Int) (w : World) (hr : Rd w A l) (hn : l.length = n) (hle : n ≤ 1000000000000) : Calls Tryd.prog 53 #[.slice A n c] w (Made w l) := by
  rcases A with _ | ad
  · have hl : l = [] := by
      rcases Nat.eq_zero_or_pos l.length with h0 | h0
      · exact List.eq_nil_of_length_eq_zero h0
      · obtain ⟨g, o, e, _⟩ := hr.2 h0; cases e
    subst hl
    have heq := fun w : World => Lib.run_eql_slice_nil (P := Tryd.prog) w 22 5 none n c 0 0 Tryd.underlying22
    clear hn
    go_enter Tryd.func53, Tryd.ntmps53
    go_wp2_with fail
    go_ret
    exact ⟨_, rfl, World.ownsRow_nil _ _ _ _, Below.refl _ _⟩
  · have heq := fun w : World => Lib.run_eql_slice_nil (P := Tryd.prog) w 22 5 (some ad) n c 0 0 Tryd.underlying22
    have hlen : ([] : List Int).length + l.length ≤ 1000000000000 := by simp; omega
    have HN : Hid (l.length = n) := hn
    clear hn
    go_enter Tryd.func53, Tryd.ntmps53
    go_wp2_with (at_builtin; refine app_own rfl _ _ rfl w.heap.size _ [] rfl (own_lit w [] #[] 0 rfl rfl (by omega)) (some ad) n c l rfl (hr.alloc _) HN.out hlen (by simp) ?_; intro v1 w1 hown1 hb1)
    go_ret
    exact ⟨_, rfl, hown1, ((Below.refl _ _).alloc (Nat.le_refl _) _).trans hb1⟩
end Go.Proofs.YtpmdlbbgljcloaaDoor
