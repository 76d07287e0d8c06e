/- The laws' helper 'fails', walked: whether a code is right where an object is not of a kind. And what a wrong first byte tells. Conditions: none. -/
import Derived.Test.YtmhilpnagpkkiaaDoorRead
import Derived.Test.YtmhilpnagpkkiaaDoorHeadDefs
namespace Go.Proofs.YtmhilpnagpkkiaaDoor
open Go Go.RowKit Go.Lib
set_option linter.unusedVariables false

/-- Whether a code is right where an object is not of a kind. -/
def failsB (n : Nat) (k code : Int) : Bool := (code != 0) && (decide (0 < n) || code == 1) && (decide (n < 20) || k == 0 || code == 2)

set_option maxHeartbeats 1000000 in
set_option maxRecDepth 100000 in
theorem fails_c (A : Option Addr) (n c : Nat) (k x len t s : Int) (sh : Bool) (code : Int) (w : World) :
    Calls Tryd.prog 15 #[.slice A n c, Hd.val ⟨k, x, len, t, s, sh⟩, .int .i64 code] w fun e w' => e = .returned (.bool (failsB n k code)) ∧ Below w.heap.size w w' := by
  have hend : ∀ (o : Obj), Below w.heap.size w (w.alloc o) := fun o => (Below.refl _ _).alloc (Nat.le_refl _) o
  by_cases c0 : code = 0
  · subst c0
    have e : failsB n k 0 = false := rfl
    rw [e]
    clear e
    go_enter Tryd.func15, Tryd.ntmps15
    go_wp2_with fail
    go_ret
    exact ⟨rfl, hend _⟩
  have d0 : (code != 0) = true := by simp [c0]
  by_cases c1 : 0 < n ∨ code = 1
  · have e1 : failsB n k code = (decide (n < 20) || k == 0 || code == 2) := by
      unfold failsB
      rcases c1 with h | h
      · simp [c0, h]
      · subst h; simp
    rw [e1]
    clear e1
    by_cases c2 : n < 20
    · have e2 : (decide (n < 20) || k == 0 || code == 2) = true := by simp [c2]
      rw [e2]
      clear e2
      by_cases c3 : 0 < n
      · go_enter Tryd.func15, Tryd.ntmps15
        go_wp2_with fail
        go_ret
        exact ⟨by first | rfl | (simp [d0]; done) | (simp [d0, dn]; done), hend _⟩
      · obtain rfl : n = 0 := by omega
        obtain rfl : code = 1 := by omega
        go_enter Tryd.func15, Tryd.ntmps15
        go_wp2_with fail
        go_ret
        exact ⟨by first | rfl | (simp [d0]; done) | (simp [d0, dn]; done), hend _⟩
    · have c3 : 0 < n := by omega
      have dn : decide ((n : Int) < 20) = false := by simp; omega
      clear c1
      by_cases c4 : k = 0
      · subst c4
        have e2 : (decide (n < 20) || (0 : Int) == 0 || code == 2) = true := by simp
        rw [e2]
        clear e2
        go_enter Tryd.func15, Tryd.ntmps15
        go_wp2_with fail
        go_ret
        exact ⟨by first | rfl | (simp [d0]; done) | (simp [d0, dn]; done), hend _⟩
      · by_cases c5 : code = 2
        · subst c5
          have e2 : (decide (n < 20) || k == 0 || (2 : Int) == 2) = true := by simp
          rw [e2]
          clear e2
          go_enter Tryd.func15, Tryd.ntmps15
          go_wp2_with fail
          go_ret
          exact ⟨by first | rfl | (simp [d0]; done) | (simp [d0, dn]; done), hend _⟩
        · have e2 : (decide (n < 20) || k == 0 || code == 2) = false := by simp [c4, c5]; omega
          rw [e2]
          clear e2
          have d4 : (k == 0) = false := by simp [c4]
          have d5 : (code == 2) = false := by simp [c5]
          go_enter Tryd.func15, Tryd.ntmps15
          go_wp2_with fail
          go_ret
          exact ⟨by first | rfl | (simp [d0]; done) | (simp [d0, dn]; done), hend _⟩
  · have e1 : failsB n k code = false := by
      unfold failsB
      have h1 : ¬ 0 < n := fun h => c1 (.inl h)
      have h2 : ¬ code = 1 := fun h => c1 (.inr h)
      simp [h1, h2]
    rw [e1]
    clear e1
    obtain rfl : n = 0 := by omega
    have h2 : (code == 1) = false := by simp; omega
    go_enter Tryd.func15, Tryd.ntmps15
    go_wp2_with fail
    go_ret
    exact ⟨by first | rfl | (simp [d0]; done) | (simp [d0, dn]; done), hend _⟩

/-- The head's own row: its six cells. -/
def HCells (w : World) (g : Nat) (h : Hd) : Prop := w.cell? ⟨g, 0, none⟩ = some (.int .i64 h.kind) ∧ w.cell? ⟨g, 1, none⟩ = some (.int .u64 h.number) ∧ w.cell? ⟨g, 2, none⟩ = some (.int .i64 h.length) ∧ w.cell? ⟨g, 3, none⟩ = some (.int .i8 h.typ) ∧ w.cell? ⟨g, 4, none⟩ = some (.int .i64 h.size) ∧ w.cell? ⟨g, 5, none⟩ = some (.bool h.short)
theorem HCells.mono {w w' : World} {g : Nat} {h : Hd} (hc : HCells w g h) (hb : Below w.heap.size w w') : HCells w' g h := by
  obtain ⟨h0, h1, h2, h3, h4, h5⟩ := hc
  have hg : g < w.heap.size := World.block_lt_of_cell? w _ h0
  have key : ∀ o, w'.cell? ⟨g, o, none⟩ = w.cell? ⟨g, o, none⟩ := fun o => hb.cell hg
  exact ⟨(key 0).trans h0, (key 1).trans h1, (key 2).trans h2, (key 3).trans h3, (key 4).trans h4, (key 5).trans h5⟩
theorem hcells_new (w : World) (h : Hd) : HCells (w.alloc (.cells #[.int .i64 h.kind, .int .u64 h.number, .int .i64 h.length, .int .i8 h.typ, .int .i64 h.size, .bool h.short] 26)) w.heap.size h := by
  refine ⟨?_, ?_, ?_, ?_, ?_, ?_⟩ <;> simp

/-- Only the first byte 193 is of no kind. -/
theorem bty_zero (c : Int) (h0 : 0 ≤ c) (h1 : c < 256) (h : bty c = 0) : c = 193 := by
  have key : ∀ y : Fin 256, bty (y.val : Int) = 0 → y.val = 193 := by decide +kernel
  have := key ⟨c.toNat, by omega⟩
  simp only at this
  rw [show ((c.toNat : Nat) : Int) = c from Int.toNat_of_nonneg h0] at this
  have := this h
  omega

/-- A wrong first byte's code is right by 'fails', where the reference tells of kind 0 just at 193. -/
theorem fails_bp (l : List Int) (m k : Int) (hl : 0 < l.length) (hb : 0 ≤ at_ l 0 ∧ at_ l 0 < 256) (hk : at_ l 0 = 193 → k = 0) : failsB l.length k (bp m (at_ l 0)).code = true := by
  unfold failsB bp
  by_cases h : bty (at_ l 0) = 0
  · rw [if_pos h]
    have := hk (bty_zero _ hb.1 hb.2 h)
    simp [Er.code, this, hl]
  · rw [if_neg h]
    simp [Er.code, hl]
theorem fails_none (k : Int) : failsB 0 k 1 = true := by simp [failsB]
end Go.Proofs.YtmhilpnagpkkiaaDoor
