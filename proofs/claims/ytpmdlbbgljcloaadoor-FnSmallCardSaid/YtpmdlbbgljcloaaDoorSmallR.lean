/- msgp's ReadNilBytes and ReadBoolBytes, and the thin package's ReadNil and ReadBool, walked. Conditions: the slice reads as bytes; the two sentinels' variables hold what the program lays in them. -/
import Derived.Test.YtpmdlbbgljcloaaDoorRead
namespace Go.Proofs.YtpmdlbbgljcloaaDoor
open Go Go.RowKit Go.Lib
set_option linter.unusedVariables false

/-- What is left, and the error. -/
def rdNil (l : List Int) : Nat × Er := if l.length = 0 then (0, .short) else if at_ l 0 = 192 then (l.length - 1, .ok) else (l.length, bp 10 (at_ l 0))
/-- The value, what is left, and the error. -/
def rdBool (l : List Int) : Bool × Nat × Er := if l.length = 0 then (false, 0, .short) else if at_ l 0 = 195 then (true, l.length - 1, .ok) else if at_ l 0 = 194 then (false, l.length - 1, .ok) else (false, l.length, bp 7 (at_ l 0))

set_option maxHeartbeats 1000000 in
set_option maxRecDepth 100000 in
theorem readNilBytes_c (A : Option Addr) (n c : Nat) (l : List Int) (w : World) (hr : Rd w A l) (hn : l.length = n) (hnc : n ≤ c) (hm : c ≤ maxLen) (hG : Glob w) :
    Calls Tryd.prog 60 #[.slice A n c] w (Ret2 w (rdNil l).1 (rdNil l).2) := by
  obtain ⟨gs, gr⟩ := hG
  have HN : Hid (l.length = n) := hn
  have hm' : c ≤ 9223372036854775807 := by simp only [maxLen] at hm; omega
  clear hm
  by_cases h0 : n = 0
  · have e : rdNil l = (0, .short) := by rw [rdNil, if_pos (by omega)]
    rw [e]
    subst h0
    clear hn
    go_enter Tryd.func60, Tryd.ntmps60
    go_wp2_with fail
    all_goals try (go_quiet (fail); go_wp2_with fail)
    all_goals
      go_ret2
      exact ⟨_, _, rfl, by first | exact Below.refl _ _ | exact below_drewN (Below.refl _ _) _⟩
  obtain ⟨g, o, rfl, hg, -, hc⟩ := hr.open_ (by omega)
  have c0 := hc 0 (by omega)
  rw [Nat.add_zero] at c0
  have hb := hr.1.at_ 0
  by_cases h1 : at_ l 0 = 192
  · have e : rdNil l = (n - 1, .ok) := by rw [rdNil, if_neg (by omega), if_pos h1, hn]
    rw [e]
    rw [h1] at c0
    clear hn h1 hc
    go_enter Tryd.func60, Tryd.ntmps60
    go_wp2_with fail
    all_goals try (go_quiet (fail); go_wp2_with fail)
    all_goals
      go_ret2
      exact ⟨_, _, rfl, by first | exact Below.refl _ _ | exact below_drewN (Below.refl _ _) _⟩
  · have e : rdNil l = (n, bp 10 (at_ l 0)) := by rw [rdNil, if_neg (by omega), if_neg h1, hn]
    rw [e]
    generalize at_ l 0 = x at *
    have e1 : (x == 192) = false := by simp; omega
    clear hn h1 hc
    go_enter Tryd.func60, Tryd.ntmps60
    go_wp2_with (first | (go_at_call 108; refine (badPrefix_c _ _ _ (by omega) (by omega)).mono ?_; rintro e w1 ⟨rfl, hb1⟩) | go_in)
    go_ret2
    exact ⟨_, _, rfl, hb1⟩

set_option maxHeartbeats 1000000 in
set_option maxRecDepth 100000 in
theorem readBoolBytes_c (A : Option Addr) (n c : Nat) (l : List Int) (w : World) (hr : Rd w A l) (hn : l.length = n) (hnc : n ≤ c) (hm : c ≤ maxLen) (hG : Glob w) :
    Calls Tryd.prog 59 #[.slice A n c] w (Ret3 w (.bool (rdBool l).1) (rdBool l).2.1 (rdBool l).2.2) := by
  obtain ⟨gs, gr⟩ := hG
  have HN : Hid (l.length = n) := hn
  have hm' : c ≤ 9223372036854775807 := by simp only [maxLen] at hm; omega
  clear hm
  by_cases h0 : n = 0
  · have e : rdBool l = (false, 0, .short) := by rw [rdBool, if_pos (by omega)]
    rw [e]
    subst h0
    clear hn
    go_enter Tryd.func59, Tryd.ntmps59
    go_wp2_with fail
    all_goals try (go_quiet (fail); go_wp2_with fail)
    all_goals
      go_ret3
      exact ⟨_, _, rfl, by first | exact Below.refl _ _ | exact below_drewN (Below.refl _ _) _⟩
  obtain ⟨g, o, rfl, hg, -, hc⟩ := hr.open_ (by omega)
  have c0 := hc 0 (by omega)
  rw [Nat.add_zero] at c0
  have hb := hr.1.at_ 0
  by_cases h1 : at_ l 0 = 195
  · have e : rdBool l = (true, n - 1, .ok) := by rw [rdBool, if_neg (by omega), if_pos h1, hn]
    rw [e]
    rw [h1] at c0
    clear hn h1 hc
    go_enter Tryd.func59, Tryd.ntmps59
    go_wp2_with fail
    all_goals try (go_quiet (fail); go_wp2_with fail)
    all_goals
      go_ret3
      exact ⟨_, _, rfl, by first | exact Below.refl _ _ | exact below_drewN (Below.refl _ _) _⟩
  by_cases h2 : at_ l 0 = 194
  · have e : rdBool l = (false, n - 1, .ok) := by rw [rdBool, if_neg (by omega), if_neg h1, if_pos h2, hn]
    rw [e]
    rw [h2] at c0
    clear hn h1 h2 hc
    go_enter Tryd.func59, Tryd.ntmps59
    go_wp2_with fail
    all_goals try (go_quiet (fail); go_wp2_with fail)
    all_goals
      go_ret3
      exact ⟨_, _, rfl, by first | exact Below.refl _ _ | exact below_drewN (Below.refl _ _) _⟩
  · have e : rdBool l = (false, n, bp 7 (at_ l 0)) := by rw [rdBool, if_neg (by omega), if_neg h1, if_neg h2, hn]
    rw [e]
    generalize at_ l 0 = x at *
    have e1 : (x == 195) = false := by simp; omega
    have e2 : (x == 194) = false := by simp; omega
    clear hn h1 h2 hc
    go_enter Tryd.func59, Tryd.ntmps59
    go_wp2_with (first | (go_at_call 108; refine (badPrefix_c _ _ _ (by omega) (by omega)).mono ?_; rintro e w1 ⟨rfl, hb1⟩) | go_in)
    go_ret3
    exact ⟨_, _, rfl, hb1⟩

/-- No error is no error by its code. -/
theorem Er.code_ok (e : Er) : e.code = 0 ↔ e = .ok := by cases e <;> simp [Er.code]

set_option maxHeartbeats 1000000 in
set_option maxRecDepth 100000 in
theorem implNil_c (A : Option Addr) (n c : Nat) (l : List Int) (w : World) (hr : Rd w A l) (hn : l.length = n) (hle : n ≤ 1000000000000) (hG : Glob w) :
    Calls Tryd.prog 20 #[.slice A n c] w fun e w' => e = .returned (.tuple #[.int .i64 (rdNil l).1, .int .i64 (rdNil l).2.code]) ∧ Below w.heap.size w w' := by
  have HN : Hid (l.length = n) := hn
  have HG : Hid (Glob w) := hG
  clear hn hG
  go_enter Tryd.func20, Tryd.ntmps20
  go_wp2_with fail
  ((with_reducible refine (clone_c _ _ _ l _ hr HN.out hle).mono ?_); rintro e w1 ⟨v, rfl, hown, hb1⟩)
  obtain ⟨A1, c1, rfl, hc1, hm1, hr1⟩ := hown.open_ hr.1
  go_wp2_with fail
  ((with_reducible refine (readNilBytes_c _ _ _ l _ hr1 rfl hc1 hm1 (HG.out.mono hb1)).mono ?_); rintro e w2 ⟨A2, c2, rfl, hb2⟩)
  go_wp2_with fail
  ((with_reducible refine (codeOf_c _ _ ((HG.out.mono hb1).mono hb2)).mono ?_); rintro e w3 ⟨rfl, hb3⟩)
  go_wp2_with fail
  go_ret2
  exact ⟨rfl, hb1.trans ((hb2.trans (hb3.mono hb2.size)).mono hb1.size)⟩

theorem rdBool_err (l : List Int) (h : (rdBool l).2.2 ≠ .ok) : (rdBool l).1 = false := by
  unfold rdBool at h ⊢
  split
  · rfl
  split
  · rename_i h1 h2
    rw [if_neg h1, if_pos h2] at h
    exact absurd rfl h
  split <;> rfl

set_option maxHeartbeats 1000000 in
set_option maxRecDepth 100000 in
theorem implBool_c (A : Option Addr) (n c : Nat) (l : List Int) (w : World) (hr : Rd w A l) (hn : l.length = n) (hle : n ≤ 1000000000000) (hG : Glob w) :
    Calls Tryd.prog 19 #[.slice A n c] w fun e w' => e = .returned (.tuple #[.bool (rdBool l).1, .int .i64 (rdBool l).2.1, .int .i64 (rdBool l).2.2.code]) ∧ Below w.heap.size w w' := by
  have HN : Hid (l.length = n) := hn
  have HG : Hid (Glob w) := hG
  have hcall : ∀ (A : Option Addr) (c : Nat) (w : World), Rd w A l → l.length ≤ c → c ≤ maxLen → Glob w → Calls Tryd.prog 59 #[.slice A l.length c] w (Ret3 w (.bool (rdBool l).1) (rdBool l).2.1 (rdBool l).2.2) := fun A c w a b d e => readBoolBytes_c A _ c l w a rfl b d e
  have herr := rdBool_err l
  generalize rdBool l = R at *
  obtain ⟨x, k, r⟩ := R
  simp only at hcall herr
  clear hn hG
  go_enter Tryd.func19, Tryd.ntmps19
  go_wp2_with fail
  ((with_reducible refine (clone_c _ _ _ l _ hr HN.out hle).mono ?_); rintro e w1 ⟨v, rfl, hown, hb1⟩)
  obtain ⟨A1, c1, rfl, hc1, hm1, hr1⟩ := hown.open_ hr.1
  go_wp2_with fail
  ((with_reducible refine (hcall _ _ _ hr1 hc1 hm1 (HG.out.mono hb1)).mono ?_); rintro e w2 ⟨A2, c2, rfl, hb2⟩)
  cases r
  · go_wp2_with fail
    go_ret3
    exact ⟨rfl, hb1.trans (hb2.mono hb1.size)⟩
  all_goals
    obtain rfl := herr (by intro h; cases h)
    go_wp2_with fail
    ((with_reducible refine (codeOf_c _ _ ((HG.out.mono hb1).mono hb2)).mono ?_); rintro e w3 ⟨rfl, hb3⟩)
    go_wp2_with fail
    go_ret3
    exact ⟨rfl, hb1.trans ((hb2.trans (hb3.mono hb2.size)).mono hb1.size)⟩
end Go.Proofs.YtpmdlbbgljcloaaDoor
