/- The law FnReadText, walked: a text are read just if the bytes begin with one, whole. Conditions: the slice reads as bytes; the two sentinels' variables hold what the program lays in them. -/
import Derived.Test.YtmhilpnagpkkiaaDoorPlainTx
import Derived.Test.YtmhilpnagpkkiaaDoorHead
namespace Go.Proofs.YtmhilpnagpkkiaaDoor
open Go Go.RowKit Go.Lib
set_option linter.unusedVariables false

set_option maxHeartbeats 4000000 in
set_option maxRecDepth 100000 in
theorem fnReadText_any (A : Option Addr) (n c : Nat) (l : List Int) (w : World) (hr : Rd w A l) (hn : l.length = n) (hnc : n ≤ c) (hm : c ≤ maxLen) (h3 : n ≤ 131072) (hG : Glob w) :
    Calls Tryd.prog 6 #[.slice A n c] w fun e w' => e = .returned (.bool true) ∧ Below w.heap.size w w' := by
  have HG : Hid (Glob w) := hG
  have hp := plainStr l hr.1
  have hhead := headOf_c A n c l w hr hn hnc hm
  have hcall : ∀ W : World, Rd W A l → Glob W → Calls Tryd.prog 18 #[.slice A n c] W fun e w' => e = .returned (.tuple #[.string (strOfNums (rdStr l).1), .int .i64 (rdStr l).2.1, .int .i64 (rdStr l).2.2.code]) ∧ Below W.heap.size W w' := fun W hr' hG' => implText_c A n c l W hr' hn (by omega) hG'
  have hcn := fun w1 : World => hcells_new w1 (headOf l)
  have hF : ∀ (e : Er) (W : World), Calls Tryd.prog 15 #[.slice A n c, (headOf l).val, .int .i64 e.code] W fun x W' => x = .returned (.bool (failsB n (headOf l).kind e.code)) ∧ Below W.heap.size W W' := fun e W => fails_c A n c _ _ _ _ _ _ e.code W
  generalize headOf l = H at hp hhead hcn hF
  have HN : Hid (l.length = n) := hn
  have hm' : c ≤ 9223372036854775807 := by simp only [maxLen] at hm; omega
  simp only [PlainTx, hn] at hp
  clear hn hm hG
  obtain ⟨k, x, len, t, sz, sh⟩ := H
  simp only at hcn hp hF
  have hF' := hid hF
  clear hF
  rcases hp with ⟨p1, r, p2, p3⟩ | ⟨p1, p2, p3⟩ | ⟨p1, p2, s, m, p3, p4, p5, p6, p7⟩
  · rw [p2] at hcall
    simp only at hcall
    have e7 : (k == 7) = false := by simpa using p1
    have f7 : (k != 7) = true := by simpa using p1
    clear p1 p2
    go_enter Tryd.func6, Tryd.ntmps6
    go_wp2_with fail
    ((with_reducible refine hhead.mono ?_); rintro e w1 ⟨rfl, hb1⟩)
    have hH := hcn w1
    go_wp2_with fail
    ((with_reducible refine (hcall _ ((hr.mono hb1).alloc _) ((HG.out.mono hb1).alloc _)).mono ?_); rintro e w2 ⟨rfl, hb2⟩)
    obtain ⟨d0, d1, d2, d3, d4, d5⟩ := hH.mono hb2
    have hend := below_via hb1 hb2
    go_wp2_with fail
    ((with_reducible refine (hF'.out r _).mono ?_); rintro e w3 ⟨rfl, hb3⟩)
    rw [p3]
    go_wp2_with fail
    go_ret
    exact ⟨rfl, below_step hend hb3⟩
  · rw [p3] at hcall
    simp only [Er.code] at hcall
    subst p1 p2
    go_enter Tryd.func6, Tryd.ntmps6
    go_wp2_with fail
    ((with_reducible refine hhead.mono ?_); rintro e w1 ⟨rfl, hb1⟩)
    have hH := hcn w1
    go_wp2_with fail
    ((with_reducible refine (hcall _ ((hr.mono hb1).alloc _) ((HG.out.mono hb1).alloc _)).mono ?_); rintro e w2 ⟨rfl, hb2⟩)
    obtain ⟨d0, d1, d2, d3, d4, d5⟩ := hH.mono hb2
    have hend := below_via hb1 hb2
    go_wp2_with fail
    go_ret
    exact ⟨rfl, hend⟩
  · subst p1 p2 p3 p4
    have hwr : wrap64 ((n : Int) - s) = (n : Int) - s := by unfold wrap64; omega
    rcases p7 with ⟨q1, q2⟩ | ⟨q1, q2⟩
    · rw [q2] at hcall
      simp only [Er.code] at hcall
      have q3 : (n : Int) - s < m := by omega
      clear q2
      go_enter Tryd.func6, Tryd.ntmps6
      go_wp2_with fail
      ((with_reducible refine hhead.mono ?_); rintro e w1 ⟨rfl, hb1⟩)
      have hH := hcn w1
      go_wp2_with fail
      ((with_reducible refine (hcall _ ((hr.mono hb1).alloc _) ((HG.out.mono hb1).alloc _)).mono ?_); rintro e w2 ⟨rfl, hb2⟩)
      obtain ⟨d0, d1, d2, d3, d4, d5⟩ := hH.mono hb2
      have hend := below_via hb1 hb2
      go_wp2_with fail
      go_ret
      exact ⟨rfl, hend⟩
    · rw [q2] at hcall
      simp only [Er.code] at hcall
      have HL : Hid (((l.drop s).take m).length = m) := by show _ = _; rw [List.length_take, List.length_drop, HN.out]; omega
      have hwr2 : wrap64 (((n : Int) - s) - m) = ((n - s - m : Nat) : Int) := by unfold wrap64; omega
      have hws : IntKind.i64.wrap ((s : Int) + m) = (s : Int) + m := IntWalk.i64_in _ (by omega)
      have hdec : ¬ (n : Int) - s < m := by omega
      have i1 : (s : Int) + m ≤ n := by omega
      have i2 : (s : Int) ≤ (s : Int) + m := by omega
      have i3 : (s : Int) + m ≤ c := by omega
      have i4 : ((s : Int) + m).toNat = s + m := by omega
      clear q2 q1
      by_cases hz : m = 0
      · subst hz
        have kz := fun (A' : Option Addr) (c' : Nat) (W : World) => run_string_of (Rd.nil W A') 0 c' rfl
        rw [List.take_zero] at hcall
        go_enter Tryd.func6, Tryd.ntmps6
        go_wp2_with fail
        ((with_reducible refine hhead.mono ?_); rintro e w1 ⟨rfl, hb1⟩)
        have hH := hcn w1
        go_wp2_with fail
        ((with_reducible refine (hcall _ ((hr.mono hb1).alloc _) ((HG.out.mono hb1).alloc _)).mono ?_); rintro e w2 ⟨rfl, hb2⟩)
        obtain ⟨d0, d1, d2, d3, d4, d5⟩ := hH.mono hb2
        have hend := below_via hb1 hb2
        go_wp2_with fail
        all_goals try (go_quiet (fail); go_wp2_with fail)
        all_goals
          go_ret
          exact ⟨by first | rfl | (clear hwr hwr2 hws; simp <;> omega), by first | exact hend | exact below_drewN hend _⟩
      · obtain ⟨g, o, rfl, -⟩ := hr.open_ (by have := HN.out; omega)
        have ec : ¬ c = s := by omega
        have hrk := hr.cutTake s m
        go_enter Tryd.func6, Tryd.ntmps6
        go_wp2_with fail
        ((with_reducible refine hhead.mono ?_); rintro e w1 ⟨rfl, hb1⟩)
        have hH := hcn w1
        go_wp2_with fail
        ((with_reducible refine (hcall _ ((hr.mono hb1).alloc _) ((HG.out.mono hb1).alloc _)).mono ?_); rintro e w2 ⟨rfl, hb2⟩)
        obtain ⟨d0, d1, d2, d3, d4, d5⟩ := hH.mono hb2
        have kc := run_string_of (((hrk.mono hb1).alloc _).mono hb2) m (c - s) HL.out
        have hend := below_via hb1 hb2
        go_wp2_with fail
        all_goals try (go_quiet (fail); go_wp2_with fail)
        all_goals
          go_ret
          exact ⟨by first | rfl | (clear hwr hwr2 hws; simp <;> omega), by first | exact hend | exact below_drewN hend _⟩

set_option maxHeartbeats 1000000 in
set_option maxRecDepth 100000 in
theorem fnReadText_c (A : Option Addr) (n c : Nat) (l : List Int) (w : World) (hr : Rd w A l) (hn : l.length = n) (hnc : n ≤ c) (hm : c ≤ maxLen) (hG : Glob w) :
    Calls Tryd.prog 6 #[.slice A n c] w fun e w' => e = .returned (.bool true) ∧ Below w.heap.size w w' := by
  by_cases h1 : 2147483647 < n
  · clear hn
    go_enter Tryd.func6, Tryd.ntmps6
    go_wp2_with fail
    go_ret
    exact ⟨rfl, Below.refl _ _⟩
  by_cases h2 : 131072 < n
  · clear hn
    go_enter Tryd.func6, Tryd.ntmps6
    go_wp2_with fail
    go_ret
    exact ⟨rfl, Below.refl _ _⟩
  exact fnReadText_any A n c l w hr hn hnc hm (by omega) hG
end Go.Proofs.YtmhilpnagpkkiaaDoor
