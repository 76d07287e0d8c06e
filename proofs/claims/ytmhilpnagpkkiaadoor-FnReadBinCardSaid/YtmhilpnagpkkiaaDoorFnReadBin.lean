/- The law FnReadBin, walked: bytes are read just if the bytes begin with one, whole. Conditions: the slice reads as bytes; the two sentinels' variables hold what the program lays in them. -/
import Derived.Test.YtmhilpnagpkkiaaDoorPlainTx
import Derived.Test.YtmhilpnagpkkiaaDoorHead
namespace Go.Proofs.YtmhilpnagpkkiaaDoor
open Go Go.RowKit Go.Lib
set_option linter.unusedVariables false

set_option maxHeartbeats 4000000 in
set_option maxRecDepth 100000 in
theorem fnReadBin_any (A : Option Addr) (n c : Nat) (l : List Int) (w : World) (hr : Rd w A l) (hn : l.length = n) (hnc : n ≤ c) (hm : c ≤ maxLen) (h3 : n ≤ 131072) (hG : Glob w) :
    Calls Tryd.prog 7 #[.slice A n c] w fun e w' => e = .returned (.bool true) ∧ Below w.heap.size w w' := by
  have HG : Hid (Glob w) := hG
  have hp := plainBin l hr.1
  have hhead := headOf_c A n c l w hr hn hnc hm
  have hcall : ∀ W : World, Rd W A l → Glob W → Calls Tryd.prog 19 #[.slice A n c] W (MadeB W (rdBin l).1 (rdBin l).2.1 (rdBin l).2.2) := fun W hr' hG' => implBin_c A n c l W hr' hn (by omega) hG'
  have hcn := fun w1 : World => hcells_new w1 (headOf l)
  have hF : ∀ (e : Er) (W : World), Calls Tryd.prog 15 #[.slice A n c, (headOf l).val, .int .i64 e.code] W fun x W' => x = .returned (.bool (failsB n (headOf l).kind e.code)) ∧ Below W.heap.size W W' := fun e W => fails_c A n c _ _ _ _ _ _ e.code W
  generalize headOf l = H at hp hhead hcn hF
  have HN : Hid (l.length = n) := hn
  have hm' : c ≤ 9223372036854775807 := by simp only [maxLen] at hm; omega
  simp only [PlainTx, hn] at hp
  clear hn hm hG
  obtain ⟨k, x, len, t, sz, sh⟩ := H
  simp only at hcn hp hF
  have hF' := hid hF
  clear hF
  rcases hp with ⟨p1, r, p2, p3⟩ | ⟨p1, p2, p3⟩ | ⟨p1, p2, s, m, p3, p4, p5, p6, p7⟩
  · rw [p2] at hcall
    simp only at hcall
    have e7 : (k == 8) = false := by simpa using p1
    have f7 : (k != 8) = true := by simpa using p1
    clear p1 p2
    go_enter Tryd.func7, Tryd.ntmps7
    go_wp2_with fail
    ((with_reducible refine hhead.mono ?_); rintro e w1 ⟨rfl, hb1⟩)
    have hH := hcn w1
    go_wp2_with fail
    ((with_reducible refine (hcall _ ((hr.mono hb1).alloc _) ((HG.out.mono hb1).alloc _)).mono ?_); rintro e w2 ⟨v, rfl, hown, hb2⟩)
    obtain ⟨d0, d1, d2, d3, d4, d5⟩ := hH.mono hb2
    have hend := below_via hb1 hb2
    go_wp2_with fail
    ((with_reducible refine (hF'.out r _).mono ?_); rintro e w3 ⟨rfl, hb3⟩)
    rw [p3]
    go_wp2_with fail
    go_ret
    exact ⟨rfl, below_step hend hb3⟩
  · rw [p3] at hcall
    simp only at hcall
    subst p1 p2
    go_enter Tryd.func7, Tryd.ntmps7
    go_wp2_with fail
    ((with_reducible refine hhead.mono ?_); rintro e w1 ⟨rfl, hb1⟩)
    have hH := hcn w1
    go_wp2_with fail
    ((with_reducible refine (hcall _ ((hr.mono hb1).alloc _) ((HG.out.mono hb1).alloc _)).mono ?_); rintro e w2 ⟨v, rfl, hown, hb2⟩)
    obtain ⟨d0, d1, d2, d3, d4, d5⟩ := hH.mono hb2
    have hend := below_via hb1 hb2
    go_wp2_with fail
    go_ret
    exact ⟨rfl, hend⟩
  · subst p1 p2 p3 p4
    have hwr : wrap64 ((n : Int) - s) = (n : Int) - s := by unfold wrap64; omega
    rcases p7 with ⟨q1, q2⟩ | ⟨q1, q2⟩
    · rw [q2] at hcall
      simp only at hcall
      have q3 : (n : Int) - s < m := by omega
      clear q2
      go_enter Tryd.func7, Tryd.ntmps7
      go_wp2_with fail
      ((with_reducible refine hhead.mono ?_); rintro e w1 ⟨rfl, hb1⟩)
      have hH := hcn w1
      go_wp2_with fail
      ((with_reducible refine (hcall _ ((hr.mono hb1).alloc _) ((HG.out.mono hb1).alloc _)).mono ?_); rintro e w2 ⟨v, rfl, hown, hb2⟩)
      obtain ⟨d0, d1, d2, d3, d4, d5⟩ := hH.mono hb2
      have hend := below_via hb1 hb2
      go_wp2_with fail
      go_ret
      exact ⟨rfl, hend⟩
    · rw [q2] at hcall
      simp only at hcall
      obtain ⟨L, hLdef⟩ : ∃ L, L = (l.drop s).take m := ⟨_, rfl⟩
      have HL : Hid (L.length = m) := by show _ = _; rw [hLdef, List.length_take, List.length_drop, HN.out]; omega
      have hbL : Byts L := by rw [hLdef]; exact (hr.1.drop s).take m
      have HLd := Lib.hid hLdef
      rw [← hLdef] at hcall
      clear hLdef
      have hwr2 : wrap64 (((n : Int) - s) - m) = ((n - s - m : Nat) : Int) := by unfold wrap64; omega
      have hws : IntKind.i64.wrap ((s : Int) + m) = (s : Int) + m := IntWalk.i64_in _ (by omega)
      have hdec : ¬ (n : Int) - s < m := by omega
      have i1 : (s : Int) + m ≤ n := by omega
      have i2 : (s : Int) ≤ (s : Int) + m := by omega
      have i3 : (s : Int) + m ≤ c := by omega
      have i4 : ((s : Int) + m).toNat = s + m := by omega
      clear q2 q1
      by_cases hz : m = 0
      · subst hz
        have hLn : L = [] := List.eq_nil_of_length_eq_zero HL.out
        subst hLn
        go_enter Tryd.func7, Tryd.ntmps7
        go_wp2_with fail
        ((with_reducible refine hhead.mono ?_); rintro e w1 ⟨rfl, hb1⟩)
        have hH := hcn w1
        go_wp2_with fail
        ((with_reducible refine (hcall _ ((hr.mono hb1).alloc _) ((HG.out.mono hb1).alloc _)).mono ?_); rintro e w2 ⟨v, rfl, hown, hb2⟩)
        obtain ⟨d0, d1, d2, d3, d4, d5⟩ := hH.mono hb2
        obtain ⟨A2, c2, rfl, -, -, hr2⟩ := hown.open_ hbL
        have hend := below_via hb1 hb2
        go_wp2_with fail
        all_goals
          ((with_reducible refine (same_c _ _ 0 _ _ [] _ (Rd.nil _ _) (Rd.nil _ _) rfl).mono ?_); rintro e w3 ⟨rfl, rfl⟩)
          go_wp2_with fail
          go_ret
          exact ⟨by first | rfl | (clear hwr hwr2 hws; simp <;> omega), hend⟩
      · obtain ⟨g, o, rfl, -⟩ := hr.open_ (by have := HN.out; omega)
        have ec : ¬ c = s := by omega
        have hrk := hr.cutTake s m
        rw [← HLd.out] at hrk
        go_enter Tryd.func7, Tryd.ntmps7
        go_wp2_with fail
        ((with_reducible refine hhead.mono ?_); rintro e w1 ⟨rfl, hb1⟩)
        have hH := hcn w1
        go_wp2_with fail
        ((with_reducible refine (hcall _ ((hr.mono hb1).alloc _) ((HG.out.mono hb1).alloc _)).mono ?_); rintro e w2 ⟨v, rfl, hown, hb2⟩)
        obtain ⟨d0, d1, d2, d3, d4, d5⟩ := hH.mono hb2
        obtain ⟨A2, c2, rfl, -, -, hr2⟩ := hown.open_ hbL
        have hend := below_via hb1 hb2
        go_wp2_with fail
        rw [HL.out]
        ((with_reducible refine (same_c _ _ m _ _ L _ hr2 (((hrk.mono hb1).alloc _).mono hb2) HL.out).mono ?_); rintro e w3 ⟨rfl, rfl⟩)
        go_wp2_with fail
        go_ret
        exact ⟨by first | rfl | (clear hwr hwr2 hws; simp <;> omega), hend⟩

set_option maxHeartbeats 1000000 in
set_option maxRecDepth 100000 in
theorem fnReadBin_c (A : Option Addr) (n c : Nat) (l : List Int) (w : World) (hr : Rd w A l) (hn : l.length = n) (hnc : n ≤ c) (hm : c ≤ maxLen) (hG : Glob w) :
    Calls Tryd.prog 7 #[.slice A n c] w fun e w' => e = .returned (.bool true) ∧ Below w.heap.size w w' := by
  by_cases h1 : 2147483647 < n
  · clear hn
    go_enter Tryd.func7, Tryd.ntmps7
    go_wp2_with fail
    go_ret
    exact ⟨rfl, Below.refl _ _⟩
  by_cases h2 : 131072 < n
  · clear hn
    go_enter Tryd.func7, Tryd.ntmps7
    go_wp2_with fail
    go_ret
    exact ⟨rfl, Below.refl _ _⟩
  exact fnReadBin_any A n c l w hr hn hnc hm (by omega) hG
end Go.Proofs.YtmhilpnagpkkiaaDoor
