/- The law FnReadHeads, walked: what stands ahead of a list, or of pairs, is read just if the bytes begin with it. Conditions: the slice reads as bytes; the two sentinels' variables hold what the program lays in them. -/
import Derived.Test.YtmhilpnagpkkiaaDoorHeads
import Derived.Test.YtmhilpnagpkkiaaDoorFails
import Derived.Test.YtmhilpnagpkkiaaDoorHead
import Derived.Test.YtmhilpnagpkkiaaDoorKindPlain
namespace Go.Proofs.YtmhilpnagpkkiaaDoor
open Go Go.RowKit Go.Lib
set_option linter.unusedVariables false

/-- What is told and what is read, of heads of one kind K. -/
def PlainHd (n : Nat) (K : Int) (h : Hd) (R : Int × Nat × Er) : Prop :=
  (h.kind ≠ K ∧ ∃ r, R = (0, 0, r) ∧ failsB n h.kind r.code = true) ∨
  (h.kind = K ∧ h.short = true ∧ R = (0, 0, .short)) ∨
  (h.kind = K ∧ h.short = false ∧ 0 ≤ h.length ∧ h.length ≤ 4294967295 ∧ ∃ k : Nat, R = (h.length, k, .ok) ∧ (k : Int) = n - h.size ∧ 0 ≤ h.size)

theorem plainArr (l : List Int) (hb : Byts l) : PlainHd l.length 9 (headOf l) (rdArr l) := by
  unfold PlainHd
  by_cases h0 : l.length = 0
  · refine .inl ⟨?_, .short, ?_, ?_⟩
    · rw [headOf, if_pos h0]; decide
    · rw [rdArr, if_pos h0]
    · rw [h0]; exact fails_none _
  have hc := hb.at_ 0
  have a2 := be2_range hb 1
  have a4 := be4_range hb 1
  by_cases h1 : 144 ≤ at_ l 0 ∧ at_ l 0 < 160
  · have e : headOf l = ⟨9, 0, at_ l 0 % 16, 0, 1, false⟩ := by rw [headOf, if_neg h0, if_neg (by omega), if_neg (by omega), if_pos (by omega)]
    rw [e, rdArr, if_neg h0, if_pos h1]
    exact .inr (.inr ⟨rfl, rfl, by show 0 ≤ at_ l 0 % 16; omega, by show at_ l 0 % 16 ≤ _; omega, l.length - 1, rfl, by show ((l.length - 1 : Nat) : Int) = l.length - 1; omega, by show (0 : Int) ≤ 1; decide⟩)
  by_cases h2 : at_ l 0 = 220
  · rw [rdArr, if_neg h0, if_neg h1, if_pos h2, headOf_bigK l h0 (by omega) (by omega), h2]
    by_cases hs : l.length < 3
    · refine .inr (.inl ?_); simp [headBig, hs]
    · refine .inr (.inr ?_)
      simp only [headBig, hs, if_false, if_true, Int.reduceEq]
      exact ⟨trivial, trivial, by omega, by omega, l.length - 3, rfl, by omega, by decide⟩
  by_cases h3 : at_ l 0 = 221
  · rw [rdArr, if_neg h0, if_neg h1, if_neg h2, if_pos h3, headOf_bigK l h0 (by omega) (by omega), h3]
    by_cases hs : l.length < 5
    · refine .inr (.inl ?_); simp [headBig, hs]
    · refine .inr (.inr ?_)
      simp only [headBig, hs, if_false, if_true, Int.reduceEq]
      exact ⟨trivial, trivial, by omega, by omega, l.length - 5, rfl, by omega, by decide⟩
  refine .inl ⟨headOf_not 9 l h0 (Or.inr (Or.inr (Or.inl ⟨rfl, by omega, by omega⟩))), _, by rw [rdArr, if_neg h0, if_neg h1, if_neg h2, if_neg h3], fails_bp l 4 _ (by omega) hc fun h => by rw [headOf, if_neg h0, h]; rfl⟩

theorem plainMap (l : List Int) (hb : Byts l) : PlainHd l.length 10 (headOf l) (rdMap l) := by
  unfold PlainHd
  by_cases h0 : l.length = 0
  · refine .inl ⟨?_, .short, ?_, ?_⟩
    · rw [headOf, if_pos h0]; decide
    · rw [rdMap, if_pos h0]
    · rw [h0]; exact fails_none _
  have hc := hb.at_ 0
  have a2 := be2_range hb 1
  have a4 := be4_range hb 1
  by_cases h1 : 128 ≤ at_ l 0 ∧ at_ l 0 < 144
  · have e : headOf l = ⟨10, 0, at_ l 0 % 16, 0, 1, false⟩ := by rw [headOf, if_neg h0, if_neg (by omega), if_pos (by omega)]
    rw [e, rdMap, if_neg h0, if_pos h1]
    exact .inr (.inr ⟨rfl, rfl, by show 0 ≤ at_ l 0 % 16; omega, by show at_ l 0 % 16 ≤ _; omega, l.length - 1, rfl, by show ((l.length - 1 : Nat) : Int) = l.length - 1; omega, by show (0 : Int) ≤ 1; decide⟩)
  by_cases h2 : at_ l 0 = 222
  · rw [rdMap, if_neg h0, if_neg h1, if_pos h2, headOf_bigK l h0 (by omega) (by omega), h2]
    by_cases hs : l.length < 3
    · refine .inr (.inl ?_); simp [headBig, hs]
    · refine .inr (.inr ?_)
      simp only [headBig, hs, if_false, if_true, Int.reduceEq]
      exact ⟨trivial, trivial, by omega, by omega, l.length - 3, rfl, by omega, by decide⟩
  by_cases h3 : at_ l 0 = 223
  · rw [rdMap, if_neg h0, if_neg h1, if_neg h2, if_pos h3, headOf_bigK l h0 (by omega) (by omega), h3]
    by_cases hs : l.length < 5
    · refine .inr (.inl ?_); simp [headBig, hs]
    · refine .inr (.inr ?_)
      simp only [headBig, hs, if_false, if_true, Int.reduceEq]
      exact ⟨trivial, trivial, by omega, by omega, l.length - 5, rfl, by omega, by decide⟩
  refine .inl ⟨headOf_not 10 l h0 (Or.inr (Or.inr (Or.inr ⟨rfl, by omega, by omega⟩))), _, by rw [rdMap, if_neg h0, if_neg h1, if_neg h2, if_neg h3], fails_bp l 3 _ (by omega) hc fun h => by rw [headOf, if_neg h0, h]; rfl⟩

set_option maxHeartbeats 4000000 in
set_option maxRecDepth 100000 in
theorem fnReadHeads_c (A : Option Addr) (n c : Nat) (l : List Int) (w : World) (hr : Rd w A l) (hn : l.length = n) (hnc : n ≤ c) (hm : c ≤ maxLen) (hG : Glob w) :
    Calls Tryd.prog 9 #[.slice A n c] w fun e w' => e = .returned (.bool true) ∧ Below w.heap.size w w' := by
  have hN : Hid (l.length = n) := hn
  clear hn
  have hM : Hid (c ≤ maxLen) := hm
  clear hm
  have HG : Hid (Glob w) := hG
  clear hG
  by_cases h1 : 2147483647 < n
  · go_enter Tryd.func9, Tryd.ntmps9
    go_wp2_with fail
    go_ret
    exact ⟨rfl, Below.refl _ _⟩
  by_cases h2 : 131072 < n
  · go_enter Tryd.func9, Tryd.ntmps9
    go_wp2_with fail
    go_ret
    exact ⟨rfl, Below.refl _ _⟩
  have h3 : n ≤ 131072 := by omega
  have h4 : n ≤ 1000000000000 := by omega
  clear h1 h2
  have hP0 := plainArr l hr.1
  have hQ0 := plainMap l hr.1
  rw [hN.out] at hP0 hQ0
  have hP := hid hP0
  have hQ := hid hQ0
  clear hP0 hQ0
  have arr_c : ∀ W : World, Rd W A l → Glob W → Calls Tryd.prog 22 #[.slice A n c] W fun e w' => e = .returned (.tuple #[.int .u32 (rdArr l).1, .int .i64 (rdArr l).2.1, .int .i64 (rdArr l).2.2.code]) ∧ Below W.heap.size W w' := fun W hr' hG' => implArr_c A n c l W hr' hN.out h4 hG'
  have map_c : ∀ W : World, Rd W A l → Glob W → Calls Tryd.prog 23 #[.slice A n c] W fun e w' => e = .returned (.tuple #[.int .u32 (rdMap l).1, .int .i64 (rdMap l).2.1, .int .i64 (rdMap l).2.2.code]) ∧ Below W.heap.size W w' := fun W hr' hG' => implMap_c A n c l W hr' hN.out h4 hG'
  go_enter Tryd.func9, Tryd.ntmps9
  go_wp2_with fail
  ((with_reducible refine (headOf_c _ _ _ l _ hr hN.out hnc hM.out).mono ?_); rintro e w1 ⟨rfl, hb1⟩)
  have hr1 := hr.mono hb1
  have HG1 : Hid (Glob w1) := HG.out.mono hb1
  have hH := hcells_new w1 (headOf l)
  have hF : ∀ (e : Er) (W : World), Calls Tryd.prog 15 #[.slice A n c, (headOf l).val, .int .i64 e.code] W fun x W' => x = .returned (.bool (failsB n (headOf l).kind e.code)) ∧ Below W.heap.size W W' := fun e W => fails_c A n c _ _ _ _ _ _ e.code W
  generalize headOf l = H at hP hQ hH hF
  obtain ⟨k, x, len, t, s, sh⟩ := H
  generalize rdArr l = R at hP arr_c
  obtain ⟨v1, k1, e1⟩ := R
  generalize rdMap l = S at hQ map_c
  obtain ⟨v2, k2, e2⟩ := S
  simp only at arr_c map_c hF
  have hF' := hid hF
  clear hF
  go_wp2_with fail
  ((with_reducible refine (arr_c _ (hr1.alloc _) (HG1.out.alloc _)).mono ?_); rintro e w2 ⟨rfl, hb2⟩)
  have hH2 := hH.mono hb2
  go_wp2_with fail
  ((with_reducible refine (map_c _ ((hr1.alloc _).mono hb2) ((HG1.out.alloc _).mono hb2)).mono ?_); rintro e w3 ⟨rfl, hb3⟩)
  have hH3 := hH2.mono hb3
  have hend : ∀ W : World, Below w3.heap.size w3 W → Below w.heap.size w W := fun W h =>
    hb1.trans (((((Below.refl _ _).alloc (Nat.le_refl _) _).trans (hb2.mono (by simp))).trans ((hb3.trans (h.mono hb3.size)).mono (Nat.le_trans (by simp) hb2.size))).mono hb1.size)
  have hB : Below w3.heap.size w3 w3.drew := (Below.refl _ _).drew
  obtain ⟨d0, d1, d2, d3, d4, d5⟩ := id hH3
  go_wp2_with fail
  go_region_with (first | (go_at_call 15; ((with_reducible refine (hF'.out _ _).mono ?_); rintro e w4 ⟨rfl, hb4⟩; have hB := hB.trans (hb4.mono hB.size); obtain ⟨d0, d1, d2, d3, d4, d5⟩ := hH3.mono hB)))
  all_goals
    rcases hP.out with ⟨p1, r1, p2, f1⟩ | ⟨p1, p2, p3⟩ | ⟨p1, p2, p3, p4, j, p5, p6, p7⟩
    · simp only at p1 f1
      cases p2
      rcases hQ.out with ⟨q1, r2, q2, f2⟩ | ⟨q1, q2, q3⟩ | ⟨q1, q2, q3, q4, j2, q5, q6, q7⟩
      · simp only at q1 f2
        cases q2
        have g1 : (k == 9) = false := by simpa using p1
        have g2 : (k == 10) = false := by simpa using q1
        go_wp2_with fail
        go_ret
        exact ⟨by first | rfl | (simp [f1, f2]; done), hend _ hB⟩
      · simp only at q1 q2
        subst q1 q2
        cases q3
        go_wp2_with fail
        go_ret
        exact ⟨by first | rfl | (simp [f1, Er.code]; done), hend _ hB⟩
      · simp only at q1 q2 q3 q4 q6 q7
        subst q1 q2
        have hwr : wrap64 ((n : Int) - s) = (j2 : Int) := by unfold wrap64; omega
        have hw2 : IntKind.i64.wrap len = len := IntWalk.i64_in _ (by omega)
        cases q5
        go_wp2_with fail
        go_ret
        exact ⟨by first | rfl | (simp [f1, Er.code]; done) | (simp [f1, Er.code, *]; done), hend _ hB⟩
    · simp only at p1 p2
      subst p1 p2
      cases p3
      rcases hQ.out with ⟨q1, r2, q2, f2⟩ | ⟨q1, q2, q3⟩ | ⟨q1, q2, q3, q4, j2, q5, q6, q7⟩
      · simp only at q1 f2
        cases q2
        go_wp2_with fail
        go_ret
        exact ⟨by first | rfl | (simp [f2, Er.code]; done), hend _ hB⟩
      · simp only at q1; omega
      · simp only at q1; omega
    · simp only at p1 p2 p3 p4 p6 p7
      subst p1 p2
      have hwr : wrap64 ((n : Int) - s) = (j : Int) := by unfold wrap64; omega
      have hw2 : IntKind.i64.wrap len = len := IntWalk.i64_in _ (by omega)
      cases p5
      rcases hQ.out with ⟨q1, r2, q2, f2⟩ | ⟨q1, q2, q3⟩ | ⟨q1, q2, q3, q4, j2, q5, q6, q7⟩
      · simp only at q1 f2
        cases q2
        go_wp2_with fail
        go_ret
        exact ⟨by first | rfl | (simp [f2, Er.code]; done) | (simp [f2, Er.code, *]; done), hend _ hB⟩
      · simp only at q1; omega
      · simp only at q1; omega
end Go.Proofs.YtmhilpnagpkkiaaDoor
