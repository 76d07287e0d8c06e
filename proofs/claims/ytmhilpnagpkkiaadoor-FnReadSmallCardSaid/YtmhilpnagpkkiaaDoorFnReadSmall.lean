/- The law FnReadSmall, walked: nothing, and a bool, are read just if the bytes begin with it. Conditions: the slice reads as bytes; the two sentinels' variables hold what the program lays in them. -/
import Derived.Test.YtmhilpnagpkkiaaDoorSmallR
import Derived.Test.YtmhilpnagpkkiaaDoorFails
import Derived.Test.YtmhilpnagpkkiaaDoorHead
namespace Go.Proofs.YtmhilpnagpkkiaaDoor
open Go Go.RowKit Go.Lib
set_option linter.unusedVariables false

/-- What the head tells of a first byte above 195: neither nothing nor a bool, nor no kind. -/
theorem kind_ite {p : Prop} [Decidable p] {a b : Hd} (ha : p → 3 ≤ a.kind) (hb : ¬ p → 3 ≤ b.kind) : 3 ≤ (if p then a else b).kind := by
  split
  · exact ha ‹_›
  · exact hb ‹_›
theorem kind_mk {k x len t s : Int} {sh : Bool} (h : 3 ≤ k) : 3 ≤ (Hd.mk k x len t s sh).kind := h
theorem headBig_kind (l : List Int) (c : Int) (h0 : 196 ≤ c) (h1 : c < 224) : 3 ≤ (headBig l c).kind := by
  unfold headBig
  repeat' (first | exact kind_mk (by decide) | (refine kind_ite ?_ ?_ <;> intro _))
  exfalso; omega

/-- The small law, plainly: what the reference tells and what the two readers answer. -/
theorem small_plain (l : List Int) (hb : Byts l) :
    (l.length = 0 ∧ (headOf l).kind = 0 ∧ rdNil l = (0, .short) ∧ rdBool l = (false, 0, .short)) ∨
    (0 < l.length ∧ (headOf l).kind = 1 ∧ rdNil l = (l.length - 1, .ok) ∧ rdBool l = (false, l.length, .type 7 10)) ∨
    (0 < l.length ∧ (headOf l).kind = 2 ∧ (headOf l).number = 0 ∧ rdNil l = (l.length, .type 10 7) ∧ rdBool l = (false, l.length - 1, .ok)) ∨
    (0 < l.length ∧ (headOf l).kind = 2 ∧ (headOf l).number = 1 ∧ rdNil l = (l.length, .type 10 7) ∧ rdBool l = (true, l.length - 1, .ok)) ∨
    (0 < l.length ∧ (headOf l).kind ≠ 1 ∧ (headOf l).kind ≠ 2 ∧ (∃ r, rdNil l = (l.length, r) ∧ failsB l.length (headOf l).kind r.code = true) ∧ ∃ r, rdBool l = (false, l.length, r) ∧ failsB l.length (headOf l).kind r.code = true) := by
  by_cases h0 : l.length = 0
  · refine .inl ⟨h0, ?_, ?_, ?_⟩
    · rw [headOf, if_pos h0]
    · rw [rdNil, if_pos h0]
    · rw [rdBool, if_pos h0]
  have hp : 0 < l.length := by omega
  have hc := hb.at_ 0
  by_cases h1 : at_ l 0 = 192
  · refine .inr (.inl ⟨hp, ?_, ?_, ?_⟩)
    · rw [headOf, if_neg h0, h1]; rfl
    · rw [rdNil, if_neg h0, if_pos h1]
    · rw [rdBool, if_neg h0, h1]; rfl
  by_cases h2 : at_ l 0 = 194
  · refine .inr (.inr (.inl ⟨hp, ?_, ?_, ?_, ?_⟩))
    · rw [headOf, if_neg h0, h2]; rfl
    · rw [headOf, if_neg h0, h2]; rfl
    · rw [rdNil, if_neg h0, h2]; rfl
    · rw [rdBool, if_neg h0, h2]; rfl
  by_cases h3 : at_ l 0 = 195
  · refine .inr (.inr (.inr (.inl ⟨hp, ?_, ?_, ?_, ?_⟩)))
    · rw [headOf, if_neg h0, h3]; rfl
    · rw [headOf, if_neg h0, h3]; rfl
    · rw [rdNil, if_neg h0, h3]; rfl
    · rw [rdBool, if_neg h0, h3]; rfl
  have hk : at_ l 0 = 193 → (headOf l).kind = 0 := fun h => by rw [headOf, if_neg h0, h]; rfl
  have hk2 : (headOf l).kind ≠ 1 ∧ (headOf l).kind ≠ 2 := by
    rw [headOf, if_neg h0]
    by_cases g : 196 ≤ at_ l 0 ∧ at_ l 0 < 224
    · rw [if_neg (by omega), if_neg (by omega), if_neg (by omega), if_neg (by omega), if_neg (by omega), if_neg (by omega), if_neg (by omega), if_neg (by omega)]
      have := headBig_kind l (at_ l 0) g.1 g.2
      omega
    · repeat' split
      all_goals first | (simp; done) | omega
  refine .inr (.inr (.inr (.inr ⟨hp, hk2.1, hk2.2, ⟨_, ?_, fails_bp l 10 _ hp hc hk⟩, ⟨_, ?_, fails_bp l 7 _ hp hc hk⟩⟩)))
  · rw [rdNil, if_neg h0, if_neg h1]
  · rw [rdBool, if_neg h0, if_neg h3, if_neg h2]

set_option maxHeartbeats 4000000 in
set_option maxRecDepth 100000 in
theorem fnReadSmall_c (A : Option Addr) (n c : Nat) (l : List Int) (w : World) (hr : Rd w A l) (hn : l.length = n) (hnc : n ≤ c) (hm : c ≤ maxLen) (hG : Glob w) :
    Calls Tryd.prog 3 #[.slice A n c] w fun e w' => e = .returned (.bool true) ∧ Below w.heap.size w w' := by
  have hN : Hid (l.length = n) := hn
  clear hn
  have hM : Hid (c ≤ maxLen) := hm
  clear hm
  have HG : Hid (Glob w) := hG
  clear hG
  by_cases h1 : 2147483647 < n
  · go_enter Tryd.func3, Tryd.ntmps3
    go_wp2_with fail
    go_ret
    exact ⟨rfl, Below.refl _ _⟩
  by_cases h2 : 131072 < n
  · go_enter Tryd.func3, Tryd.ntmps3
    go_wp2_with fail
    go_ret
    exact ⟨rfl, Below.refl _ _⟩
  have h3 : n ≤ 131072 := by omega
  have h4 : n ≤ 1000000000000 := by omega
  clear h1 h2
  have hP0 := small_plain l hr.1
  rw [hN.out] at hP0
  have hP := hid hP0
  clear hP0
  have nil_c : ∀ W : World, Rd W A l → Glob W → Calls Tryd.prog 13 #[.slice A n c] W fun e w' => e = .returned (.tuple #[.int .i64 (rdNil l).1, .int .i64 (rdNil l).2.code]) ∧ Below W.heap.size W w' := fun W hr' hG' => implNil_c A n c l W hr' hN.out h4 hG'
  have bool_c : ∀ W : World, Rd W A l → Glob W → Calls Tryd.prog 14 #[.slice A n c] W fun e w' => e = .returned (.tuple #[.bool (rdBool l).1, .int .i64 (rdBool l).2.1, .int .i64 (rdBool l).2.2.code]) ∧ Below W.heap.size W w' := fun W hr' hG' => implBool_c A n c l W hr' hN.out h4 hG'
  go_enter Tryd.func3, Tryd.ntmps3
  go_wp2_with fail
  ((with_reducible refine (headOf_c _ _ _ l _ hr hN.out hnc hM.out).mono ?_); rintro e w1 ⟨rfl, hb1⟩)
  have hr1 := hr.mono hb1
  have HG1 : Hid (Glob w1) := HG.out.mono hb1
  have hH := hcells_new w1 (headOf l)
  have hF : ∀ (e : Er) (W : World), Calls Tryd.prog 15 #[.slice A n c, (headOf l).val, .int .i64 e.code] W fun x W' => x = .returned (.bool (failsB n (headOf l).kind e.code)) ∧ Below W.heap.size W W' := fun e W => fails_c A n c _ _ _ _ _ _ e.code W
  generalize headOf l = H at hP hH hF
  obtain ⟨k, x, len, t, s, sh⟩ := H
  generalize rdNil l = R at hP nil_c
  obtain ⟨k1, e1⟩ := R
  generalize rdBool l = S at hP bool_c
  obtain ⟨b1, k2, e2⟩ := S
  simp only at nil_c bool_c hF
  have hF' := hid hF
  clear hF
  go_wp2_with fail
  ((with_reducible refine (nil_c _ (hr1.alloc _) (HG1.out.alloc _)).mono ?_); rintro e w2 ⟨rfl, hb2⟩)
  have hH2 := hH.mono hb2
  go_wp2_with fail
  ((with_reducible refine (bool_c _ ((hr1.alloc _).mono hb2) ((HG1.out.alloc _).mono hb2)).mono ?_); rintro e w3 ⟨rfl, hb3⟩)
  have hH3 := hH2.mono hb3
  have hend : ∀ W : World, Below w3.heap.size w3 W → Below w.heap.size w W := fun W h =>
    hb1.trans (((((Below.refl _ _).alloc (Nat.le_refl _) _).trans (hb2.mono (by simp))).trans ((hb3.trans (h.mono hb3.size)).mono (Nat.le_trans (by simp) hb2.size))).mono hb1.size)
  have hB : Below w3.heap.size w3 w3.drew := (Below.refl _ _).drew
  obtain ⟨d0, d1, d2, d3, d4, d5⟩ := id hH3
  go_wp2_with fail
  go_region_with (first | (go_at_call 15; ((with_reducible refine (hF'.out _ _).mono ?_); rintro e w4 ⟨rfl, hb4⟩; have hB := hB.trans (hb4.mono hB.size); obtain ⟨d0, d1, d2, d3, d4, d5⟩ := hH3.mono hB)))
  all_goals
    rcases hP.out with ⟨p1, p2, p3, p4⟩ | ⟨p1, p2, p3, p4⟩ | ⟨p1, p2, p3, p4, p5⟩ | ⟨p1, p2, p3, p4, p5⟩ | ⟨p1, p2, p3, ⟨r1, p4, f1⟩, ⟨r2, p5, f2⟩⟩
    · subst p2; cases p3; cases p4; subst p1
      go_wp2_with fail
      go_ret
      exact ⟨rfl, hend _ hB⟩
    · subst p2; cases p3; cases p4
      have q : ((n - 1 : Nat) : Int) = (n : Int) - 1 := by omega
      have f1 : failsB n 1 (Er.type 7 10).code = true := by simp [failsB, Er.code, p1]
      go_wp2_with fail
      go_ret
      exact ⟨by first | rfl | (simp [f1, q]; done), hend _ hB⟩
    · subst p2 p3; cases p4; cases p5
      have q : ((n - 1 : Nat) : Int) = (n : Int) - 1 := by omega
      have f1 : failsB n 2 (Er.type 10 7).code = true := by simp [failsB, Er.code, p1]
      go_wp2_with fail
      go_ret
      exact ⟨by first | rfl | (simp [f1, q]; done), hend _ hB⟩
    · subst p2 p3; cases p4; cases p5
      have q : ((n - 1 : Nat) : Int) = (n : Int) - 1 := by omega
      have f1 : failsB n 2 (Er.type 10 7).code = true := by simp [failsB, Er.code, p1]
      go_wp2_with fail
      go_ret
      exact ⟨by first | rfl | (simp [f1, q]; done), hend _ hB⟩
    · cases p4; cases p5
      have q1 : (k == 1) = false := by simpa using p2
      have q2 : (k == 2) = false := by simpa using p3
      go_wp2_with fail
      go_ret
      exact ⟨by first | rfl | (simp [f1, f2]; done), hend _ hB⟩
end Go.Proofs.YtmhilpnagpkkiaaDoor
