/- The law FnReadExt, walked: an extension is read just if the bytes begin with one, whole, of the type. Conditions: the slice reads as bytes; the two sentinels' variables hold what the program lays in them. -/
import Derived.Test.YtmhilpnagpkkiaaDoorExtI
import Derived.Test.YtmhilpnagpkkiaaDoorHead
import Derived.Test.YtmhilpnagpkkiaaDoorFails
import Derived.Test.YtmhilpnagpkkiaaDoorKindPlain
namespace Go.Proofs.YtmhilpnagpkkiaaDoor
open Go Go.RowKit Go.Lib
set_option linter.unusedVariables false

/-- What is told and what is read. -/
def PlainEx (l : List Int) (h : Hd) (x : Except Er (Int × List Int × Nat)) : Prop :=
  (h.kind ≠ 11 ∧ ∀ t d k, x ≠ .ok (t, d, k)) ∨ (h.kind = 11 ∧ h.short = true ∧ ∀ t d k, x ≠ .ok (t, d, k)) ∨
  (h.kind = 11 ∧ h.short = false ∧ ∃ s m : Nat, h.size = s ∧ h.length = m ∧ s ≤ l.length ∧ m ≤ 4294967295 ∧ -128 ≤ h.typ ∧ h.typ ≤ 127 ∧ ((l.length < s + m ∧ ∀ t d k, x ≠ .ok (t, d, k)) ∨ (s + m ≤ l.length ∧ x = .ok (h.typ, (l.drop s).take m, l.length - (m + s)))))
theorem plain_ext {l : List Int} {y t : Int} {s m : Nat} (hs : s ≤ l.length) (hm : m ≤ 4294967295) (ht : -128 ≤ t ∧ t ≤ 127) : PlainEx l ⟨11, 0, (m : Int), t, s, false⟩ (bodyE l t s m) := by
  refine .inr (.inr ⟨rfl, rfl, s, m, rfl, rfl, hs, hm, ht.1, ht.2, ?_⟩)
  by_cases h : l.length < m + s
  · exact .inl ⟨by omega, fun t d k h' => by rw [bodyE_short h] at h'; cases h'⟩
  · exact .inr ⟨by omega, by rw [bodyE_ok rfl h]⟩
theorem no_err {r : Er} : ∀ (t : Int) (d : List Int) (k : Nat), (Except.error r : Except Er (Int × List Int × Nat)) ≠ .ok (t, d, k) := fun _ _ _ h => by cases h

theorem headBig_not11 (l : List Int) (c : Int) (h : ¬ (199 ≤ c ∧ c ≤ 201)) (h2 : ¬ (212 ≤ c ∧ c ≤ 216)) : NotK 11 (headBig l c) := by
  unfold headBig
  repeat' (first | (refine notK_mk ?_; omega) | (refine notK_ite ?_ ?_ <;> intro _))
theorem headOf_not11 (l : List Int) (h0 : ¬ l.length = 0) (h : ¬ (199 ≤ at_ l 0 ∧ at_ l 0 ≤ 201)) (h2 : ¬ (212 ≤ at_ l 0 ∧ at_ l 0 ≤ 216)) : (headOf l).kind ≠ 11 := by
  have key : NotK 11 (headOf l) := by
    have h' := h
    have h2' := h2
    unfold headOf
    rw [if_neg h0]
    repeat' (first | exact headBig_not11 l _ h' h2' | (refine notK_mk ?_; omega) | (refine notK_ite ?_ ?_ <;> intro _))
  exact key

theorem plainExt (l : List Int) (hb : Byts l) : PlainEx l (headOf l) (extR l) := by
  have hc := hb.at_ 0
  have a1 := hb.at_ 1
  have a2 := be2_range hb 1
  have a4 := be4_range hb 1
  have g1 := s8_range (at_ l 1)
  have g2 := s8_range (at_ l 2)
  have g3 := s8_range (at_ l 3)
  have g5 := s8_range (at_ l 5)
  by_cases h0 : l.length = 0
  · refine .inl ⟨by rw [headOf, if_pos h0]; decide, ?_⟩
    unfold extR; rw [if_pos (by omega)]; exact no_err
  by_cases hk : ¬ (199 ≤ at_ l 0 ∧ at_ l 0 ≤ 201) ∧ ¬ (212 ≤ at_ l 0 ∧ at_ l 0 ≤ 216)
  · refine .inl ⟨headOf_not11 l h0 hk.1 hk.2, ?_⟩
    unfold extR
    by_cases h3 : l.length < 3
    · rw [if_pos h3]; exact no_err
    rw [if_neg h3, if_neg (by omega), if_neg (by omega), if_neg (by omega), if_neg (by omega), if_neg (by omega), if_neg (by omega), if_neg (by omega), if_neg (by omega)]
    exact no_err
  rw [headOf_bigK l h0 (by omega) (by omega)]
  have hq : at_ l 0 = 212 ∨ at_ l 0 = 213 ∨ at_ l 0 = 214 ∨ at_ l 0 = 215 ∨ at_ l 0 = 216 ∨ at_ l 0 = 199 ∨ at_ l 0 = 200 ∨ at_ l 0 = 201 := by omega
  unfold extR
  rcases hq with h | h | h | h | h | h | h | h
  · rw [h]
    by_cases hs : l.length < 2
    · refine .inr (.inl ⟨?_, ?_, ?_⟩)
      · simp only [headBig, hs, if_true, if_false, Int.reduceEq]
      · simp only [headBig, hs, if_true, if_false, Int.reduceEq]
      · rw [if_pos (by omega)]; exact no_err
    simp only [headBig, hs, if_true, if_false, Int.reduceEq]
    by_cases h3 : l.length < 3
    · rw [if_pos h3]
      have e := plain_ext (l := l) (y := 0) (t := s8 (at_ l 1)) (s := 2) (m := 1) (by omega) (by omega) g1
      rw [bodyE_short (by omega)] at e
      exact e
    rw [if_neg h3]
    exact plain_ext (y := 0) (s := 2) (m := 1) (by omega) (by omega) g1
  · rw [h]
    by_cases hs : l.length < 2
    · refine .inr (.inl ⟨?_, ?_, ?_⟩)
      · simp only [headBig, hs, if_true, if_false, Int.reduceEq]
      · simp only [headBig, hs, if_true, if_false, Int.reduceEq]
      · rw [if_pos (by omega)]; exact no_err
    simp only [headBig, hs, if_true, if_false, Int.reduceEq]
    by_cases h3 : l.length < 3
    · rw [if_pos h3]
      have e := plain_ext (l := l) (y := 0) (t := s8 (at_ l 1)) (s := 2) (m := 2) (by omega) (by omega) g1
      rw [bodyE_short (by omega)] at e
      exact e
    rw [if_neg h3]
    exact plain_ext (y := 0) (s := 2) (m := 2) (by omega) (by omega) g1
  · rw [h]
    by_cases hs : l.length < 2
    · refine .inr (.inl ⟨?_, ?_, ?_⟩)
      · simp only [headBig, hs, if_true, if_false, Int.reduceEq]
      · simp only [headBig, hs, if_true, if_false, Int.reduceEq]
      · rw [if_pos (by omega)]; exact no_err
    simp only [headBig, hs, if_true, if_false, Int.reduceEq]
    by_cases h3 : l.length < 3
    · rw [if_pos h3]
      have e := plain_ext (l := l) (y := 0) (t := s8 (at_ l 1)) (s := 2) (m := 4) (by omega) (by omega) g1
      rw [bodyE_short (by omega)] at e
      exact e
    rw [if_neg h3]
    exact plain_ext (y := 0) (s := 2) (m := 4) (by omega) (by omega) g1
  · rw [h]
    by_cases hs : l.length < 2
    · refine .inr (.inl ⟨?_, ?_, ?_⟩)
      · simp only [headBig, hs, if_true, if_false, Int.reduceEq]
      · simp only [headBig, hs, if_true, if_false, Int.reduceEq]
      · rw [if_pos (by omega)]; exact no_err
    simp only [headBig, hs, if_true, if_false, Int.reduceEq]
    by_cases h3 : l.length < 3
    · rw [if_pos h3]
      have e := plain_ext (l := l) (y := 0) (t := s8 (at_ l 1)) (s := 2) (m := 8) (by omega) (by omega) g1
      rw [bodyE_short (by omega)] at e
      exact e
    rw [if_neg h3]
    exact plain_ext (y := 0) (s := 2) (m := 8) (by omega) (by omega) g1
  · rw [h]
    by_cases hs : l.length < 2
    · refine .inr (.inl ⟨?_, ?_, ?_⟩)
      · simp only [headBig, hs, if_true, if_false, Int.reduceEq]
      · simp only [headBig, hs, if_true, if_false, Int.reduceEq]
      · rw [if_pos (by omega)]; exact no_err
    simp only [headBig, hs, if_true, if_false, Int.reduceEq]
    by_cases h3 : l.length < 3
    · rw [if_pos h3]
      have e := plain_ext (l := l) (y := 0) (t := s8 (at_ l 1)) (s := 2) (m := 16) (by omega) (by omega) g1
      rw [bodyE_short (by omega)] at e
      exact e
    rw [if_neg h3]
    exact plain_ext (y := 0) (s := 2) (m := 16) (by omega) (by omega) g1
  · rw [h]
    obtain ⟨m, hv⟩ := Int.eq_ofNat_of_zero_le (show 0 ≤ at_ l 1 by omega)
    by_cases hs : l.length < 3
    · refine .inr (.inl ⟨?_, ?_, ?_⟩)
      · simp only [headBig, hs, if_true, if_false, Int.reduceEq]
      · simp only [headBig, hs, if_true, if_false, Int.reduceEq]
      · by_cases h3 : l.length < 3
        · rw [if_pos h3]; exact no_err
        · exact absurd hs h3
    simp only [headBig, hs, if_true, if_false, Int.reduceEq]
    rw [hv, Int.toNat_natCast]
    exact plain_ext (y := 0) (s := 3) (m := m) (by omega) (by omega) g2
  · rw [h]
    obtain ⟨m, hv⟩ := Int.eq_ofNat_of_zero_le (show 0 ≤ be2 l 1 by omega)
    by_cases hs : l.length < 4
    · refine .inr (.inl ⟨?_, ?_, ?_⟩)
      · simp only [headBig, hs, if_true, if_false, Int.reduceEq]
      · simp only [headBig, hs, if_true, if_false, Int.reduceEq]
      · by_cases h3 : l.length < 3
        · rw [if_pos h3]; exact no_err
        · rw [if_neg h3]; simp only [hs, if_true, if_false, Int.reduceEq]; exact no_err
    simp only [headBig, hs, if_true, if_false, Int.reduceEq]
    rw [if_neg (by omega), hv, Int.toNat_natCast]
    exact plain_ext (y := 0) (s := 4) (m := m) (by omega) (by omega) g3
  · rw [h]
    obtain ⟨m, hv⟩ := Int.eq_ofNat_of_zero_le (show 0 ≤ be4 l 1 by omega)
    by_cases hs : l.length < 6
    · refine .inr (.inl ⟨?_, ?_, ?_⟩)
      · simp only [headBig, hs, if_true, if_false, Int.reduceEq]
      · simp only [headBig, hs, if_true, if_false, Int.reduceEq]
      · by_cases h3 : l.length < 3
        · rw [if_pos h3]; exact no_err
        · rw [if_neg h3]; simp only [hs, if_true, if_false, Int.reduceEq]; exact no_err
    simp only [headBig, hs, if_true, if_false, Int.reduceEq]
    rw [if_neg (by omega), hv, Int.toNat_natCast]
    exact plain_ext (y := 0) (s := 6) (m := m) (by omega) (by omega) g5

set_option maxHeartbeats 4000000 in
set_option maxRecDepth 100000 in
theorem fnReadExt_any (typ : Int) (A : Option Addr) (n c : Nat) (l : List Int) (w : World) (ht : 6 ≤ typ ∧ typ ≤ 127) (hr : Rd w A l) (hn : l.length = n) (hnc : n ≤ c) (hm : c ≤ maxLen) (h3 : n ≤ 131072) (hG : Glob w) :
    Calls Tryd.prog 8 #[.int .i8 typ, .slice A n c] w fun e w' => e = .returned (.bool true) ∧ Below w.heap.size w w' := by
  obtain ⟨ht0, ht1⟩ := ht
  have HG : Hid (Glob w) := hG
  have hp := plainExt l hr.1
  have hhead := headOf_c A n c l w hr hn hnc hm
  have hcall : ∀ W : World, Rd W A l → Glob W → Calls Tryd.prog 21 #[.int .i8 typ, .slice A n c] W (ExtTold W typ (extR l)) := fun W hr' hG' => implExt_c typ A n c l W (by omega) hr' hn (by omega) hG'
  have hcn := fun w1 : World => hcells_new w1 (headOf l)
  generalize headOf l = H at hp hhead hcn
  have HN : Hid (l.length = n) := hn
  have hm' : c ≤ 9223372036854775807 := by simp only [maxLen] at hm; omega
  simp only [PlainEx, hn] at hp
  clear hn hm hG
  obtain ⟨k, x, len, t, sz, sh⟩ := H
  simp only at hcn hp
  rcases hp with ⟨p1, p2⟩ | ⟨p1, p2, p3⟩ | ⟨p1, p2, s, m, p3, p4, p5, p6, p8, p9, p7⟩
  · have e7 : (k == 11) = false := by simpa using p1
    have f7 : (k != 11) = true := by simpa using p1
    clear p1
    go_enter Tryd.func8, Tryd.ntmps8
    go_wp2_with fail
    ((with_reducible refine hhead.mono ?_); rintro e w1 ⟨rfl, hb1⟩)
    have hH := hcn w1
    go_wp2_with fail
    ((with_reducible refine (hcall _ ((hr.mono hb1).alloc _) ((HG.out.mono hb1).alloc _)).mono ?_); rintro e w2 ⟨hb2, (⟨d, k2, hx, v, rfl, hown⟩ | ⟨code, m2, A2, q2, c2, hcode, hx, rfl⟩)⟩)
    · exact absurd hx (p2 _ _ _)
    have f0 : (code != 0) = true := by simpa using hcode
    obtain ⟨d0, d1, d2, d3, d4, d5⟩ := hH.mono hb2
    go_wp2_with fail
    go_ret
    exact ⟨by first | rfl | (simp [f0]; done), below_via hb1 hb2⟩
  · subst p1 p2
    go_enter Tryd.func8, Tryd.ntmps8
    go_wp2_with fail
    ((with_reducible refine hhead.mono ?_); rintro e w1 ⟨rfl, hb1⟩)
    have hH := hcn w1
    go_wp2_with fail
    ((with_reducible refine (hcall _ ((hr.mono hb1).alloc _) ((HG.out.mono hb1).alloc _)).mono ?_); rintro e w2 ⟨hb2, (⟨d, k2, hx, v, rfl, hown⟩ | ⟨code, m2, A2, q2, c2, hcode, hx, rfl⟩)⟩)
    · exact absurd hx (p3 _ _ _)
    have f0 : (code != 0) = true := by simpa using hcode
    obtain ⟨d0, d1, d2, d3, d4, d5⟩ := hH.mono hb2
    go_wp2_with fail
    go_ret
    exact ⟨by first | rfl | (simp [f0]; done), below_via hb1 hb2⟩
  · subst p1 p2 p3 p4
    have hwr : wrap64 ((n : Int) - s) = (n : Int) - s := by unfold wrap64; omega
    rcases p7 with ⟨q1, q2⟩ | ⟨q1, q2⟩
    · have q3 : (n : Int) - s < m := by omega
      go_enter Tryd.func8, Tryd.ntmps8
      go_wp2_with fail
      ((with_reducible refine hhead.mono ?_); rintro e w1 ⟨rfl, hb1⟩)
      have hH := hcn w1
      go_wp2_with fail
      ((with_reducible refine (hcall _ ((hr.mono hb1).alloc _) ((HG.out.mono hb1).alloc _)).mono ?_); rintro e w2 ⟨hb2, (⟨d, k2, hx, v, rfl, hown⟩ | ⟨code, m2, A2, q2, c2, hcode, hx, rfl⟩)⟩)
      · exact absurd hx (q2 _ _ _)
      have f0 : (code != 0) = true := by simpa using hcode
      obtain ⟨d0, d1, d2, d3, d4, d5⟩ := hH.mono hb2
      go_wp2_with fail
      go_ret
      exact ⟨by first | rfl | (simp [f0]; done), below_via hb1 hb2⟩
    have hdec : ¬ (n : Int) - s < m := by omega
    by_cases htt : t = typ
    · subst htt
      obtain ⟨L, hLdef⟩ : ∃ L, L = (l.drop s).take m := ⟨_, rfl⟩
      have HL : Hid (L.length = m) := by show _ = _; rw [hLdef, List.length_take, List.length_drop, HN.out]; omega
      have hbL : Byts L := by rw [hLdef]; exact (hr.1.drop s).take m
      have HLd := Lib.hid hLdef
      rw [← hLdef] at q2
      have HQ := Lib.hid q2
      clear hLdef q2
      have hwr2 : wrap64 (((n : Int) - s) - m) = ((n - (m + s) : Nat) : Int) := by unfold wrap64; omega
      have hws : IntKind.i64.wrap ((s : Int) + m) = (s : Int) + m := IntWalk.i64_in _ (by omega)
      have i1 : (s : Int) + m ≤ n := by omega
      have i2 : (s : Int) ≤ (s : Int) + m := by omega
      have i3 : (s : Int) + m ≤ c := by omega
      have i4 : ((s : Int) + m).toNat = s + m := by omega
      clear q1
      by_cases hz : m = 0
      · subst hz
        have hLn : L = [] := List.eq_nil_of_length_eq_zero HL.out
        subst hLn
        go_enter Tryd.func8, Tryd.ntmps8
        go_wp2_with fail
        ((with_reducible refine hhead.mono ?_); rintro e w1 ⟨rfl, hb1⟩)
        have hH := hcn w1
        go_wp2_with fail
        ((with_reducible refine (hcall _ ((hr.mono hb1).alloc _) ((HG.out.mono hb1).alloc _)).mono ?_); rintro e w2 ⟨hb2, (⟨d, k2, hx, v, rfl, hown⟩ | ⟨code, m2, A2, q2, c2, hcode, hx, rfl⟩)⟩)
        · have e1 := HQ.out
          rw [hx] at e1
          cases e1
          obtain ⟨A2, c2, rfl, -, -, hr2⟩ := hown.open_ Byts.nil
          obtain ⟨d0, d1, d2, d3, d4, d5⟩ := hH.mono hb2
          clear hx hcall
          go_wp2_with fail
          all_goals
            ((with_reducible refine (same_c _ _ 0 _ _ [] _ (Rd.nil _ _) (Rd.nil _ _) rfl).mono ?_); rintro e w3 ⟨rfl, rfl⟩)
            go_wp2_with fail
            go_ret
            exact ⟨by first | rfl | (clear hwr hwr2 hws; simp <;> omega), below_via hb1 hb2⟩
        · exact absurd HQ.out (hx _ _)
      · obtain ⟨g, o, rfl, -⟩ := hr.open_ (by have := HN.out; omega)
        have ec : ¬ c = s := by omega
        have hrk := hr.cutTake s m
        rw [← HLd.out] at hrk
        go_enter Tryd.func8, Tryd.ntmps8
        go_wp2_with fail
        ((with_reducible refine hhead.mono ?_); rintro e w1 ⟨rfl, hb1⟩)
        have hH := hcn w1
        go_wp2_with fail
        ((with_reducible refine (hcall _ ((hr.mono hb1).alloc _) ((HG.out.mono hb1).alloc _)).mono ?_); rintro e w2 ⟨hb2, (⟨d, k2, hx, v, rfl, hown⟩ | ⟨code, m2, A2, q2, c2, hcode, hx, rfl⟩)⟩)
        · have e1 := HQ.out
          rw [hx] at e1
          cases e1
          obtain ⟨A2, c2, rfl, -, -, hr2⟩ := hown.open_ hbL
          obtain ⟨d0, d1, d2, d3, d4, d5⟩ := hH.mono hb2
          clear hx hcall
          go_wp2_with fail
          rw [HL.out]
          ((with_reducible refine (same_c _ _ m _ _ L _ hr2 (((hrk.mono hb1).alloc _).mono hb2) HL.out).mono ?_); rintro e w3 ⟨rfl, rfl⟩)
          go_wp2_with fail
          go_ret
          exact ⟨by first | rfl | (clear hwr hwr2 hws; simp <;> omega), below_via hb1 hb2⟩
        · exact absurd HQ.out (hx _ _)
    · have e8 : (t == typ) = false := by simpa using htt
      have f8 : (t != typ) = true := by simpa using htt
      go_enter Tryd.func8, Tryd.ntmps8
      go_wp2_with fail
      ((with_reducible refine hhead.mono ?_); rintro e w1 ⟨rfl, hb1⟩)
      have hH := hcn w1
      go_wp2_with fail
      ((with_reducible refine (hcall _ ((hr.mono hb1).alloc _) ((HG.out.mono hb1).alloc _)).mono ?_); rintro e w2 ⟨hb2, (⟨d, k2, hx, v, rfl, hown⟩ | ⟨code, m2, A2, q2, c2, hcode, hx, rfl⟩)⟩)
      · rw [q2] at hx; cases hx; exact absurd rfl htt
      have f0 : (code != 0) = true := by simpa using hcode
      obtain ⟨d0, d1, d2, d3, d4, d5⟩ := hH.mono hb2
      go_wp2_with fail
      go_ret
      exact ⟨by first | rfl | (simp [f0]; done), below_via hb1 hb2⟩

set_option maxHeartbeats 1000000 in
set_option maxRecDepth 100000 in
theorem fnReadExt_c (typ : Int) (A : Option Addr) (n c : Nat) (l : List Int) (w : World) (ht : -128 ≤ typ ∧ typ ≤ 127) (hr : Rd w A l) (hn : l.length = n) (hnc : n ≤ c) (hm : c ≤ maxLen) (hG : Glob w) :
    Calls Tryd.prog 8 #[.int .i8 typ, .slice A n c] w fun e w' => e = .returned (.bool true) ∧ Below w.heap.size w w' := by
  by_cases h1 : 2147483647 < n
  · clear hn
    go_enter Tryd.func8, Tryd.ntmps8
    go_wp2_with fail
    go_ret
    exact ⟨rfl, Below.refl _ _⟩
  by_cases h2 : 131072 < n
  · clear hn
    go_enter Tryd.func8, Tryd.ntmps8
    go_wp2_with fail
    go_ret
    exact ⟨rfl, Below.refl _ _⟩
  by_cases h4 : typ < 6
  · have h3 : n ≤ 131072 := by omega
    clear hn
    go_enter Tryd.func8, Tryd.ntmps8
    go_wp2_with fail
    go_ret
    exact ⟨rfl, Below.refl _ _⟩
  exact fnReadExt_any typ A n c l w (by omega) hr hn hnc hm (by omega) hG
end Go.Proofs.YtmhilpnagpkkiaaDoor
