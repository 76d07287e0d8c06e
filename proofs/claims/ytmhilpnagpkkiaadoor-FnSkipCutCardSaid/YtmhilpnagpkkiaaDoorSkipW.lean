/- msgp's skipDepth and Skip, and the thin package's Skip, walked: an object is passed over. Conditions: the slice reads as bytes; the two sentinels' variables hold what the program lays in them. -/
import Derived.Test.YtmhilpnagpkkiaaDoorGetSize
import Derived.Test.YtmhilpnagpkkiaaDoorSame
namespace Go.Proofs.YtmhilpnagpkkiaaDoor
open Go Go.RowKit Go.Lib
set_option linter.unusedVariables false

/-- 'The call passes over an object, or tells an error.' -/
def SkipRet (w : World) (l : List Int) (n d : Nat) (e : Ending) (w' : World) : Prop :=
  Below w.heap.size w w' ∧ ((∃ k, obj d l = .ok k ∧ ∃ A c, e = .returned (.tuple #[.slice A (n - k) c, .nilIface]) ∧ Rd w' A (l.drop k) ∧ n - k ≤ c ∧ c ≤ maxLen) ∨ (∃ r, obj d l = .error r ∧ r.code ≠ 0 ∧ ∃ A m c, e = .returned (.tuple #[.slice A m c, r.val])))

theorem obj_succ_err {d : Nat} {l : List Int} {a b : Int} {r : Er} (hg : gsz l = (a, b, r)) (hr : r.code ≠ 0) : obj (d + 1) l = .error r := by
  have e : step l = .error r := by unfold step; rw [hg, if_pos hr]
  simp only [obj, e]
theorem obj_succ_short {d : Nat} {l : List Int} {a b : Int} (hg : gsz l = (a, b, .ok)) (h : (l.length : Int) < a) : obj (d + 1) l = .error .short := by
  have e : step l = .error .short := by unfold step; rw [hg, if_neg (by simp [Er.code]), if_pos h]
  simp only [obj, e]
theorem obj_succ_ok {d : Nat} {l : List Int} {t m : Nat} (hg : gsz l = ((t : Int), (m : Int), Er.ok)) (h : ¬ l.length < t) : obj (d + 1) l = oloop (obj d) l m t := by
  have e : step l = .ok (t, m) := by
    unfold step; rw [hg, if_neg (by simp [Er.code]), if_neg (by simp only []; omega)]
    simp
  simp only [obj, e]
theorem oloop_zero (f : List Int → Except Er Nat) (l : List Int) (p : Nat) : oloop f l 0 p = .ok p := rfl
theorem oloop_ok {f : List Int → Except Er Nat} {l : List Int} {j p k : Nat} (h : f (l.drop p) = .ok k) : oloop f l (j + 1) p = oloop f l j (p + k) := by
  simp only [oloop, h]
theorem oloop_error {f : List Int → Except Er Nat} {l : List Int} {j p : Nat} {r : Er} (h : f (l.drop p) = .error r) : oloop f l (j + 1) p = .error r := by
  simp only [oloop, h]

set_option maxHeartbeats 2000000 in
set_option maxRecDepth 100000 in
theorem skip_zero (A : Option Addr) (n c : Nat) (l : List Int) (w : World) (hG : Glob w) : Calls Tryd.prog 50 #[.slice A n c, .int .i64 100000] w (SkipRet w l n 0) := by
  obtain ⟨gs, gr⟩ := hG
  go_enter Tryd.func50, Tryd.ntmps50
  go_wp2_with fail
  all_goals try (go_quiet (fail); go_wp2_with fail)
  all_goals
    go_ret2
    exact ⟨by first | exact Below.refl _ _ | exact below_drewN (Below.refl _ _) _, Or.inr ⟨.deep, rfl, by decide, _, _, _, rfl⟩⟩

set_option maxHeartbeats 4000000 in
set_option maxRecDepth 100000 in
theorem skip_err (A : Option Addr) (n c : Nat) (l : List Int) (d : Nat) (D a b : Int) (r : Er) (w : World) (h0 : 0 ≤ D) (h1 : D < 100000) (hg : gsz l = (a, b, r)) (hr : r.code ≠ 0)
    (hgs : Calls Tryd.prog 69 #[.slice A n c] w fun e w' => e = .returned (.tuple #[.int .u64 a, .int .u64 b, r.val]) ∧ Below w.heap.size w w') : Calls Tryd.prog 50 #[.slice A n c, .int .i64 D] w (SkipRet w l n (d + 1)) := by
  have hob := Lib.hid (obj_succ_err (d := d) hg hr)
  have hr' := Lib.hid hr
  clear hg hr
  cases r
  · exact absurd rfl hr'.out
  all_goals
    go_enter Tryd.func50, Tryd.ntmps50
    go_wp2_with fail
    ((with_reducible refine hgs.mono ?_); rintro e w1 ⟨rfl, hb1⟩)
    go_wp2_with fail
    go_ret2
    exact ⟨hb1, Or.inr ⟨_, hob.out, hr'.out, _, _, _, rfl⟩⟩

set_option maxHeartbeats 4000000 in
set_option maxRecDepth 100000 in
theorem skip_short (A : Option Addr) (n c : Nat) (l : List Int) (d : Nat) (D a b : Int) (w : World) (h0 : 0 ≤ D) (h1 : D < 100000) (hn : l.length = n) (hn2 : n ≤ 9223372036854775807) (ha : 0 ≤ a) (ha2 : a ≤ 4294967327) (hs : (n : Int) < a) (hg : gsz l = (a, b, .ok)) (hG : Glob w)
    (hgs : Calls Tryd.prog 69 #[.slice A n c] w fun e w' => e = .returned (.tuple #[.int .u64 a, .int .u64 b, .nilIface]) ∧ Below w.heap.size w w') : Calls Tryd.prog 50 #[.slice A n c, .int .i64 D] w (SkipRet w l n (d + 1)) := by
  have hob := Lib.hid (obj_succ_short (d := d) hg (by rw [hn]; exact hs))
  have HG := Lib.hid hG
  clear hg hG hn
  go_enter Tryd.func50, Tryd.ntmps50
  go_wp2_with fail
  ((with_reducible refine hgs.mono ?_); rintro e w1 ⟨rfl, hb1⟩)
  have gs1 := (HG.out.mono hb1).1
  go_wp2_with fail
  all_goals try (go_quiet (fail); go_wp2_with fail)
  all_goals
    go_ret2
    exact ⟨by first | exact hb1 | exact below_drewN hb1 _, Or.inr ⟨.short, hob.out, by decide, _, _, _, rfl⟩⟩

/-- A slice from k on: where it lies, whatever k is. -/
theorem rd_from {w : World} {A : Option Addr} {l : List Int} {n : Nat} (hr : Rd w A l) (hn : l.length = n) (k : Nat) (hk : k < n) : ∃ g o, A = some ⟨g, o, none⟩ ∧ Rd w (some ⟨g, o + k, none⟩) (l.drop k) := by
  obtain ⟨g, o, rfl, -⟩ := hr.open_ (by omega)
  exact ⟨g, o, rfl, hr.cut k⟩
theorem rd_end {w : World} {l : List Int} {n : Nat} (hn : l.length = n) (A : Option Addr) : Rd w A (l.drop n) := by
  rw [List.drop_eq_nil_of_le (by omega)]; exact Rd.nil _ _

set_option maxHeartbeats 8000000 in
set_option maxRecDepth 100000 in
theorem skip_loop (d : Nat) (ih : ∀ (D : Int) (A : Option Addr) (n c : Nat) (l : List Int) (w : World), D + d = 100000 → 0 ≤ D → Rd w A l → l.length = n → n ≤ c → c ≤ maxLen → Glob w → Calls Tryd.prog 50 #[.slice A n c, .int .i64 D] w (SkipRet w l n d))
    (A : Option Addr) (n c : Nat) (l : List Int) (D : Int) (t m : Nat) (w : World) (hD : D + d + 1 = 100000) (h0 : 0 ≤ D) (hr : Rd w A l) (hn : l.length = n) (hnc : n ≤ c) (hm : c ≤ maxLen) (ht0 : 1 ≤ t) (ht : t ≤ n) (hmm : m ≤ 8589934590) (hg : gsz l = ((t : Int), (m : Int), Er.ok)) (hG : Glob w)
    (hgs : Calls Tryd.prog 69 #[.slice A n c] w fun e w' => e = .returned (.tuple #[.int .u64 t, .int .u64 m, .nilIface]) ∧ Below w.heap.size w w') : Calls Tryd.prog 50 #[.slice A n c, .int .i64 D] w (SkipRet w l n (d + 1)) := by
  have hob := Lib.hid (obj_succ_ok (d := d) hg (by omega))
  have HG := Lib.hid hG
  have HN : Hid (l.length = n) := hn
  have hm' : c ≤ 9223372036854775807 := by simp only [maxLen] at hm; omega
  have HM := Lib.hid hm
  have IH := Lib.hid ih
  have HD := Lib.hid hD
  have h1 : D < 100000 := by omega
  clear hg hG hn hm ih hD
  have key : ∀ (A0 : Option Addr) (W : World), Rd W A0 (l.drop t) → Below w.heap.size w W → True := fun _ _ _ _ => trivial
  obtain ⟨g, o, rfl, hg0, -⟩ := hr.open_ (by have := HN.out; omega)
  have x1 : decide (n < t) = false := by simp; omega
  have x2 : decide ((n : Int) < (t : Int)) = false := by simp; omega
  have x3 : decide (100000 ≤ D) = false := by simp; omega
  go_enter Tryd.func50, Tryd.ntmps50
  go_wp2_with fail
  ((with_reducible refine hgs.mono ?_); rintro e w1 ⟨rfl, hb1⟩)
  have hr1 := hr.mono hb1
  clear hgs hr
  by_cases hct : c = t
  · subst hct
    obtain rfl : n = c := by omega
    have hre : ∀ W, Rd W (some ⟨g, o, none⟩) (l.drop n) := fun W => rd_end HN.out _
    go_wp2_with fail
    go_loopw [0, 7] (fun b z wr => ∃ (j p : Nat) (A' : Option Addr) (c' : Nat), z = .int .u64 j ∧ b = .slice A' (n - p) c' ∧ j ≤ 8589934590 ∧ p ≤ n ∧ Rd wr A' (l.drop p) ∧ Hid (n - p ≤ c' ∧ c' ≤ maxLen) ∧ Below w.heap.size w wr ∧ Hid (oloop (obj d) l j p = obj (d + 1) l)) (fun _ z _ => (intOf z).toNat)
    case atStart => exact ⟨m, n, _, _, rfl, by rw [Nat.sub_self], hmm, by omega, hre _, ⟨by omega, by have := HM.out; omega⟩, hb1, hob.out.symm⟩
    case round =>
      obtain ⟨j, p, A', c', rfl, rfl, hj, hp, hrp, hcc, hbp, hoo⟩ := hrel
      have HGr : Hid (Glob wr) := HG.out.mono hbp
      rcases j with _ | j
      · go_wp2_with fail
        go_ret2
        exact ⟨hbp, Or.inl ⟨p, by have := hoo.out; rw [oloop_zero] at this; exact this.symm, _, _, rfl, hrp, hcc.out.1, hcc.out.2⟩⟩
      · have hdr : Hid ((l.drop p).length = n - p) := by show _ = _; rw [List.length_drop, HN.out]
        have hj1 : ((j + 1 : Nat) : Int) - 1 = j := by omega
        go_wp2_with fail
        ((with_reducible refine (IH.out (D + 1) _ _ _ (l.drop p) _ (by have := HD.out; omega) (by omega) hrp hdr.out hcc.out.1 hcc.out.2 HGr.out).mono ?_); rintro e w2 ⟨hb2, ⟨k, hk, A2, c2, rfl, hr2, hc2, hm2⟩ | ⟨r, hk, hrc, A2, m2, c2, rfl⟩⟩)
        · have hle := Lib.hid (obj_le d _ hrp.1 k hk)
          have hk' := Lib.hid hk
          have hcc2 : Hid (n - p - k ≤ c2 ∧ c2 ≤ maxLen) := ⟨hc2, hm2⟩
          clear hk hc2 hm2
          go_wp2_with fail
          go_roundw
          case rel =>
            refine ⟨j, p + k, A2, c2, by go_num, by rw [Nat.sub_sub], by omega, by have := hle.out; rw [hdr.out] at this; omega, by rw [← List.drop_drop]; exact hr2, by rw [← Nat.sub_sub]; exact hcc2.out, below_step hbp hb2, ?_⟩
            have := hoo.out
            rw [oloop_ok hk'.out] at this
            exact this
          case measure => simp [intOf]
        · have hk' := Lib.hid hk
          clear hk
          have hrc' := Lib.hid hrc
          clear hrc
          have hob2 : Hid (obj (d + 1) l = .error r) := by
            have := hoo.out
            rw [oloop_error hk'.out] at this
            exact this.symm
          cases r
          · exact absurd rfl hrc'.out
          all_goals
            go_wp2_with fail
            go_ret2
            exact ⟨below_step hbp hb2, Or.inr ⟨_, hob2.out, hrc'.out, _, _, _, rfl⟩⟩
  · have hre := hr1.cut t
    go_wp2_with fail
    go_loopw [0, 7] (fun b z wr => ∃ (j p : Nat) (A' : Option Addr) (c' : Nat), z = .int .u64 j ∧ b = .slice A' (n - p) c' ∧ j ≤ 8589934590 ∧ p ≤ n ∧ Rd wr A' (l.drop p) ∧ Hid (n - p ≤ c' ∧ c' ≤ maxLen) ∧ Below w.heap.size w wr ∧ Hid (oloop (obj d) l j p = obj (d + 1) l)) (fun _ z _ => (intOf z).toNat)
    case atStart => exact ⟨m, t, _, _, rfl, rfl, hmm, by omega, hre, ⟨by omega, by have := HM.out; omega⟩, hb1, hob.out.symm⟩
    case round =>
      obtain ⟨j, p, A', c', rfl, rfl, hj, hp, hrp, hcc, hbp, hoo⟩ := hrel
      have HGr : Hid (Glob wr) := HG.out.mono hbp
      rcases j with _ | j
      · go_wp2_with fail
        go_ret2
        exact ⟨hbp, Or.inl ⟨p, by have := hoo.out; rw [oloop_zero] at this; exact this.symm, _, _, rfl, hrp, hcc.out.1, hcc.out.2⟩⟩
      · have hdr : Hid ((l.drop p).length = n - p) := by show _ = _; rw [List.length_drop, HN.out]
        have hj1 : ((j + 1 : Nat) : Int) - 1 = j := by omega
        go_wp2_with fail
        ((with_reducible refine (IH.out (D + 1) _ _ _ (l.drop p) _ (by have := HD.out; omega) (by omega) hrp hdr.out hcc.out.1 hcc.out.2 HGr.out).mono ?_); rintro e w2 ⟨hb2, ⟨k, hk, A2, c2, rfl, hr2, hc2, hm2⟩ | ⟨r, hk, hrc, A2, m2, c2, rfl⟩⟩)
        · have hle := Lib.hid (obj_le d _ hrp.1 k hk)
          have hk' := Lib.hid hk
          have hcc2 : Hid (n - p - k ≤ c2 ∧ c2 ≤ maxLen) := ⟨hc2, hm2⟩
          clear hk hc2 hm2
          go_wp2_with fail
          go_roundw
          case rel =>
            refine ⟨j, p + k, A2, c2, by go_num, by rw [Nat.sub_sub], by omega, by have := hle.out; rw [hdr.out] at this; omega, by rw [← List.drop_drop]; exact hr2, by rw [← Nat.sub_sub]; exact hcc2.out, below_step hbp hb2, ?_⟩
            have := hoo.out
            rw [oloop_ok hk'.out] at this
            exact this
          case measure => simp [intOf]
        · have hk' := Lib.hid hk
          clear hk
          have hrc' := Lib.hid hrc
          clear hrc
          have hob2 : Hid (obj (d + 1) l = .error r) := by
            have := hoo.out
            rw [oloop_error hk'.out] at this
            exact this.symm
          cases r
          · exact absurd rfl hrc'.out
          all_goals
            go_wp2_with fail
            go_ret2
            exact ⟨below_step hbp hb2, Or.inr ⟨_, hob2.out, hrc'.out, _, _, _, rfl⟩⟩

theorem skipDepth_c : ∀ (d : Nat) (D : Int) (A : Option Addr) (n c : Nat) (l : List Int) (w : World), D + d = 100000 → 0 ≤ D → Rd w A l → l.length = n → n ≤ c → c ≤ maxLen → Glob w → Calls Tryd.prog 50 #[.slice A n c, .int .i64 D] w (SkipRet w l n d)
  | 0, D, A, n, c, l, w, hD, h0, hr, hn, hnc, hm, hG => by
    obtain rfl : D = 100000 := by omega
    exact skip_zero A n c l w hG
  | d + 1, D, A, n, c, l, w, hD, h0, hr, hn, hnc, hm, hG => by
    have hgs := getSize_c A n c l w hr hn hnc hm hG
    have hm' : c ≤ 9223372036854775807 := by simp only [maxLen] at hm; omega
    have hrg := gsz_range l hr.1
    obtain ⟨a, b, r, e⟩ : ∃ a b r, gsz l = (a, b, r) := ⟨_, _, _, rfl⟩
    rw [e] at hgs hrg
    simp only at hgs hrg
    rcases hrg with ⟨g1, g2, g3, g4, g5, g6, g7⟩ | ⟨g1, g2, g3⟩
    · subst g2
      by_cases hs : (n : Int) < a
      · exact skip_short A n c l d D a b w h0 (by omega) hn (by omega) (by omega) g4 hs e hG hgs
      · obtain ⟨t, rfl⟩ := Int.eq_ofNat_of_zero_le (show 0 ≤ a by omega)
        obtain ⟨m, rfl⟩ := Int.eq_ofNat_of_zero_le g5
        exact skip_loop d (skipDepth_c d) A n c l D t m w (by omega) h0 hr hn hnc hm (by omega) (by omega) (by omega) e hG hgs
    · exact skip_err A n c l d D a b r w h0 (by omega) e g1 hgs

set_option maxHeartbeats 1000000 in
theorem skip_c (A : Option Addr) (n c : Nat) (l : List Int) (w : World) (hr : Rd w A l) (hn : l.length = n) (hnc : n ≤ c) (hm : c ≤ maxLen) (hG : Glob w) : Calls Tryd.prog 33 #[.slice A n c] w (SkipRet w l n 100000) := by
  have hcall := skipDepth_c 100000 0 A n c l w (by omega) (by omega) hr hn hnc hm hG
  clear hr hn hnc hm hG
  go_enter Tryd.func33, Tryd.ntmps33
  go_wp2_with fail
  ((with_reducible refine hcall.mono ?_); rintro e w1 ⟨hb1, ⟨k, hk, A1, c1, rfl, hr1, hc1, hm1⟩ | ⟨r, hk, hrc, A1, m1, c1, rfl⟩⟩)
  · go_wp2_with fail
    go_ret2
    exact ⟨hb1, Or.inl ⟨k, hk, _, _, rfl, hr1, hc1, hm1⟩⟩
  · go_wp2_with fail
    go_ret2
    exact ⟨hb1, Or.inr ⟨r, hk, hrc, _, _, _, rfl⟩⟩

/-- 'What is left, and the code.' -/
def SkipTold (w : World) (l : List Int) (n : Nat) (e : Ending) (w' : World) : Prop :=
  Below w.heap.size w w' ∧ ((∃ k, obj 100000 l = .ok k ∧ e = .returned (.tuple #[.int .i64 ((n - k : Nat) : Int), .int .i64 0])) ∨ (∃ r m, obj 100000 l = .error r ∧ r.code ≠ 0 ∧ e = .returned (.tuple #[.int .i64 m, .int .i64 r.code])))

set_option maxHeartbeats 1000000 in
set_option maxRecDepth 100000 in
theorem implSkip_c (A : Option Addr) (n c : Nat) (l : List Int) (w : World) (hr : Rd w A l) (hn : l.length = n) (hle : n ≤ 1000000000000) (hG : Glob w) :
    Calls Tryd.prog 17 #[.slice A n c] w (SkipTold w l n) := by
  subst hn
  have hcall : ∀ (A : Option Addr) (c : Nat) (w : World), Rd w A l → l.length ≤ c → c ≤ maxLen → Glob w → Calls Tryd.prog 33 #[.slice A l.length c] w (SkipRet w l l.length 100000) := fun A c w a b d e => skip_c A _ c l w a rfl b d e
  have HG : Hid (Glob w) := hG
  clear hG
  go_enter Tryd.func17, Tryd.ntmps17
  go_wp2_with fail
  ((with_reducible refine (clone_c _ _ _ l _ hr rfl hle).mono ?_); rintro e w1 ⟨v, rfl, hown, hb1⟩)
  obtain ⟨A1, c1, rfl, hc1, hm1, hr1⟩ := hown.open_ hr.1
  go_wp2_with fail
  ((with_reducible refine (hcall _ _ _ hr1 hc1 hm1 (HG.out.mono hb1)).mono ?_); rintro e w2 ⟨hb2, ⟨k, hk, A2, c2, rfl, hr2, hc2, hm2⟩ | ⟨r, hk, hrc, A2, m2, c2, rfl⟩⟩)
  · have hk' := Lib.hid hk
    clear hk hcall
    go_wp2_with fail
    ((with_reducible refine (codeOf_c .ok _ ((HG.out.mono hb1).mono hb2)).mono ?_); rintro e w3 ⟨rfl, hb3⟩)
    go_wp2_with fail
    go_ret2
    exact ⟨below_step (below_step hb1 hb2) hb3, Or.inl ⟨k, hk'.out, rfl⟩⟩
  · have hk' := Lib.hid hk
    clear hk hcall
    go_wp2_with fail
    ((with_reducible refine (codeOf_c r _ ((HG.out.mono hb1).mono hb2)).mono ?_); rintro e w3 ⟨rfl, hb3⟩)
    go_wp2_with fail
    go_ret2
    exact ⟨below_step (below_step hb1 hb2) hb3, Or.inr ⟨r, _, hk'.out, hrc, rfl⟩⟩
end Go.Proofs.YtmhilpnagpkkiaaDoor
