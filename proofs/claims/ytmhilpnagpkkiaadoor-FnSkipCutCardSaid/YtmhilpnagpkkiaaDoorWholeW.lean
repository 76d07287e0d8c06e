/- The reference's Whole, walked: how many bytes an object has with all in it. Conditions: the slice reads as bytes. -/
import Derived.Test.YtmhilpnagpkkiaaDoorSkipW
import Derived.Test.YtmhilpnagpkkiaaDoorHeadStep
import Derived.Test.YtmhilpnagpkkiaaDoorHead
import Derived.Test.YtmhilpnagpkkiaaDoorFails
namespace Go.Proofs.YtmhilpnagpkkiaaDoor
open Go Go.RowKit Go.Lib
set_option linter.unusedVariables false

/-- 'The call tells how many bytes, and true; or false.' -/
def WholeRet (w : World) (l : List Int) (d : Nat) (e : Ending) (w' : World) : Prop :=
  Below w.heap.size w w' ∧ ((∃ k : Nat, obj d l = .ok k ∧ e = .returned (.tuple #[.int .i64 k, .bool true])) ∨ (∃ (r : Er) (x : Int), obj d l = .error r ∧ e = .returned (.tuple #[.int .i64 x, .bool false])))

theorem obj_of_step {d : Nat} {l : List Int} {t m : Nat} (h : step l = .ok (t, m)) : obj (d + 1) l = oloop (obj d) l m t := by simp only [obj, h]
theorem obj_of_err {d : Nat} {l : List Int} {r : Er} (h : step l = .error r) : obj (d + 1) l = .error r := by simp only [obj, h]

set_option maxHeartbeats 4000000 in
set_option maxRecDepth 100000 in
theorem wh_deep (A : Option Addr) (n c : Nat) (l : List Int) (k x len t s : Int) (sh : Bool) (w : World) (hr : Rd w A l) (hn : Hid (l.length = n)) (hnc : n ≤ c) (hm : c ≤ 9223372036854775807) (hhead : Calls Tryd.prog 12 #[.slice A n c] w fun e w' => e = .returned (Hd.val ⟨k, x, len, t, s, sh⟩) ∧ Below w.heap.size w w') :
    Calls Tryd.prog 16 #[.slice A n c, .int .i64 (-1)] w (WholeRet w l 0) := by
  have ho : Hid (obj 0 l = .error .deep) := rfl
  cases sh
  · by_cases hk : k = 0
    · subst hk
      go_enter Tryd.func16, Tryd.ntmps16
      go_wp2_with fail
      ((with_reducible refine hhead.mono ?_); rintro e w1 ⟨rfl, hb1⟩)
      obtain ⟨d0, d1, d2, d3, d4, d5⟩ := hcells_new w1 ⟨0, x, len, t, s, false⟩
      simp only at d0 d1 d2 d3 d4 d5
      have hend : ∀ o : Obj, Below w.heap.size w (w1.alloc o) := fun o => hb1.alloc hb1.size o
      go_wp2_with fail
      go_ret2
      exact ⟨hend _, Or.inr ⟨_, _, ho.out, rfl⟩⟩
    · have e0 : (k == 0) = false := by simpa using hk
      go_enter Tryd.func16, Tryd.ntmps16
      go_wp2_with fail
      ((with_reducible refine hhead.mono ?_); rintro e w1 ⟨rfl, hb1⟩)
      obtain ⟨d0, d1, d2, d3, d4, d5⟩ := hcells_new w1 ⟨k, x, len, t, s, false⟩
      simp only at d0 d1 d2 d3 d4 d5
      have hend : ∀ o : Obj, Below w.heap.size w (w1.alloc o) := fun o => hb1.alloc hb1.size o
      go_wp2_with fail
      go_ret2
      exact ⟨hend _, Or.inr ⟨_, _, ho.out, rfl⟩⟩
  · go_enter Tryd.func16, Tryd.ntmps16
    go_wp2_with fail
    ((with_reducible refine hhead.mono ?_); rintro e w1 ⟨rfl, hb1⟩)
    obtain ⟨d0, d1, d2, d3, d4, d5⟩ := hcells_new w1 ⟨k, x, len, t, s, true⟩
    simp only at d0 d1 d2 d3 d4 d5
    have hend : ∀ o : Obj, Below w.heap.size w (w1.alloc o) := fun o => hb1.alloc hb1.size o
    go_wp2_with fail
    go_ret2
    exact ⟨hend _, Or.inr ⟨_, _, ho.out, rfl⟩⟩

set_option maxHeartbeats 4000000 in
set_option maxRecDepth 100000 in
theorem wh_bad (A : Option Addr) (n c : Nat) (l : List Int) (k x len t s : Int) (sh : Bool) (w : World) (hr : Rd w A l) (hn : Hid (l.length = n)) (hnc : n ≤ c) (hm : c ≤ 9223372036854775807) (d : Nat) (D : Int) (h0 : 0 ≤ D) (r : Er) (hst : step l = .error r) (hbad : sh = true ∨ k = 0) (hhead : Calls Tryd.prog 12 #[.slice A n c] w fun e w' => e = .returned (Hd.val ⟨k, x, len, t, s, sh⟩) ∧ Below w.heap.size w w') :
    Calls Tryd.prog 16 #[.slice A n c, .int .i64 D] w (WholeRet w l (d + 1)) := by
  have ho : Hid (obj (d + 1) l = .error r) := obj_of_err hst
  clear hst
  cases sh
  · obtain rfl : k = 0 := by rcases hbad with h | h; cases h; exact h
    go_enter Tryd.func16, Tryd.ntmps16
    go_wp2_with fail
    ((with_reducible refine hhead.mono ?_); rintro e w1 ⟨rfl, hb1⟩)
    obtain ⟨d0, d1, d2, d3, d4, d5⟩ := hcells_new w1 ⟨0, x, len, t, s, false⟩
    simp only at d0 d1 d2 d3 d4 d5
    have hend : ∀ o : Obj, Below w.heap.size w (w1.alloc o) := fun o => hb1.alloc hb1.size o
    go_wp2_with fail
    go_ret2
    exact ⟨hend _, Or.inr ⟨_, _, ho.out, rfl⟩⟩
  · clear hbad
    go_enter Tryd.func16, Tryd.ntmps16
    go_wp2_with fail
    ((with_reducible refine hhead.mono ?_); rintro e w1 ⟨rfl, hb1⟩)
    obtain ⟨d0, d1, d2, d3, d4, d5⟩ := hcells_new w1 ⟨k, x, len, t, s, true⟩
    simp only at d0 d1 d2 d3 d4 d5
    have hend : ∀ o : Obj, Below w.heap.size w (w1.alloc o) := fun o => hb1.alloc hb1.size o
    go_wp2_with fail
    go_ret2
    exact ⟨hend _, Or.inr ⟨_, _, ho.out, rfl⟩⟩

set_option maxHeartbeats 4000000 in
set_option maxRecDepth 100000 in
theorem wh_len7 (A : Option Addr) (n c : Nat) (l : List Int) (k x len t s : Int) (sh : Bool) (w : World) (hr : Rd w A l) (hn : Hid (l.length = n)) (hnc : n ≤ c) (hm : c ≤ 9223372036854775807) (d : Nat) (D : Int) (h0 : 0 ≤ D) (hs0 : 1 ≤ s) (hs1 : s ≤ n) (hl0 : 0 ≤ len) (hl1 : len ≤ 4294967295) (hn2 : n ≤ 1000000000000)
    (hst : (s + len ≤ n ∧ step l = .ok ((s + len).toNat, 0)) ∨ ((n : Int) < s + len ∧ step l = .error .short)) (hhead : Calls Tryd.prog 12 #[.slice A n c] w fun e w' => e = .returned (Hd.val ⟨7, x, len, t, s, false⟩) ∧ Below w.heap.size w w') :
    Calls Tryd.prog 16 #[.slice A n c, .int .i64 D] w (WholeRet w l (d + 1)) := by
  rcases hst with ⟨q1, q2⟩ | ⟨q1, q2⟩
  · obtain ⟨m, hmm⟩ := Int.eq_ofNat_of_zero_le (show 0 ≤ s + len by omega)
    rw [hmm] at q2
    have ho : Hid (obj (d + 1) l = .ok m) := by show _ = _; rw [obj_of_step q2, oloop_zero]; rfl
    have hw : s + len = m := hmm
    have q3 : decide (s + len ≤ (n : Int)) = true := by simpa using q1
    clear q2 hmm
    go_enter Tryd.func16, Tryd.ntmps16
    go_wp2_with fail
    ((with_reducible refine hhead.mono ?_); rintro e w1 ⟨rfl, hb1⟩)
    obtain ⟨d0, d1, d2, d3, d4, d5⟩ := hcells_new w1 ⟨7, x, len, t, s, false⟩
    simp only at d0 d1 d2 d3 d4 d5
    have hend : ∀ o : Obj, Below w.heap.size w (w1.alloc o) := fun o => hb1.alloc hb1.size o
    go_wp2_with fail
    go_ret2
    exact ⟨hend _, Or.inl ⟨m, ho.out, by first | rfl | (simp; done) | (simp; omega)⟩⟩
  · have ho : Hid (obj (d + 1) l = .error .short) := obj_of_err q2
    have q3 : decide (s + len ≤ (n : Int)) = false := by simp; omega
    clear q2
    go_enter Tryd.func16, Tryd.ntmps16
    go_wp2_with fail
    ((with_reducible refine hhead.mono ?_); rintro e w1 ⟨rfl, hb1⟩)
    obtain ⟨d0, d1, d2, d3, d4, d5⟩ := hcells_new w1 ⟨7, x, len, t, s, false⟩
    simp only at d0 d1 d2 d3 d4 d5
    have hend : ∀ o : Obj, Below w.heap.size w (w1.alloc o) := fun o => hb1.alloc hb1.size o
    go_wp2_with fail
    go_ret2
    exact ⟨hend _, Or.inr ⟨_, _, ho.out, by first | rfl | (simp; done) | (simp; omega)⟩⟩
set_option maxHeartbeats 4000000 in
set_option maxRecDepth 100000 in
theorem wh_len8 (A : Option Addr) (n c : Nat) (l : List Int) (k x len t s : Int) (sh : Bool) (w : World) (hr : Rd w A l) (hn : Hid (l.length = n)) (hnc : n ≤ c) (hm : c ≤ 9223372036854775807) (d : Nat) (D : Int) (h0 : 0 ≤ D) (hs0 : 1 ≤ s) (hs1 : s ≤ n) (hl0 : 0 ≤ len) (hl1 : len ≤ 4294967295) (hn2 : n ≤ 1000000000000)
    (hst : (s + len ≤ n ∧ step l = .ok ((s + len).toNat, 0)) ∨ ((n : Int) < s + len ∧ step l = .error .short)) (hhead : Calls Tryd.prog 12 #[.slice A n c] w fun e w' => e = .returned (Hd.val ⟨8, x, len, t, s, false⟩) ∧ Below w.heap.size w w') :
    Calls Tryd.prog 16 #[.slice A n c, .int .i64 D] w (WholeRet w l (d + 1)) := by
  rcases hst with ⟨q1, q2⟩ | ⟨q1, q2⟩
  · obtain ⟨m, hmm⟩ := Int.eq_ofNat_of_zero_le (show 0 ≤ s + len by omega)
    rw [hmm] at q2
    have ho : Hid (obj (d + 1) l = .ok m) := by show _ = _; rw [obj_of_step q2, oloop_zero]; rfl
    have hw : s + len = m := hmm
    have q3 : decide (s + len ≤ (n : Int)) = true := by simpa using q1
    clear q2 hmm
    go_enter Tryd.func16, Tryd.ntmps16
    go_wp2_with fail
    ((with_reducible refine hhead.mono ?_); rintro e w1 ⟨rfl, hb1⟩)
    obtain ⟨d0, d1, d2, d3, d4, d5⟩ := hcells_new w1 ⟨8, x, len, t, s, false⟩
    simp only at d0 d1 d2 d3 d4 d5
    have hend : ∀ o : Obj, Below w.heap.size w (w1.alloc o) := fun o => hb1.alloc hb1.size o
    go_wp2_with fail
    go_ret2
    exact ⟨hend _, Or.inl ⟨m, ho.out, by first | rfl | (simp; done) | (simp; omega)⟩⟩
  · have ho : Hid (obj (d + 1) l = .error .short) := obj_of_err q2
    have q3 : decide (s + len ≤ (n : Int)) = false := by simp; omega
    clear q2
    go_enter Tryd.func16, Tryd.ntmps16
    go_wp2_with fail
    ((with_reducible refine hhead.mono ?_); rintro e w1 ⟨rfl, hb1⟩)
    obtain ⟨d0, d1, d2, d3, d4, d5⟩ := hcells_new w1 ⟨8, x, len, t, s, false⟩
    simp only at d0 d1 d2 d3 d4 d5
    have hend : ∀ o : Obj, Below w.heap.size w (w1.alloc o) := fun o => hb1.alloc hb1.size o
    go_wp2_with fail
    go_ret2
    exact ⟨hend _, Or.inr ⟨_, _, ho.out, by first | rfl | (simp; done) | (simp; omega)⟩⟩
set_option maxHeartbeats 4000000 in
set_option maxRecDepth 100000 in
theorem wh_len11 (A : Option Addr) (n c : Nat) (l : List Int) (k x len t s : Int) (sh : Bool) (w : World) (hr : Rd w A l) (hn : Hid (l.length = n)) (hnc : n ≤ c) (hm : c ≤ 9223372036854775807) (d : Nat) (D : Int) (h0 : 0 ≤ D) (hs0 : 1 ≤ s) (hs1 : s ≤ n) (hl0 : 0 ≤ len) (hl1 : len ≤ 4294967295) (hn2 : n ≤ 1000000000000)
    (hst : (s + len ≤ n ∧ step l = .ok ((s + len).toNat, 0)) ∨ ((n : Int) < s + len ∧ step l = .error .short)) (hhead : Calls Tryd.prog 12 #[.slice A n c] w fun e w' => e = .returned (Hd.val ⟨11, x, len, t, s, false⟩) ∧ Below w.heap.size w w') :
    Calls Tryd.prog 16 #[.slice A n c, .int .i64 D] w (WholeRet w l (d + 1)) := by
  rcases hst with ⟨q1, q2⟩ | ⟨q1, q2⟩
  · obtain ⟨m, hmm⟩ := Int.eq_ofNat_of_zero_le (show 0 ≤ s + len by omega)
    rw [hmm] at q2
    have ho : Hid (obj (d + 1) l = .ok m) := by show _ = _; rw [obj_of_step q2, oloop_zero]; rfl
    have hw : s + len = m := hmm
    have q3 : decide (s + len ≤ (n : Int)) = true := by simpa using q1
    clear q2 hmm
    go_enter Tryd.func16, Tryd.ntmps16
    go_wp2_with fail
    ((with_reducible refine hhead.mono ?_); rintro e w1 ⟨rfl, hb1⟩)
    obtain ⟨d0, d1, d2, d3, d4, d5⟩ := hcells_new w1 ⟨11, x, len, t, s, false⟩
    simp only at d0 d1 d2 d3 d4 d5
    have hend : ∀ o : Obj, Below w.heap.size w (w1.alloc o) := fun o => hb1.alloc hb1.size o
    go_wp2_with fail
    go_ret2
    exact ⟨hend _, Or.inl ⟨m, ho.out, by first | rfl | (simp; done) | (simp; omega)⟩⟩
  · have ho : Hid (obj (d + 1) l = .error .short) := obj_of_err q2
    have q3 : decide (s + len ≤ (n : Int)) = false := by simp; omega
    clear q2
    go_enter Tryd.func16, Tryd.ntmps16
    go_wp2_with fail
    ((with_reducible refine hhead.mono ?_); rintro e w1 ⟨rfl, hb1⟩)
    obtain ⟨d0, d1, d2, d3, d4, d5⟩ := hcells_new w1 ⟨11, x, len, t, s, false⟩
    simp only at d0 d1 d2 d3 d4 d5
    have hend : ∀ o : Obj, Below w.heap.size w (w1.alloc o) := fun o => hb1.alloc hb1.size o
    go_wp2_with fail
    go_ret2
    exact ⟨hend _, Or.inr ⟨_, _, ho.out, by first | rfl | (simp; done) | (simp; omega)⟩⟩
set_option maxHeartbeats 4000000 in
set_option maxRecDepth 100000 in
theorem wh_one (A : Option Addr) (n c : Nat) (l : List Int) (k x len t s : Int) (sh : Bool) (w : World) (hr : Rd w A l) (hn : Hid (l.length = n)) (hnc : n ≤ c) (hm : c ≤ 9223372036854775807) (d : Nat) (D : Int) (h0 : 0 ≤ D) (sz : Nat) (hs : s = sz) (hk0 : 1 ≤ k) (hk1 : k ≤ 6) (hst : step l = .ok (sz, 0)) (hhead : Calls Tryd.prog 12 #[.slice A n c] w fun e w' => e = .returned (Hd.val ⟨k, x, len, t, s, false⟩) ∧ Below w.heap.size w w') :
    Calls Tryd.prog 16 #[.slice A n c, .int .i64 D] w (WholeRet w l (d + 1)) := by
  have ho : Hid (obj (d + 1) l = .ok sz) := by show _ = _; rw [obj_of_step hst, oloop_zero]
  subst hs
  have e0 : (k == 0) = false := by simp; omega
  have e7 : (k == 7) = false := by simp; omega
  have e8 : (k == 8) = false := by simp; omega
  have e9 : (k == 9) = false := by simp; omega
  have e10 : (k == 10) = false := by simp; omega
  have e11 : (k == 11) = false := by simp; omega
  clear hst
  go_enter Tryd.func16, Tryd.ntmps16
  go_wp2_with fail
  ((with_reducible refine hhead.mono ?_); rintro e w1 ⟨rfl, hb1⟩)
  obtain ⟨d0, d1, d2, d3, d4, d5⟩ := hcells_new w1 ⟨k, x, len, t, (sz : Int), false⟩
  simp only at d0 d1 d2 d3 d4 d5
  have hend : ∀ o : Obj, Below w.heap.size w (w1.alloc o) := fun o => hb1.alloc hb1.size o
  go_wp2_with fail
  go_ret2
  exact ⟨hend _, Or.inl ⟨sz, ho.out, rfl⟩⟩

set_option maxHeartbeats 8000000 in
set_option maxRecDepth 100000 in
theorem wh_many9 (d : Nat) (ih : ∀ (D : Int) (A : Option Addr) (n c : Nat) (l : List Int) (w : World), D + 1 = d → D ≤ 100000 → Rd w A l → l.length = n → n ≤ c → c ≤ maxLen → n ≤ 1000000000000 → Calls Tryd.prog 16 #[.slice A n c, .int .i64 D] w (WholeRet w l d))
    (A : Option Addr) (n c : Nat) (l : List Int) (x t : Int) (m sz : Nat) (D : Int) (w : World) (hD : D = d) (hDb : D ≤ 100000) (hr : Rd w A l) (hn : l.length = n) (hnc : n ≤ c) (hm : c ≤ maxLen) (hn2 : n ≤ 1000000000000) (hs0 : 1 ≤ sz) (hs1 : sz ≤ n) (hl1 : m ≤ 4294967295)
    (hst : step l = .ok (sz, m)) (hhead : Calls Tryd.prog 12 #[.slice A n c] w fun e w' => e = .returned (Hd.val ⟨9, x, m, t, sz, false⟩) ∧ Below w.heap.size w w') :
    Calls Tryd.prog 16 #[.slice A n c, .int .i64 D] w (WholeRet w l (d + 1)) := by
  have hob := Lib.hid (obj_of_step (d := d) hst)
  have HN : Hid (l.length = n) := hn
  have hm' : c ≤ 9223372036854775807 := by simp only [maxLen] at hm; omega
  have HM := Lib.hid hm
  have IH := Lib.hid ih
  have h0 : 0 ≤ D := by omega
  have HD := Lib.hid hD
  clear hst hn hm ih hD
  have hM1 : (m : Int) ≤ 8589934590 := by omega
  go_enter Tryd.func16, Tryd.ntmps16
  go_wp2_with fail
  ((with_reducible refine hhead.mono ?_); rintro e w1 ⟨rfl, hb1⟩)
  obtain ⟨d0, d1, d2, d3, d4, d5⟩ := hcells_new w1 ⟨9, x, (m : Int), t, (sz : Int), false⟩
  simp only at d0 d1 d2 d3 d4 d5
  have hb1' : Below w.heap.size w (w1.alloc (.cells #[.int .i64 9, .int .u64 x, .int .i64 m, .int .i8 t, .int .i64 sz, .bool false] 26)) := hb1.alloc hb1.size _
  have hr1 := hr.mono hb1'
  clear hhead hr hb1
  go_wp2_with fail
  go_loopw [7, 9] (fun a i wr => ∃ (j p : Nat), i = .int .i64 j ∧ a = .int .i64 p ∧ j ≤ m ∧ p ≤ n ∧ Below w.heap.size w wr ∧ Rd wr A l ∧ Hid (oloop (obj d) l (m - j) p = obj (d + 1) l)) (fun _ i _ => ((m : Int) - intOf i).toNat)
  case atStart => exact ⟨0, sz, rfl, rfl, by omega, hs1, hb1', hr1, hob.out.symm⟩
  case round =>
    obtain ⟨j, p, rfl, rfl, hj, hp, hbp, hrp, hoo⟩ := hrel
    by_cases hjm : j = m
    · subst hjm
      go_wp2_with fail
      go_ret2
      exact ⟨hbp, Or.inl ⟨p, by have := hoo.out; rw [Nat.sub_self, oloop_zero] at this; exact this.symm, rfl⟩⟩
    · have hj1 : (j : Int) < (m : Int) := by omega
      have hsub : Hid (m - j = (m - (j + 1)) + 1) := by show _ = _; omega
      have hdr : Hid ((l.drop p).length = n - p) := by show _ = _; rw [List.length_drop, HN.out]
      clear hjm
      by_cases hcp : c = p
      · subst hcp
        obtain rfl : n = c := by omega
        have hre : Rd wr A (l.drop n) := rd_end HN.out _
        have hz : n - n = 0 := by omega
        go_wp2_with fail
        ((with_reducible refine (IH.out (D - 1) _ 0 0 (l.drop n) wr (by have := HD.out; omega) (by omega) hre (by rw [hdr.out]; exact hz) (by omega) (by have := HM.out; omega) (by omega)).mono ?_); rintro e w2 ⟨hb2, ⟨k, hk, rfl⟩ | ⟨r, y, hk, rfl⟩⟩)
        · have hle := Lib.hid (obj_le d _ hre.1 k hk)
          have hk' := Lib.hid hk
          clear hk
          have hpk : n + k ≤ n := by have := hle.out.2; rw [hdr.out] at this; omega
          go_wp2_with fail
          go_roundw
          case rel =>
            refine ⟨j + 1, n + k, by go_num, by go_num, by omega, hpk, below_step hbp hb2, hrp.mono hb2, ?_⟩
            have := hoo.out
            rw [hsub.out, oloop_ok hk'.out] at this
            exact this
          case measure => simp [intOf]; omega
        · have hk' := Lib.hid hk
          clear hk
          have hob2 : Hid (obj (d + 1) l = .error r) := by
            have := hoo.out
            rw [hsub.out, oloop_error hk'.out] at this
            exact this.symm
          go_wp2_with fail
          go_ret2
          exact ⟨below_step hbp hb2, Or.inr ⟨r, _, hob2.out, rfl⟩⟩
      · have hre : ∃ g o, A = some ⟨g, o, none⟩ ∧ Rd wr (some ⟨g, o + p, none⟩) (l.drop p) := by
          obtain ⟨g, o, rfl, -⟩ := hrp.open_ (by have := HN.out; omega)
          exact ⟨g, o, rfl, hrp.cut p⟩
        obtain ⟨g, o, rfl, hre⟩ := hre
        go_wp2_with fail
        ((with_reducible refine (IH.out (D - 1) _ (n - p) (c - p) (l.drop p) wr (by have := HD.out; omega) (by omega) hre hdr.out (by omega) (by have := HM.out; omega) (by omega)).mono ?_); rintro e w2 ⟨hb2, ⟨k, hk, rfl⟩ | ⟨r, y, hk, rfl⟩⟩)
        · have hle := Lib.hid (obj_le d _ hre.1 k hk)
          have hk' := Lib.hid hk
          clear hk
          have hpk : p + k ≤ n := by have := hle.out.2; rw [hdr.out] at this; omega
          go_wp2_with fail
          go_roundw
          case rel =>
            refine ⟨j + 1, p + k, by go_num, by go_num, by omega, hpk, below_step hbp hb2, hrp.mono hb2, ?_⟩
            have := hoo.out
            rw [hsub.out, oloop_ok hk'.out] at this
            exact this
          case measure => simp [intOf]; omega
        · have hk' := Lib.hid hk
          clear hk
          have hob2 : Hid (obj (d + 1) l = .error r) := by
            have := hoo.out
            rw [hsub.out, oloop_error hk'.out] at this
            exact this.symm
          go_wp2_with fail
          go_ret2
          exact ⟨below_step hbp hb2, Or.inr ⟨r, _, hob2.out, rfl⟩⟩

set_option maxHeartbeats 8000000 in
set_option maxRecDepth 100000 in
theorem wh_many10 (d : Nat) (ih : ∀ (D : Int) (A : Option Addr) (n c : Nat) (l : List Int) (w : World), D + 1 = d → D ≤ 100000 → Rd w A l → l.length = n → n ≤ c → c ≤ maxLen → n ≤ 1000000000000 → Calls Tryd.prog 16 #[.slice A n c, .int .i64 D] w (WholeRet w l d))
    (A : Option Addr) (n c : Nat) (l : List Int) (x t : Int) (m sz : Nat) (D : Int) (w : World) (hD : D = d) (hDb : D ≤ 100000) (hr : Rd w A l) (hn : l.length = n) (hnc : n ≤ c) (hm : c ≤ maxLen) (hn2 : n ≤ 1000000000000) (hs0 : 1 ≤ sz) (hs1 : sz ≤ n) (hl1 : m ≤ 4294967295)
    (hst : step l = .ok (sz, 2 * m)) (hhead : Calls Tryd.prog 12 #[.slice A n c] w fun e w' => e = .returned (Hd.val ⟨10, x, m, t, sz, false⟩) ∧ Below w.heap.size w w') :
    Calls Tryd.prog 16 #[.slice A n c, .int .i64 D] w (WholeRet w l (d + 1)) := by
  have hob := Lib.hid (obj_of_step (d := d) hst)
  have HN : Hid (l.length = n) := hn
  have hm' : c ≤ 9223372036854775807 := by simp only [maxLen] at hm; omega
  have HM := Lib.hid hm
  have IH := Lib.hid ih
  have h0 : 0 ≤ D := by omega
  have HD := Lib.hid hD
  clear hst hn hm ih hD
  have hM1 : 2 * (m : Int) ≤ 8589934590 := by omega
  go_enter Tryd.func16, Tryd.ntmps16
  go_wp2_with fail
  ((with_reducible refine hhead.mono ?_); rintro e w1 ⟨rfl, hb1⟩)
  obtain ⟨d0, d1, d2, d3, d4, d5⟩ := hcells_new w1 ⟨10, x, (m : Int), t, (sz : Int), false⟩
  simp only at d0 d1 d2 d3 d4 d5
  have hb1' : Below w.heap.size w (w1.alloc (.cells #[.int .i64 10, .int .u64 x, .int .i64 m, .int .i8 t, .int .i64 sz, .bool false] 26)) := hb1.alloc hb1.size _
  have hr1 := hr.mono hb1'
  clear hhead hr hb1
  go_wp2_with fail
  go_loopw [7, 9] (fun a i wr => ∃ (j p : Nat), i = .int .i64 j ∧ a = .int .i64 p ∧ j ≤ 2 * m ∧ p ≤ n ∧ Below w.heap.size w wr ∧ Rd wr A l ∧ Hid (oloop (obj d) l (2 * m - j) p = obj (d + 1) l)) (fun _ i _ => (2 * (m : Int) - intOf i).toNat)
  case atStart => exact ⟨0, sz, rfl, rfl, by omega, hs1, hb1', hr1, hob.out.symm⟩
  case round =>
    obtain ⟨j, p, rfl, rfl, hj, hp, hbp, hrp, hoo⟩ := hrel
    by_cases hjm : j = 2 * m
    · subst hjm
      go_wp2_with fail
      go_ret2
      exact ⟨hbp, Or.inl ⟨p, by have := hoo.out; rw [Nat.sub_self, oloop_zero] at this; exact this.symm, rfl⟩⟩
    · have hj1 : (j : Int) < 2 * (m : Int) := by omega
      have hsub : Hid (2 * m - j = (2 * m - (j + 1)) + 1) := by show _ = _; omega
      have hdr : Hid ((l.drop p).length = n - p) := by show _ = _; rw [List.length_drop, HN.out]
      clear hjm
      by_cases hcp : c = p
      · subst hcp
        obtain rfl : n = c := by omega
        have hre : Rd wr A (l.drop n) := rd_end HN.out _
        have hz : n - n = 0 := by omega
        go_wp2_with fail
        ((with_reducible refine (IH.out (D - 1) _ 0 0 (l.drop n) wr (by have := HD.out; omega) (by omega) hre (by rw [hdr.out]; exact hz) (by omega) (by have := HM.out; omega) (by omega)).mono ?_); rintro e w2 ⟨hb2, ⟨k, hk, rfl⟩ | ⟨r, y, hk, rfl⟩⟩)
        · have hle := Lib.hid (obj_le d _ hre.1 k hk)
          have hk' := Lib.hid hk
          clear hk
          have hpk : n + k ≤ n := by have := hle.out.2; rw [hdr.out] at this; omega
          go_wp2_with fail
          go_roundw
          case rel =>
            refine ⟨j + 1, n + k, by go_num, by go_num, by omega, hpk, below_step hbp hb2, hrp.mono hb2, ?_⟩
            have := hoo.out
            rw [hsub.out, oloop_ok hk'.out] at this
            exact this
          case measure => simp [intOf]; omega
        · have hk' := Lib.hid hk
          clear hk
          have hob2 : Hid (obj (d + 1) l = .error r) := by
            have := hoo.out
            rw [hsub.out, oloop_error hk'.out] at this
            exact this.symm
          go_wp2_with fail
          go_ret2
          exact ⟨below_step hbp hb2, Or.inr ⟨r, _, hob2.out, rfl⟩⟩
      · have hre : ∃ g o, A = some ⟨g, o, none⟩ ∧ Rd wr (some ⟨g, o + p, none⟩) (l.drop p) := by
          obtain ⟨g, o, rfl, -⟩ := hrp.open_ (by have := HN.out; omega)
          exact ⟨g, o, rfl, hrp.cut p⟩
        obtain ⟨g, o, rfl, hre⟩ := hre
        go_wp2_with fail
        ((with_reducible refine (IH.out (D - 1) _ (n - p) (c - p) (l.drop p) wr (by have := HD.out; omega) (by omega) hre hdr.out (by omega) (by have := HM.out; omega) (by omega)).mono ?_); rintro e w2 ⟨hb2, ⟨k, hk, rfl⟩ | ⟨r, y, hk, rfl⟩⟩)
        · have hle := Lib.hid (obj_le d _ hre.1 k hk)
          have hk' := Lib.hid hk
          clear hk
          have hpk : p + k ≤ n := by have := hle.out.2; rw [hdr.out] at this; omega
          go_wp2_with fail
          go_roundw
          case rel =>
            refine ⟨j + 1, p + k, by go_num, by go_num, by omega, hpk, below_step hbp hb2, hrp.mono hb2, ?_⟩
            have := hoo.out
            rw [hsub.out, oloop_ok hk'.out] at this
            exact this
          case measure => simp [intOf]; omega
        · have hk' := Lib.hid hk
          clear hk
          have hob2 : Hid (obj (d + 1) l = .error r) := by
            have := hoo.out
            rw [hsub.out, oloop_error hk'.out] at this
            exact this.symm
          go_wp2_with fail
          go_ret2
          exact ⟨below_step hbp hb2, Or.inr ⟨r, _, hob2.out, rfl⟩⟩

theorem whole_c : ∀ (d : Nat) (D : Int) (A : Option Addr) (n c : Nat) (l : List Int) (w : World), D + 1 = d → D ≤ 100000 → Rd w A l → l.length = n → n ≤ c → c ≤ maxLen → n ≤ 1000000000000 → Calls Tryd.prog 16 #[.slice A n c, .int .i64 D] w (WholeRet w l d)
  | 0, D, A, n, c, l, w, hD, hDb, hr, hn, hnc, hm, hn2 => by
    have hm' : c ≤ 9223372036854775807 := by simp only [maxLen] at hm; omega
    obtain rfl : D = -1 := by omega
    have hhead := headOf_c A n c l w hr hn hnc hm
    generalize headOf l = H at hhead
    obtain ⟨k, x, len, t, s, sh⟩ := H
    exact wh_deep A n c l k x len t s sh w hr hn hnc hm' hhead
  | d + 1, D, A, n, c, l, w, hD, hDb, hr, hn, hnc, hm, hn2 => by
    have hm' : c ≤ 9223372036854775807 := by simp only [maxLen] at hm; omega
    have hhead := headOf_c A n c l w hr hn hnc hm
    have hs := head_step l hr.1
    generalize headOf l = H at hhead hs
    obtain ⟨k, x, len, t, s, sh⟩ := H
    unfold HS at hs
    rw [hn] at hs
    rcases hs with ⟨p1, r, p2⟩ | ⟨p1, p2, p3, p4, p5, p6, p7, p8⟩
    · exact wh_bad A n c l k x len t s sh w hr hn hnc hm' d D (by omega) r p2 p1 hhead
    · simp only at p1 p2 p3 p4 p5 p6 p7
      subst p1
      obtain ⟨sz, rfl⟩ := Int.eq_ofNat_of_zero_le (show 0 ≤ s by omega)
      obtain ⟨m, rfl⟩ := Int.eq_ofNat_of_zero_le p6
      have hk : k = 7 ∨ k = 8 ∨ k = 11 ∨ k = 9 ∨ k = 10 ∨ (1 ≤ k ∧ k ≤ 6) := by omega
      rcases hk with rfl | rfl | rfl | rfl | rfl | ⟨q1, q2⟩
      · exact wh_len7 A n c l 7 x m t sz false w hr hn hnc hm' d D (by omega) p4 p5 p6 p7 hn2 (by simp only [totOf, manyOf] at p8; simp at p8; rcases p8 with ⟨a, b⟩ | ⟨a, b⟩; exact .inl ⟨by omega, b⟩; exact .inr ⟨by omega, b⟩) hhead
      · exact wh_len8 A n c l 8 x m t sz false w hr hn hnc hm' d D (by omega) p4 p5 p6 p7 hn2 (by simp only [totOf, manyOf] at p8; simp at p8; rcases p8 with ⟨a, b⟩ | ⟨a, b⟩; exact .inl ⟨by omega, b⟩; exact .inr ⟨by omega, b⟩) hhead
      · exact wh_len11 A n c l 11 x m t sz false w hr hn hnc hm' d D (by omega) p4 p5 p6 p7 hn2 (by simp only [totOf, manyOf] at p8; simp at p8; rcases p8 with ⟨a, b⟩ | ⟨a, b⟩; exact .inl ⟨by omega, b⟩; exact .inr ⟨by omega, b⟩) hhead
      · refine wh_many9 d (whole_c d) A n c l x t m sz D w (by omega) hDb hr hn hnc hm hn2 (by omega) (by omega) (by omega) ?_ hhead
        simp only [totOf, manyOf] at p8
        simp at p8
        rcases p8 with ⟨a, b⟩ | ⟨a, b⟩
        · exact b
        · omega
      · refine wh_many10 d (whole_c d) A n c l x t m sz D w (by omega) hDb hr hn hnc hm hn2 (by omega) (by omega) (by omega) ?_ hhead
        simp only [totOf, manyOf] at p8
        simp at p8
        rcases p8 with ⟨a, b⟩ | ⟨a, b⟩
        · rw [b]; congr 2
        · omega
      · refine wh_one A n c l k x m t sz false w hr hn hnc hm' d D (by omega) sz rfl q1 q2 ?_ hhead
        have e1 : totOf ⟨k, x, (m : Int), t, (sz : Int), false⟩ = sz := by simp only [totOf]; rw [if_neg (by omega)]; rfl
        have e2 : manyOf ⟨k, x, (m : Int), t, (sz : Int), false⟩ = 0 := by simp only [manyOf]; rw [if_neg (by omega), if_neg (by omega)]
        rw [e1, e2] at p8
        rcases p8 with ⟨a, b⟩ | ⟨a, b⟩
        · exact b
        · omega
end Go.Proofs.YtmhilpnagpkkiaaDoor
