/- The law FnKind: of which kind the first object is, by its first bytes; the call returns true. Conditions: the slice reads as bytes. -/
import Derived.Test.YtbikbanmdepakaaKind
namespace Go.Proofs.Ytbikbanmdepakaa
open Go Go.RowKit

def HdOk (h : Hd) : Prop := 0 ≤ h.kind ∧ h.kind ≤ 11
theorem hd_ite {p : Prop} [Decidable p] {a b : Hd} (ha : HdOk a) (hb : HdOk b) : HdOk (if p then a else b) := by split <;> assumption
theorem hd_mk {k x len t s : Int} {sh : Bool} (h : 0 ≤ k ∧ k ≤ 11) : HdOk ⟨k, x, len, t, s, sh⟩ := h
theorem headOf_kind (l : List Int) : HdOk (headOf l) := by
  unfold headOf headBig
  repeat' (first | exact hd_mk (by decide) | refine hd_ite ?_ ?_)

def HdSize (h : Hd) : Prop := 0 ≤ h.size ∧ h.size ≤ 18
theorem hds_ite {p : Prop} [Decidable p] {a b : Hd} (ha : HdSize a) (hb : HdSize b) : HdSize (if p then a else b) := by split <;> assumption
theorem hds_mk {k x len t s : Int} {sh : Bool} (h : 0 ≤ s ∧ s ≤ 18) : HdSize ⟨k, x, len, t, s, sh⟩ := h
theorem headOf_size (l : List Int) : HdSize (headOf l) := by
  unfold headOf headBig
  repeat' (first | exact hds_mk (by decide) | refine hds_ite ?_ ?_)
def InK (k : Int) : Prop := 0 ≤ k ∧ k ≤ 15
theorem in_ite {p : Prop} [Decidable p] {a b : Int} (ha : InK a) (hb : InK b) : InK (if p then a else b) := by split <;> assumption
theorem in_mk {k : Int} (h : 0 ≤ k ∧ k ≤ 15) : InK k := h
theorem kindOf_range (h : Hd) : InK (kindOf h) := by
  unfold kindOf
  repeat' (first | exact in_mk (by decide) | refine in_ite ?_ ?_)

/-- The law's own guard: an extension whose bytes lack, or that ends where the bytes end, is left out. -/
def KindOk (l : List Int) : Prop := (headOf l).kind = 11 → (headOf l).short = false ∧ (headOf l).length < (l.length : Int) - (headOf l).size

set_option maxHeartbeats 1000000 in
theorem nextType_c (A : Option Addr) (n c : Nat) (l : List Int) (w : World) (hr : Rd w A l) (hn : l.length = n) (hnc : n ≤ c) (hpos : 0 < n) (hk : KindOk l) :
    Calls Try.prog 15 #[.slice A n c] w fun e w' => e = .returned (.int .u8 (kindOf (headOf l))) ∧ Below w.heap.size w w' := by
  obtain ⟨g, o, rfl, hg, -, hc⟩ := hr.open_ (by omega)
  have c0 := hc 0 (by omega)
  rw [Nat.add_zero] at c0
  have hb := hr.1.at_ 0
  have hn0 : ¬ l.length = 0 := by omega
  have other : (bty (at_ l 0) == 12) = false → kindOf (headOf l) = bty (at_ l 0) → Calls Try.prog 15 #[.slice (some ⟨g, o, none⟩) n c] w fun e w' => e = .returned (.int .u8 (kindOf (headOf l))) ∧ Below w.heap.size w w' := fun h1 h2 => by
    rw [h2]; exact next_other g o n c _ w hg hpos hb.1 hb.2 h1 c0
  unfold KindOk at hk
  unfold headOf at hk other ⊢
  rw [if_neg hn0] at hk other ⊢
  by_cases a1 : at_ l 0 < 128
  · have e : bty (at_ l 0) = 8 := by rw [bty, if_pos a1]
    rw [if_pos a1] at other ⊢; exact other (by rw [e]; rfl) (by rw [e]; rfl)
  rw [if_neg a1] at hk other ⊢
  by_cases a2 : at_ l 0 < 144
  · have e : bty (at_ l 0) = 3 := by rw [bty, if_neg a1, if_pos a2]
    rw [if_pos a2] at other ⊢; exact other (by rw [e]; rfl) (by rw [e]; rfl)
  rw [if_neg a2] at hk other ⊢
  by_cases a3 : at_ l 0 < 160
  · have e : bty (at_ l 0) = 4 := by rw [bty, if_neg a1, if_neg a2, if_pos a3]
    rw [if_pos a3] at other ⊢; exact other (by rw [e]; rfl) (by rw [e]; rfl)
  rw [if_neg a3] at hk other ⊢
  by_cases a4 : at_ l 0 < 192
  · have e : bty (at_ l 0) = 1 := by rw [bty, if_neg a1, if_neg a2, if_neg a3, if_pos a4]
    rw [if_pos a4] at other ⊢; exact other (by rw [e]; rfl) (by rw [e]; rfl)
  rw [if_neg a4] at hk other ⊢
  by_cases a5 : 224 ≤ at_ l 0
  · have e : bty (at_ l 0) = 8 := by
      unfold bty
      repeat (rw [if_neg (by omega)])
    rw [if_pos a5] at other ⊢; exact other (by rw [e]; rfl) (by rw [e]; rfl)
  rw [if_neg a5] at hk other ⊢
  by_cases a6 : at_ l 0 = 192
  · have e : bty (at_ l 0) = 10 := by rw [a6]; simp [bty]
    rw [if_pos a6] at other ⊢; exact other (by rw [e]; rfl) (by rw [e]; rfl)
  rw [if_neg a6] at hk other ⊢
  by_cases a7 : at_ l 0 = 193
  · have e : bty (at_ l 0) = 0 := by rw [a7]; simp [bty]
    rw [if_pos a7] at other ⊢; exact other (by rw [e]; rfl) (by rw [e]; rfl)
  rw [if_neg a7] at hk other ⊢
  by_cases a8 : at_ l 0 < 196
  · have e : bty (at_ l 0) = 7 := by
      have : at_ l 0 = 194 ∨ at_ l 0 = 195 := by omega
      rcases this with h | h <;> rw [h] <;> simp [bty]
    rw [if_pos a8] at other ⊢; exact other (by rw [e]; rfl) (by rw [e]; rfl)
  rw [if_neg a8] at hk other ⊢
  have hcase : at_ l 0 = 196 ∨ at_ l 0 = 197 ∨ at_ l 0 = 198 ∨ at_ l 0 = 199 ∨ at_ l 0 = 200 ∨ at_ l 0 = 201 ∨ at_ l 0 = 202 ∨ at_ l 0 = 203 ∨ at_ l 0 = 204 ∨ at_ l 0 = 205 ∨ at_ l 0 = 206 ∨ at_ l 0 = 207 ∨ at_ l 0 = 208 ∨ at_ l 0 = 209 ∨ at_ l 0 = 210 ∨ at_ l 0 = 211 ∨ at_ l 0 = 212 ∨ at_ l 0 = 213 ∨ at_ l 0 = 214 ∨ at_ l 0 = 215 ∨ at_ l 0 = 216 ∨ at_ l 0 = 217 ∨ at_ l 0 = 218 ∨ at_ l 0 = 219 ∨ at_ l 0 = 220 ∨ at_ l 0 = 221 ∨ at_ l 0 = 222 ∨ at_ l 0 = 223 := by omega
  unfold headBig at hk other ⊢
  rcases hcase with e | e | e | e | e | e | e | e | e | e | e | e | e | e | e | e | e | e | e | e | e | e | e | e | e | e | e | e
  · rw [e] at other
    rw [e]
    refine other (by simp [bty]) ?_
    simp only [Int.reduceEq, if_false, if_true]
    split <;> simp [kindOf, bty]
  · rw [e] at other
    rw [e]
    refine other (by simp [bty]) ?_
    simp only [Int.reduceEq, if_false, if_true]
    split <;> simp [kindOf, bty]
  · rw [e] at other
    rw [e]
    refine other (by simp [bty]) ?_
    simp only [Int.reduceEq, if_false, if_true]
    split <;> simp [kindOf, bty]
  · rw [e] at hk c0
    rw [e]
    simp only [Int.reduceEq, if_false, if_true] at hk ⊢
    by_cases hs : l.length < 3
    · rw [if_pos hs] at hk; exact absurd (hk rfl).1 (by simp)
    · rw [if_neg hs] at hk ⊢
      have h2 := (hk rfl).2
      simp only at h2
      have hv := hr.1.at_ 1
      exact next_199 g o n c _ w hg (by omega) hnc c0 (hc 2 (by omega))
  · rw [e] at hk c0
    rw [e]
    simp only [Int.reduceEq, if_false, if_true] at hk ⊢
    by_cases hs : l.length < 4
    · rw [if_pos hs] at hk; exact absurd (hk rfl).1 (by simp)
    · rw [if_neg hs] at hk ⊢
      have h2 := (hk rfl).2
      simp only at h2
      have hv := be2_range hr.1 1
      exact next_200 g o n c _ w hg (by omega) hnc c0 (hc 3 (by omega))
  · rw [e] at hk c0
    rw [e]
    simp only [Int.reduceEq, if_false, if_true] at hk ⊢
    by_cases hs : l.length < 6
    · rw [if_pos hs] at hk; exact absurd (hk rfl).1 (by simp)
    · rw [if_neg hs] at hk ⊢
      have h2 := (hk rfl).2
      simp only at h2
      have hv := be4_range hr.1 1
      exact next_201 g o n c _ w hg (by omega) hnc c0 (hc 5 (by omega))
  · rw [e] at other
    rw [e]
    refine other (by simp [bty]) ?_
    simp only [Int.reduceEq, if_false, if_true]
    split <;> simp [kindOf, bty]
  · rw [e] at other
    rw [e]
    refine other (by simp [bty]) ?_
    simp only [Int.reduceEq, if_false, if_true]
    split <;> simp [kindOf, bty]
  · rw [e] at other
    rw [e]
    refine other (by simp [bty]) ?_
    simp only [Int.reduceEq, if_false, if_true]
    split <;> simp [kindOf, bty]
  · rw [e] at other
    rw [e]
    refine other (by simp [bty]) ?_
    simp only [Int.reduceEq, if_false, if_true]
    split <;> simp [kindOf, bty]
  · rw [e] at other
    rw [e]
    refine other (by simp [bty]) ?_
    simp only [Int.reduceEq, if_false, if_true]
    split <;> simp [kindOf, bty]
  · rw [e] at other
    rw [e]
    refine other (by simp [bty]) ?_
    simp only [Int.reduceEq, if_false, if_true]
    split <;> simp [kindOf, bty]
  · rw [e] at other
    rw [e]
    refine other (by simp [bty]) ?_
    simp only [Int.reduceEq, if_false, if_true]
    split <;> simp [kindOf, bty]
  · rw [e] at other
    rw [e]
    refine other (by simp [bty]) ?_
    simp only [Int.reduceEq, if_false, if_true]
    split <;> simp [kindOf, bty]
  · rw [e] at other
    rw [e]
    refine other (by simp [bty]) ?_
    simp only [Int.reduceEq, if_false, if_true]
    split <;> simp [kindOf, bty]
  · rw [e] at other
    rw [e]
    refine other (by simp [bty]) ?_
    simp only [Int.reduceEq, if_false, if_true]
    split <;> simp [kindOf, bty]
  · rw [e] at hk c0
    rw [e]
    simp only [Int.reduceEq, if_false, if_true] at hk ⊢
    by_cases hs : l.length < 2
    · rw [if_pos hs] at hk; exact absurd (hk rfl).1 (by simp)
    · rw [if_neg hs] at hk ⊢
      have h2 := (hk rfl).2
      simp only at h2
      exact next_212 g o n c _ w hg (by omega) hnc c0 (hc 1 (by omega))
  · rw [e] at hk c0
    rw [e]
    simp only [Int.reduceEq, if_false, if_true] at hk ⊢
    by_cases hs : l.length < 2
    · rw [if_pos hs] at hk; exact absurd (hk rfl).1 (by simp)
    · rw [if_neg hs] at hk ⊢
      have h2 := (hk rfl).2
      simp only at h2
      exact next_213 g o n c _ w hg (by omega) hnc c0 (hc 1 (by omega))
  · rw [e] at hk c0
    rw [e]
    simp only [Int.reduceEq, if_false, if_true] at hk ⊢
    by_cases hs : l.length < 2
    · rw [if_pos hs] at hk; exact absurd (hk rfl).1 (by simp)
    · rw [if_neg hs] at hk ⊢
      have h2 := (hk rfl).2
      simp only at h2
      exact next_214 g o n c _ w hg (by omega) hnc c0 (hc 1 (by omega))
  · rw [e] at hk c0
    rw [e]
    simp only [Int.reduceEq, if_false, if_true] at hk ⊢
    by_cases hs : l.length < 2
    · rw [if_pos hs] at hk; exact absurd (hk rfl).1 (by simp)
    · rw [if_neg hs] at hk ⊢
      have h2 := (hk rfl).2
      simp only at h2
      exact next_215 g o n c _ w hg (by omega) hnc c0 (hc 1 (by omega))
  · rw [e] at hk c0
    rw [e]
    simp only [Int.reduceEq, if_false, if_true] at hk ⊢
    by_cases hs : l.length < 2
    · rw [if_pos hs] at hk; exact absurd (hk rfl).1 (by simp)
    · rw [if_neg hs] at hk ⊢
      have h2 := (hk rfl).2
      simp only at h2
      exact next_216 g o n c _ w hg (by omega) hnc c0 (hc 1 (by omega))
  · rw [e] at other
    rw [e]
    refine other (by simp [bty]) ?_
    simp only [Int.reduceEq, if_false, if_true]
    split <;> simp [kindOf, bty]
  · rw [e] at other
    rw [e]
    refine other (by simp [bty]) ?_
    simp only [Int.reduceEq, if_false, if_true]
    split <;> simp [kindOf, bty]
  · rw [e] at other
    rw [e]
    refine other (by simp [bty]) ?_
    simp only [Int.reduceEq, if_false, if_true]
    split <;> simp [kindOf, bty]
  · rw [e] at other
    rw [e]
    refine other (by simp [bty]) ?_
    simp only [Int.reduceEq, if_false, if_true]
    split <;> simp [kindOf, bty]
  · rw [e] at other
    rw [e]
    refine other (by simp [bty]) ?_
    simp only [Int.reduceEq, if_false, if_true]
    split <;> simp [kindOf, bty]
  · rw [e] at other
    rw [e]
    refine other (by simp [bty]) ?_
    simp only [Int.reduceEq, if_false, if_true]
    split <;> simp [kindOf, bty]
  · rw [e] at other
    rw [e]
    refine other (by simp [bty]) ?_
    simp only [Int.reduceEq, if_false, if_true]
    split <;> simp [kindOf, bty]

set_option maxHeartbeats 400000 in
theorem implKind_c (A : Option Addr) (n c : Nat) (l : List Int) (w : World) (hr : Rd w A l) (hn : l.length = n) (hpos : 0 < n) (hle : n ≤ 131072) (hk : KindOk l) :
    Calls Try.prog 9 #[.slice A n c] w fun e w' => e = .returned (.int .i64 (kindOf (headOf l))) ∧ Below w.heap.size w w' := by
  obtain ⟨k0, k1⟩ := kindOf_range (headOf l)
  generalize hK : kindOf (headOf l) = K at k0 k1
  have HK := Lib.hid hK
  clear hK
  have hN := Lib.hid hn
  clear hn
  go_enter Try.func9, Try.ntmps9
  go_wp2_with fail
  ((with_reducible refine (clone_c _ _ _ l _ hr hN.out (by omega)).mono ?_); rintro e w1 ⟨v, rfl, hown, hb1⟩)
  obtain ⟨A', c', rfl, hc1, hc2, hr1⟩ := hown.open_ hr.1
  rw [hN.out] at hc1 ⊢
  go_wp2_with fail
  ((with_reducible refine (nextType_c _ _ _ l _ hr1 hN.out hc1 hpos hk).mono ?_); rintro e w2 ⟨rfl, hb2⟩)
  rw [HK.out]
  go_wp2_with fail
  go_ret
  exact ⟨rfl, hb1.trans (hb2.mono hb1.size)⟩

theorem cells6 {w1 w2 : World} {v0 v1 v2 v3 v4 v5 : Value} {t : TypeId} (hb : Below (w1.alloc (.cells #[v0, v1, v2, v3, v4, v5] t)).drew.heap.size (w1.alloc (.cells #[v0, v1, v2, v3, v4, v5] t)).drew w2) :
    w2.cell? ⟨w1.heap.size, 0, none⟩ = some v0 ∧ w2.cell? ⟨w1.heap.size, 1, none⟩ = some v1 ∧ w2.cell? ⟨w1.heap.size, 2, none⟩ = some v2 ∧ w2.cell? ⟨w1.heap.size, 3, none⟩ = some v3 ∧ w2.cell? ⟨w1.heap.size, 4, none⟩ = some v4 ∧ w2.cell? ⟨w1.heap.size, 5, none⟩ = some v5 := by
  refine ⟨?_, ?_, ?_, ?_, ?_, ?_⟩ <;> (rw [hb.cell (by simp)]; simp)

/-- The law's last step: both kinds are told, and are one. -/
def Told (W : World) (A : Option Addr) (n c : Nat) (l : List Int) (K : Int) : Prop :=
  Rd W A l → Calls Try.prog 9 #[.slice A n c] W fun e w' => e = .returned (.int .i64 K) ∧ Below W.heap.size W w'

set_option maxHeartbeats 2000000 in
set_option maxRecDepth 100000 in
theorem fnKind_c (A : Option Addr) (n c : Nat) (l : List Int) (w : World) (hr : Rd w A l) (hn : l.length = n) (hnc : n ≤ c) (hm : c ≤ maxLen) :
    Calls Try.prog 4 #[.slice A n c] w fun e w' => e = .returned (.bool true) ∧ Below w.heap.size w w' := by
  have hN : Hid (l.length = n) := hn
  clear hn
  have hM : Hid (c ≤ maxLen) := hm
  clear hm
  by_cases h1 : 2147483647 < n
  · go_enter Try.func4, Try.ntmps4
    go_wp2_with fail
    go_ret
    exact ⟨rfl, Below.refl _ _⟩
  by_cases h2 : 131072 < n
  · go_enter Try.func4, Try.ntmps4
    go_wp2_with fail
    go_ret
    exact ⟨rfl, Below.refl _ _⟩
  by_cases h5 : n = 0
  · subst h5
    go_enter Try.func4, Try.ntmps4
    go_wp2_with fail
    go_ret
    exact ⟨rfl, Below.refl _ _⟩
  have h3 : n ≤ 131072 := by omega
  have hpos : 0 < n := by omega
  have h4 : ((n : Int) == 0) = false := by simp; omega
  clear h1 h2 h5
  have hK : ∀ W : World, KindOk l → Told W A n c l (kindOf (headOf l)) := fun W h hr' => implKind_c A n c l W hr' hN.out hpos h3 h
  have hk : Hid (KindOk l ↔ ((headOf l).kind = 11 → (headOf l).short = false ∧ (headOf l).length < (n : Int) - (headOf l).size)) := by
    show KindOk l ↔ _
    unfold KindOk
    rw [hN.out]
  have hD : Hid (0 ≤ (headOf l).size ∧ (headOf l).size ≤ 18) := headOf_size l
  go_enter Try.func4, Try.ntmps4
  go_wp2_with fail
  ((with_reducible refine (headOf_c _ _ _ l _ hr hN.out hnc hM.out).mono ?_); rintro e w1 ⟨rfl, hb1⟩)
  have hkc := fun W : World => kindOf_c (headOf l) W (headOf_kind l)
  have hr1 := hr.mono hb1
  generalize headOf l = H at hK hkc hk hD
  obtain ⟨k, x, len, t, s, sh⟩ := H
  obtain ⟨s0, s1⟩ := hD.out
  simp only at s0 s1
  have hK1 := Lib.hid hK
  have hK2 := Lib.hid hkc
  clear hK hkc hD
  have hend : ∀ w' : World, Below (w1.alloc (.cells #[.int .i64 k, .int .u64 x, .int .i64 len, .int .i8 t, .int .i64 s, .bool sh] 29)).drew.heap.size (w1.alloc (.cells #[.int .i64 k, .int .u64 x, .int .i64 len, .int .i8 t, .int .i64 s, .bool sh] 29)).drew w' → Below w.heap.size w w' := fun w' h =>
    hb1.trans ((((Below.refl _ _).alloc hb1.size _).drew).trans (h.mono (by have := hb1.size; simp; omega)))
  by_cases c1 : k = 11
  · subst c1
    by_cases c2 : sh = true
    · subst c2
      go_wp2_with fail
      go_ret
      exact ⟨rfl, hb1.trans ((Below.refl _ _).alloc hb1.size _)⟩
    · obtain rfl : sh = false := by simpa using c2
      clear c2
      by_cases c3 : (n : Int) - s ≤ len
      · go_wp2_with fail
        go_ret
        exact ⟨rfl, hb1.trans ((Below.refl _ _).alloc hb1.size _)⟩
      · have c4 : len < (n : Int) - s := by omega
        have hok : KindOk l := hk.out.2 fun _ => ⟨rfl, c4⟩
        clear c3
        go_wp2_with fail
        go_region_with (first | (go_at_call 9; refine (hK1.out _ hok ?_).mono ?_; exact (hr1.alloc _).drew; rintro e w2 ⟨rfl, hb2⟩; obtain ⟨d0, d1, d2, d3, d4, d5⟩ := cells6 hb2) | (go_at_call 10; refine (hK2.out _).mono ?_; rintro e w3 ⟨rfl, hb3⟩))
        all_goals
          go_wp2_with fail
          go_ret
          exact ⟨rfl, hend _ (hb2.trans (hb3.mono hb2.size))⟩
  · have hok : KindOk l := hk.out.2 fun h => absurd h c1
    have c5 : (k == 11) = false := by simpa using c1
    clear c1
    go_wp2_with fail
    go_region_with (first | (go_at_call 9; refine (hK1.out _ hok ?_).mono ?_; exact (hr1.alloc _).drew; rintro e w2 ⟨rfl, hb2⟩; obtain ⟨d0, d1, d2, d3, d4, d5⟩ := cells6 hb2) | (go_at_call 10; refine (hK2.out _).mono ?_; rintro e w3 ⟨rfl, hb3⟩))
    all_goals
      go_wp2_with fail
      go_ret
      exact ⟨rfl, hend _ (hb2.trans (hb3.mono hb2.size))⟩
end Go.Proofs.Ytbikbanmdepakaa
