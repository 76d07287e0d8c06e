/- How far an object reaches, in plain Lean: what stands ahead tells how many bytes and how many objects follow. No program is in sight. Conditions: none. -/
import Derived.Test.YtmhilpnagpkkiaaDoorGetSpec
import Derived.Test.YtmhilpnagpkkiaaDoorRead
import Derived.Test.YtmhilpnagpkkiaaDoorHeadDefs
namespace Go.Proofs.YtmhilpnagpkkiaaDoor
open Go
set_option linter.unusedVariables false

/-- What getSize answers: bytes, objects behind them, the error. -/
def gsz (l : List Int) : Int × Int × Er :=
  if l.length = 0 then (0, 0, .short) else
  if bsz (at_ l 0) = 0 then (0, 0, .pre (at_ l 0)) else
  if 0 ≤ bex (at_ l 0) then (bsz (at_ l 0), bex (at_ l 0), .ok) else
  if (l.length : Int) < bsz (at_ l 0) then (0, 0, .short) else
  if bex (at_ l 0) = -1 then (bsz (at_ l 0) + at_ l 1, 0, .ok) else
  if bex (at_ l 0) = -2 then (bsz (at_ l 0) + be2 l 1, 0, .ok) else
  if bex (at_ l 0) = -3 then (bsz (at_ l 0) + be4 l 1, 0, .ok) else
  if bex (at_ l 0) = -4 then (bsz (at_ l 0), 2 * be2 l 1, .ok) else
  if bex (at_ l 0) = -5 then (bsz (at_ l 0), 2 * be4 l 1, .ok) else
  if bex (at_ l 0) = -6 then (bsz (at_ l 0), be2 l 1, .ok) else
  (bsz (at_ l 0), be4 l 1, .ok)

/-- The table's rows hang together. -/
def Fit (c : Int) : Prop := 0 ≤ bsz c ∧ bsz c ≤ 32 ∧ -7 ≤ bex c ∧ bex c ≤ 30 ∧ (bex c = -1 → 2 ≤ bsz c) ∧ (bex c = -2 → 3 ≤ bsz c) ∧ (bex c = -3 → 5 ≤ bsz c) ∧ (bex c = -4 → 3 ≤ bsz c) ∧ (bex c = -5 → 5 ≤ bsz c) ∧ (bex c = -6 → 3 ≤ bsz c) ∧ (bex c = -7 → 5 ≤ bsz c)
instance (c : Int) : Decidable (Fit c) := by unfold Fit; infer_instance
theorem fit (c : Int) (h0 : 0 ≤ c) (h1 : c < 256) : Fit c := by
  have key : ∀ y : Fin 256, Fit (y.val : Int) := by decide +kernel
  have := key ⟨c.toNat, by omega⟩
  simp only at this
  rw [show ((c.toNat : Nat) : Int) = c from Int.toNat_of_nonneg h0] at this
  exact this

/-- One object's own bytes, and how many objects follow in it. -/
def step (l : List Int) : Except Er (Nat × Nat) :=
  if (gsz l).2.2.code ≠ 0 then .error (gsz l).2.2 else
  if (l.length : Int) < (gsz l).1 then .error .short else .ok ((gsz l).1.toNat, (gsz l).2.1.toNat)
/-- So many objects, one behind the other. -/
def oloop (f : List Int → Except Er Nat) (l : List Int) : Nat → Nat → Except Er Nat
  | 0, n => .ok n
  | m + 1, n => match f (l.drop n) with
    | .error r => .error r
    | .ok k => oloop f l m (n + k)
/-- A whole object, at most so deep. -/
def obj : Nat → List Int → Except Er Nat
  | 0, _ => .error .deep
  | d + 1, l => match step l with
    | .error r => .error r
    | .ok (t, m) => oloop (obj d) l m t

/-! ### what an object's end is good for -/
theorem gsz_range (l : List Int) (hb : Byts l) : ((gsz l).2.2.code = 0 ∧ (gsz l).2.2 = .ok ∧ 1 ≤ (gsz l).1 ∧ (gsz l).1 ≤ 4294967327 ∧ 0 ≤ (gsz l).2.1 ∧ (gsz l).2.1 ≤ 8589934590 ∧ 0 < l.length) ∨ ((gsz l).2.2.code ≠ 0 ∧ (gsz l).1 = 0 ∧ (gsz l).2.1 = 0) := by
  have hc := hb.at_ 0
  have a1 := hb.at_ 1
  have a2 := be2_range hb 1
  have a4 := be4_range hb 1
  obtain ⟨f1, f2, f3, f4, f5, f6, f7, f8, f9, f10, f11⟩ := fit _ hc.1 hc.2
  unfold gsz
  by_cases h0 : l.length = 0
  · rw [if_pos h0]; exact .inr ⟨by decide, rfl, rfl⟩
  rw [if_neg h0]
  by_cases h1 : bsz (at_ l 0) = 0
  · rw [if_pos h1]; exact .inr ⟨by simp [Er.code], rfl, rfl⟩
  rw [if_neg h1]
  by_cases h2 : 0 ≤ bex (at_ l 0)
  · rw [if_pos h2]; exact .inl ⟨rfl, rfl, by simp only []; omega, by simp only []; omega, by simp only []; omega, by simp only []; omega, by omega⟩
  rw [if_neg h2]
  by_cases h3 : (l.length : Int) < bsz (at_ l 0)
  · rw [if_pos h3]; exact .inr ⟨by decide, rfl, rfl⟩
  rw [if_neg h3]
  (repeat' split) <;> exact .inl ⟨rfl, rfl, by simp only []; omega, by simp only []; omega, by simp only []; omega, by simp only []; omega, by omega⟩

theorem step_ok {l : List Int} (hb : Byts l) {t m : Nat} (h : step l = .ok (t, m)) : 1 ≤ t ∧ t ≤ l.length ∧ (gsz l).2.2 = .ok ∧ (gsz l).1 = t ∧ (gsz l).2.1 = m ∧ m ≤ 8589934590 := by
  unfold step at h
  rcases gsz_range l hb with ⟨g1, g2, g3, g4, g5, g6, g7⟩ | ⟨g1, g2, g3⟩
  · rw [if_neg (by simp [g1])] at h
    by_cases h2 : (l.length : Int) < (gsz l).1
    · rw [if_pos h2] at h; cases h
    · rw [if_neg h2] at h
      simp only [Except.ok.injEq, Prod.mk.injEq] at h
      exact ⟨by omega, by omega, g2, by omega, by omega, by omega⟩
  · rw [if_pos g1] at h; cases h
theorem step_err {l : List Int} (hb : Byts l) {r : Er} (h : step l = .error r) : r.code ≠ 0 := by
  unfold step at h
  by_cases h1 : (gsz l).2.2.code ≠ 0
  · rw [if_pos h1] at h
    cases h; exact h1
  · rw [if_neg h1] at h
    by_cases h2 : (l.length : Int) < (gsz l).1
    · rw [if_pos h2] at h; cases h; decide
    · rw [if_neg h2] at h; cases h

theorem oloop_le {f : List Int → Except Er Nat} {l : List Int} (hf : ∀ p k, f (l.drop p) = .ok k → k ≤ (l.drop p).length) : ∀ m n e, n ≤ l.length → oloop f l m n = .ok e → n ≤ e ∧ e ≤ l.length
  | 0, n, e, hn, h => by simp only [oloop, Except.ok.injEq] at h; omega
  | m + 1, n, e, hn, h => by
    simp only [oloop] at h
    rcases hk : f (l.drop n) with r | k
    · rw [hk] at h; cases h
    · rw [hk] at h
      have h1 := hf n k hk
      rw [List.length_drop] at h1
      have := oloop_le hf m (n + k) e (by omega) h
      omega
theorem obj_le : ∀ d (l : List Int), Byts l → ∀ k, obj d l = .ok k → 1 ≤ k ∧ k ≤ l.length
  | 0, l, hb, k, h => by cases h
  | d + 1, l, hb, k, h => by
    simp only [obj] at h
    rcases hs : step l with r | ⟨t, m⟩
    · rw [hs] at h; cases h
    · rw [hs] at h
      have h1 := step_ok hb hs
      have := oloop_le (f := obj d) (l := l) (fun p k hk => (obj_le d _ (hb.drop p) k hk).2) m t k h1.2.1 h
      omega
theorem oloop_err {f : List Int → Except Er Nat} {l : List Int} (hf : ∀ p r, f (l.drop p) = .error r → r.code ≠ 0) : ∀ m n r, oloop f l m n = .error r → r.code ≠ 0
  | 0, n, r, h => by cases h
  | m + 1, n, r, h => by
    simp only [oloop] at h
    rcases hk : f (l.drop n) with r' | k
    · rw [hk] at h; cases h; exact hf n _ hk
    · rw [hk] at h; exact oloop_err hf m (n + k) r h
theorem obj_err : ∀ d (l : List Int), Byts l → ∀ r, obj d l = .error r → r.code ≠ 0
  | 0, l, hb, r, h => by cases h; decide
  | d + 1, l, hb, r, h => by
    simp only [obj] at h
    rcases hs : step l with r' | ⟨t, m⟩
    · rw [hs] at h; cases h; exact step_err hb hs
    · rw [hs] at h; exact oloop_err (fun p r hr => obj_err d _ (hb.drop p) r hr) m t r h

/-- How deep one may go does not matter where it is more than the bytes. -/
theorem oloop_same {f g : List Int → Except Er Nat} {l : List Int} (hfg : ∀ p, 1 ≤ p → p ≤ l.length → f (l.drop p) = g (l.drop p)) (hf : ∀ p k, f (l.drop p) = .ok k → k ≤ (l.drop p).length) : ∀ m n, 1 ≤ n → n ≤ l.length → oloop f l m n = oloop g l m n
  | 0, n, _, _ => rfl
  | m + 1, n, h1, h2 => by
    simp only [oloop]
    rw [← hfg n h1 h2]
    rcases hk : f (l.drop n) with r | k
    · rfl
    · have h3 := hf n k hk
      rw [List.length_drop] at h3
      exact oloop_same hfg hf m (n + k) (by omega) (by omega)
theorem obj_deep : ∀ (N : Nat) (l : List Int), Byts l → l.length ≤ N → ∀ d1 d2, N < d1 → N < d2 → obj d1 l = obj d2 l
  | 0, l, hb, hN, d1 + 1, d2 + 1, _, _ => by
    have e : step l = .error .short := by
      have e0 : gsz l = (0, 0, .short) := by unfold gsz; rw [if_pos (by omega)]
      unfold step
      rw [e0]
      rfl
    simp only [obj, e]
  | N + 1, l, hb, hN, d1 + 1, d2 + 1, h1, h2 => by
    simp only [obj]
    rcases hs : step l with r | ⟨t, m⟩
    · rfl
    · have h3 := step_ok hb hs
      exact oloop_same (fun p hp hp2 => obj_deep N _ (hb.drop p) (by rw [List.length_drop]; omega) d1 d2 (by omega) (by omega)) (fun p k hk => (obj_le d1 _ (hb.drop p) k hk).2) m t h3.1 h3.2.1

/-! ### an object that is cut -/
theorem at_take (l : List Int) (k i : Nat) (h : i < k) : at_ (l.take k) i = at_ l i := by
  unfold at_
  simp [List.getD_eq_getElem?_getD, h]
theorem be2_take (l : List Int) (k i : Nat) (h : i + 1 < k) : be2 (l.take k) i = be2 l i := by simp only [be2, at_take l k i (by omega), at_take l k (i + 1) h]
theorem be4_take (l : List Int) (k i : Nat) (h : i + 3 < k) : be4 (l.take k) i = be4 l i := by simp only [be4, be2_take l k i (by omega), be2_take l k (i + 2) (by omega)]

theorem gsz_take (l : List Int) (hb : Byts l) (k : Nat) (hk : k ≤ l.length) (hg : (gsz l).2.2.code = 0) : ((k : Int) < (gsz l).1 ∧ (gsz (l.take k)).2.2 = .short) ∨ gsz (l.take k) = gsz l := by
  have hc := hb.at_ 0
  have a1 := hb.at_ 1
  have a2 := be2_range hb 1
  have a4 := be4_range hb 1
  obtain ⟨f1, f2, f3, f4, f5, f6, f7, f8, f9, f10, f11⟩ := fit _ hc.1 hc.2
  have hlen : (l.take k).length = k := by simp; omega
  by_cases h0 : k = 0
  · left
    rcases gsz_range l hb with ⟨g1, g2, g3, g4, g5, g6, g7⟩ | ⟨g1, g2, g3⟩
    · exact ⟨by omega, by unfold gsz; rw [if_pos (by omega)]⟩
    · exact absurd hg g1
  have e0 := at_take l k 0 (by omega)
  by_cases hl0 : l.length = 0
  · omega
  unfold gsz at hg ⊢
  rw [hlen, e0]
  rw [if_neg hl0] at hg ⊢
  rw [if_neg h0]
  by_cases h1 : bsz (at_ l 0) = 0
  · rw [if_pos h1] at hg; simp [Er.code] at hg
  rw [if_neg h1] at hg ⊢
  rw [if_neg h1]
  by_cases h2 : 0 ≤ bex (at_ l 0)
  · rw [if_pos h2, if_pos h2]; exact .inr rfl
  rw [if_neg h2] at hg ⊢
  rw [if_neg h2]
  by_cases h3 : (l.length : Int) < bsz (at_ l 0)
  · rw [if_pos h3] at hg; simp [Er.code] at hg
  rw [if_neg h3]
  by_cases h4 : (k : Int) < bsz (at_ l 0)
  · rw [if_pos h4]
    left
    refine ⟨?_, rfl⟩
    (repeat' split) <;> simp only [] <;> omega
  rw [if_neg h4]
  right
  by_cases m1 : bex (at_ l 0) = -1
  · rw [if_pos m1, if_pos m1, at_take l k 1 (by have := f5 m1; omega)]
  rw [if_neg m1, if_neg m1]
  by_cases m2 : bex (at_ l 0) = -2
  · rw [if_pos m2, if_pos m2, be2_take l k 1 (by have := f6 m2; omega)]
  rw [if_neg m2, if_neg m2]
  by_cases m3 : bex (at_ l 0) = -3
  · rw [if_pos m3, if_pos m3, be4_take l k 1 (by have := f7 m3; omega)]
  rw [if_neg m3, if_neg m3]
  by_cases m4 : bex (at_ l 0) = -4
  · rw [if_pos m4, if_pos m4, be2_take l k 1 (by have := f8 m4; omega)]
  rw [if_neg m4, if_neg m4]
  by_cases m5 : bex (at_ l 0) = -5
  · rw [if_pos m5, if_pos m5, be4_take l k 1 (by have := f9 m5; omega)]
  rw [if_neg m5, if_neg m5]
  by_cases m6 : bex (at_ l 0) = -6
  · rw [if_pos m6, if_pos m6, be2_take l k 1 (by have := f10 m6; omega)]
  rw [if_neg m6, if_neg m6, be4_take l k 1 (by have := f11 (by omega); omega)]

theorem step_take {l : List Int} (hb : Byts l) {t m : Nat} (h : step l = .ok (t, m)) (k : Nat) (hk : k ≤ l.length) : (k < t → step (l.take k) = .error .short) ∧ (t ≤ k → step (l.take k) = .ok (t, m)) := by
  obtain ⟨h1, h2, h3, h4, h5, h6⟩ := step_ok hb h
  have hlen : (l.take k).length = k := by simp; omega
  rcases gsz_take l hb k hk (by rw [h3]; rfl) with ⟨g1, g2⟩ | g
  · refine ⟨fun _ => ?_, fun h7 => by omega⟩
    unfold step
    rw [g2, if_pos (by decide)]
  · unfold step
    rw [g, h3, h4, h5, hlen, if_neg (by decide)]
    refine ⟨fun h7 => ?_, fun h7 => ?_⟩
    · rw [if_pos (by omega)]
    · rw [if_neg (by omega)]; simp

/-- What lies behind an object does not matter. -/
theorem oloop_take {f : List Int → Except Er Nat} {l : List Int} {k : Nat} (hk : k ≤ l.length)
    (hf : ∀ p j q, f (l.drop p) = .ok j → j ≤ q → f ((l.drop p).take q) = .ok j) : ∀ m n e, e ≤ k → n ≤ e → (∀ p j, f (l.drop p) = .ok j → 1 ≤ j) → oloop f l m n = .ok e → (∀ m' n' e', oloop f l m' n' = .ok e' → n' ≤ e') → oloop f (l.take k) m n = .ok e
  | 0, n, e, _, _, _, h, _ => h
  | m + 1, n, e, h1, h2, h3, h, h4 => by
    simp only [oloop] at h ⊢
    rcases hj : f (l.drop n) with r | j
    · rw [hj] at h; cases h
    · rw [hj] at h
      simp only at h
      have h5 := h4 m (n + j) e h
      rw [List.drop_take, hf n j (k - n) hj (by omega)]
      exact oloop_take hk hf m (n + j) e h1 h5 h3 h h4
theorem obj_take : ∀ d (l : List Int), Byts l → ∀ n k, obj d l = .ok n → n ≤ k → obj d (l.take k) = .ok n
  | 0, l, hb, n, k, h, _ => by cases h
  | d + 1, l, hb, n, k, h, hnk => by
    by_cases hk : k ≤ l.length
    · simp only [obj] at h ⊢
      rcases hs : step l with r | ⟨t, m⟩
      · rw [hs] at h; cases h
      · rw [hs] at h
        have h1 := step_ok hb hs
        have hle : ∀ p j, obj d (l.drop p) = .ok j → j ≤ (l.drop p).length := fun p j hj => (obj_le d _ (hb.drop p) j hj).2
        have hmono : ∀ m' n' e', oloop (obj d) l m' n' = .ok e' → n' ≤ e' := by
          intro m'
          induction m' with
          | zero => intro n' e' h'; simp only [oloop, Except.ok.injEq] at h'; omega
          | succ m' ih =>
            intro n' e' h'
            simp only [oloop] at h'
            rcases hj : obj d (l.drop n') with r | j
            · rw [hj] at h'; cases h'
            · rw [hj] at h'
              have := ih (n' + j) e' h'
              omega
        have htn := hmono m t n h
        rw [(step_take hb hs k hk).2 (by omega)]
        exact oloop_take hk (fun p j q hj hq => obj_take d _ (hb.drop p) j q hj hq) m t n hnk htn (fun p j hj => (obj_le d _ (hb.drop p) j hj).1) h hmono
    · rw [List.take_of_length_le (by omega)]; exact h

theorem oloop_cut {f : List Int → Except Er Nat} {l : List Int} {k : Nat} (hk : k ≤ l.length)
    (hf : ∀ p j q, f (l.drop p) = .ok j → j ≤ q → f ((l.drop p).take q) = .ok j) (hf2 : ∀ p j q, f (l.drop p) = .ok j → q < j → f ((l.drop p).take q) = .error .short) :
    ∀ m n e, k < e → n ≤ k → oloop f l m n = .ok e → oloop f (l.take k) m n = .error .short
  | 0, n, e, h1, h2, h => by simp only [oloop, Except.ok.injEq] at h; omega
  | m + 1, n, e, h1, h2, h => by
    simp only [oloop] at h ⊢
    rcases hj : f (l.drop n) with r | j
    · rw [hj] at h; cases h
    · rw [hj] at h
      simp only at h
      rw [List.drop_take]
      by_cases hq : k - n < j
      · rw [hf2 n j (k - n) hj hq]
      · rw [hf n j (k - n) hj (by omega)]
        exact oloop_cut hk hf hf2 m (n + j) e h1 (by omega) h
/-- An object of which bytes lack is short. -/
theorem obj_cut : ∀ d (l : List Int), Byts l → ∀ n k, obj d l = .ok n → k < n → obj d (l.take k) = .error .short
  | 0, l, hb, n, k, h, _ => by cases h
  | d + 1, l, hb, n, k, h, hnk => by
    have hle := obj_le (d + 1) l hb n h
    have hk : k ≤ l.length := by omega
    simp only [obj] at h ⊢
    rcases hs : step l with r | ⟨t, m⟩
    · rw [hs] at h; cases h
    · rw [hs] at h
      by_cases htk : k < t
      · rw [(step_take hb hs k hk).1 htk]
      · rw [(step_take hb hs k hk).2 (by omega)]
        exact oloop_cut hk (fun p j q hj hq => obj_take d _ (hb.drop p) j q hj hq) (fun p j q hj hq => obj_cut d _ (hb.drop p) j q hj hq) m t n hnk (by omega) h

end Go.Proofs.YtmhilpnagpkkiaaDoor
