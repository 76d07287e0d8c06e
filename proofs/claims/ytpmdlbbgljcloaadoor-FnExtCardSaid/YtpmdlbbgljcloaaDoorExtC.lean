/- msgp's AppendExtension onto nil, whole, and the thin package's Ext, walked. Conditions: at least one byte, at most 131072, not 255 nor 65535; the type is an int8. -/
import Derived.Test.YtpmdlbbgljcloaaDoorExtB
import Derived.Test.YtpmdlbbgljcloaaDoorExtText
import Derived.Test.YtpmdlbbgljcloaaDoorSame
namespace Go.Proofs.YtpmdlbbgljcloaaDoor
open Go Go.RowKit
set_option linter.unusedVariables false

theorem madeE_eq {w w' : World} {l l' : List Int} {e : Ending} (h : MadeE w l e w') (hl : l = l') : MadeE w l' e w' := hl ▸ h
theorem appExt_c (p m c : Nat) (A : Option Addr) (t : Int) (x : List Int) (w : World) (h : ExtAt w p (.slice A m c) t) (hr : Rd w A x) (hm : x.length = m) (hp : p < w.heap.size) (ht : -128 ≤ t ∧ t ≤ 127) (h0 : 1 ≤ m) (h1 : m ≤ 131072) (n1 : m ≠ 255) (n2 : m ≠ 65535) :
    Calls Tryd.prog 84 #[.slice none 0 0, .iface 130 (.pointer (some ⟨p, 0, none⟩))] w (MadeE w (extHead m ++ [t % 256] ++ x)) := by
  unfold extHead
  by_cases e1 : (m : Int) = 1
  · obtain rfl : m = 1 := by omega
    rw [if_pos e1]; exact (appExt_1 p c A t x w h hr hm hp).mono fun e w' k => madeE_eq k rfl
  rw [if_neg e1]
  by_cases e2 : (m : Int) = 2
  · obtain rfl : m = 2 := by omega
    rw [if_pos e2]; exact (appExt_2 p c A t x w h hr hm hp).mono fun e w' k => madeE_eq k rfl
  rw [if_neg e2]
  by_cases e4 : (m : Int) = 4
  · obtain rfl : m = 4 := by omega
    rw [if_pos e4]; exact (appExt_4 p c A t x w h hr hm hp).mono fun e w' k => madeE_eq k rfl
  rw [if_neg e4]
  by_cases e8 : (m : Int) = 8
  · obtain rfl : m = 8 := by omega
    rw [if_pos e8]; exact (appExt_8 p c A t x w h hr hm hp).mono fun e w' k => madeE_eq k rfl
  rw [if_neg e8]
  by_cases e16 : (m : Int) = 16
  · obtain rfl : m = 16 := by omega
    rw [if_pos e16]; exact (appExt_16 p c A t x w h hr hm hp).mono fun e w' k => madeE_eq k rfl
  rw [if_neg e16]
  by_cases c1 : (m : Int) ≤ 255
  · rw [if_pos c1]
    exact (appExt_b1 p m c A t x w h hr hm hp ht h0 (by omega) (by omega) (by omega) (by omega) (by omega) (by omega)).mono fun e w' k => madeE_eq k (by simp)
  rw [if_neg c1]
  by_cases c2 : (m : Int) ≤ 65535
  · rw [if_pos c2]
    exact (appExt_b2 p m c A t x w h hr hm hp ht (by omega) (by omega)).mono fun e w' k => madeE_eq k (by simp)
  · rw [if_neg c2]
    exact (appExt_b4 p m c A t x w h hr hm hp ht (by omega) h1).mono fun e w' k => madeE_eq k (by simp)

/-- 'The call returns a slice of its own with these bytes, and true.' -/
def MadeOk (w : World) (l : List Int) (e : Ending) (w' : World) : Prop := ∃ v, e = .returned (.tuple #[v, .bool true]) ∧ Own w' w.heap.size v l ∧ Below w.heap.size w w'

set_option maxHeartbeats 2000000 in
set_option maxRecDepth 100000 in
theorem implExtW_c (typ : Int) (A : Option Addr) (m c : Nat) (x : List Int) (w : World) (ht : -128 ≤ typ ∧ typ ≤ 127) (hr : Rd w A x) (hm : x.length = m) (h0 : 1 ≤ m) (h1 : m ≤ 131072) (n1 : m ≠ 255) (n2 : m ≠ 65535) :
    Calls Tryd.prog 41 #[.int .i8 typ, .slice A m c] w (MadeOk w (extHead m ++ [typ % 256] ++ x)) := by
  have hap := fun (p c1 : Nat) (A1 : Option Addr) (W : World) (h : ExtAt W p (.slice A1 m c1) typ) (hr : Rd W A1 x) (hp : p < W.heap.size) => appExt_c p m c1 A1 typ x W h hr hm hp ht h0 h1 n1 n2
  have hle : m ≤ 1000000000000 := by omega
  have hlx : x.length = m := hm
  have HM := Lib.hid hm
  clear hm n1 n2
  generalize extHead (m : Int) ++ [typ % 256] ++ x = L at hap ⊢
  have hE := fun (W : World) (A1 : Option Addr) (c1 : Nat) => show ExtAt (W.alloc (.cells #[.slice A1 m c1, .int .i8 typ] 132)) W.heap.size (.slice A1 m c1) typ from ⟨by simp only [World.cell?, heap_alloc_new]; rfl, by simp only [World.cell?, heap_alloc_new]; rfl⟩
  clear hlx
  go_enter Tryd.func41, Tryd.ntmps41
  go_wp2_with fail
  ((with_reducible refine (clone_c _ _ _ x _ hr HM.out hle).mono ?_); rintro e w1 ⟨v, rfl, hown, hb1⟩)
  obtain ⟨A1, c1, rfl, -, -, hr1⟩ := hown.open_ hr.1
  rw [HM.out]
  go_wp2_with fail
  ((with_reducible refine (hap _ _ _ _ (hE _ _ _) (hr1.alloc _) (by simp)).mono ?_); rintro e w2 ⟨v2, rfl, hown2, hb2⟩)
  go_wp2_with fail
  go_quiet (fail)
  go_wp2_with fail
  go_ret2
  exact ⟨_, rfl, hown2.less (by simp; exact Nat.le_trans hb1.size (Nat.le_succ _)), below_drewN (below_via hb1 hb2) _⟩
end Go.Proofs.YtpmdlbbgljcloaaDoor
