/- The law FnSkip, walked: of any bytes an object is passed over just if they begin with one, whole. Conditions: the slice reads as bytes; the two sentinels' variables hold what the program lays in them. -/
import Derived.Test.YtmhilpnagpkkiaaDoorWholeW
namespace Go.Proofs.YtmhilpnagpkkiaaDoor
open Go Go.RowKit Go.Lib
set_option linter.unusedVariables false

set_option maxHeartbeats 4000000 in
set_option maxRecDepth 100000 in
theorem fnSkip_c (A : Option Addr) (n c : Nat) (l : List Int) (w : World) (hr : Rd w A l) (hn : l.length = n) (hnc : n ≤ c) (hm : c ≤ maxLen) (hG : Glob w) :
    Calls Tryd.prog 4 #[.slice A n c] w fun e w' => e = .returned (.bool true) ∧ Below w.heap.size w w' := by
  have HN : Hid (l.length = n) := hn
  have HG : Hid (Glob w) := hG
  by_cases h1 : 2147483647 < n
  · clear hn hG
    go_enter Tryd.func4, Tryd.ntmps4
    go_wp2_with fail
    go_ret
    exact ⟨rfl, Below.refl _ _⟩
  by_cases h2 : 4096 < n
  · clear hn hG
    go_enter Tryd.func4, Tryd.ntmps4
    go_wp2_with fail
    go_ret
    exact ⟨rfl, Below.refl _ _⟩
  have h3 : n ≤ 4096 := by omega
  have hw := whole_c 8193 8192 A n c l w (by omega) (by omega) hr hn hnc hm (by omega)
  have hs : ∀ W : World, Rd W A l → Glob W → Calls Tryd.prog 17 #[.slice A n c] W (SkipTold W l n) := fun W hr' hG' => implSkip_c A n c l W hr' HN.out (by omega) hG'
  have hdeep : Hid (obj 8193 l = obj 100000 l) := obj_deep 4096 l hr.1 (by omega) _ _ (by omega) (by omega)
  have hby := hr.1
  clear h1 h2 hn hG hm
  go_enter Tryd.func4, Tryd.ntmps4
  go_wp2_with fail
  ((with_reducible refine hw.mono ?_); rintro e w1 ⟨hb1, ⟨k, hk, rfl⟩ | ⟨r, x, hk, rfl⟩⟩)
  · have hk' := Lib.hid hk
    have hle : k ≤ n := by have := (obj_le _ l hby k hk).2; rw [HN.out] at this; exact this
    clear hk hw
    have hwr : wrap64 ((n : Int) - k) = ((n - k : Nat) : Int) := by unfold wrap64; omega
    go_wp2_with fail
    ((with_reducible refine (hs _ (hr.mono hb1) (HG.out.mono hb1)).mono ?_); rintro e w2 ⟨hb2, ⟨k2, hk2, rfl⟩ | ⟨r2, m2, hk2, hrc, rfl⟩⟩)
    · have e := hk'.out
      rw [hdeep.out, hk2] at e
      cases e
      clear hk2 hs
      go_wp2_with fail
      go_ret
      exact ⟨by first | rfl | (clear hwr; simp; omega), below_step hb1 hb2⟩
    · have e := hk'.out
      rw [hdeep.out, hk2] at e
      cases e
  · have hk' := Lib.hid hk
    clear hk hw
    go_wp2_with fail
    ((with_reducible refine (hs _ (hr.mono hb1) (HG.out.mono hb1)).mono ?_); rintro e w2 ⟨hb2, ⟨k2, hk2, rfl⟩ | ⟨r2, m2, hk2, hrc, rfl⟩⟩)
    · have e := hk'.out
      rw [hdeep.out, hk2] at e
      cases e
    · have hq : (r2.code != 0) = true := by simpa using hrc
      clear hk2 hs hrc
      generalize r2.code = q at *
      go_wp2_with fail
      go_ret
      exact ⟨by first | rfl | (simp [*]; done), below_step hb1 hb2⟩
end Go.Proofs.YtmhilpnagpkkiaaDoor
