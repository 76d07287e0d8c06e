/- The law FnSkipCut, walked: an object of which bytes lack is told to be short. Conditions: the slice reads as bytes; the number is an int; the two sentinels' variables hold what the program lays in them. -/
import Derived.Test.YtmhilpnagpkkiaaDoorWholeW
namespace Go.Proofs.YtmhilpnagpkkiaaDoor
open Go Go.RowKit Go.Lib
set_option linter.unusedVariables false

set_option maxHeartbeats 4000000 in
set_option maxRecDepth 100000 in
theorem fnSkipCut_c (A : Option Addr) (n c : Nat) (l : List Int) (b : Int) (w : World) (hr : Rd w A l) (hn : l.length = n) (hnc : n ≤ c) (hm : c ≤ maxLen) (hb : -9223372036854775808 ≤ b ∧ b ≤ 9223372036854775807) (hG : Glob w) :
    Calls Tryd.prog 5 #[.slice A n c, .int .i64 b] w fun e w' => e = .returned (.bool true) ∧ Below w.heap.size w w' := by
  obtain ⟨b0, b1⟩ := hb
  have HN : Hid (l.length = n) := hn
  have HG : Hid (Glob w) := hG
  by_cases h1 : 2147483647 < n
  · clear hn hG
    go_enter Tryd.func5, Tryd.ntmps5
    go_wp2_with fail
    go_ret
    exact ⟨rfl, Below.refl _ _⟩
  by_cases h2 : 4096 < n
  · clear hn hG
    go_enter Tryd.func5, Tryd.ntmps5
    go_wp2_with fail
    go_ret
    exact ⟨rfl, Below.refl _ _⟩
  have h3 : n ≤ 4096 := by omega
  by_cases h4 : b < 0
  · clear hn hG
    go_enter Tryd.func5, Tryd.ntmps5
    go_wp2_with fail
    go_ret
    exact ⟨rfl, Below.refl _ _⟩
  obtain ⟨j, rfl⟩ := Int.eq_ofNat_of_zero_le (show 0 ≤ b by omega)
  have hm' : c ≤ 9223372036854775807 := by simp only [maxLen] at hm; omega
  have hw := whole_c 8193 8192 A n c l w (by omega) (by omega) hr hn hnc hm (by omega)
  have hs : ∀ W : World, Rd W A l → Glob W → Calls Tryd.prog 17 #[.slice A n c] W (SkipTold W l n) := fun W hr' hG' => implSkip_c A n c l W hr' HN.out (by omega) hG'
  have hdeep : Hid (obj 8193 l = obj 100000 l) := obj_deep 4096 l hr.1 (by omega) _ _ (by omega) (by omega)
  have hby := hr.1
  clear h1 h2 hn hG hm h4
  go_enter Tryd.func5, Tryd.ntmps5
  go_wp2_with fail
  ((with_reducible refine hw.mono ?_); rintro e w1 ⟨hb1, ⟨k, hk, rfl⟩ | ⟨r, x, hk, rfl⟩⟩)
  · have hk' : Hid (obj 100000 l = .ok k) := by show _ = _; rw [← hdeep.out]; exact hk
    have hle : k ≤ n := by have := (obj_le _ l hby k hk).2; rw [HN.out] at this; exact this
    clear hk hw
    by_cases hjk : k ≤ j
    · go_wp2_with fail
      go_ret
      exact ⟨rfl, hb1⟩
    · have hj : j < k := by omega
      have hjn : j ≤ n := by omega
      have hjc : j ≤ c := by omega
      have hcut : Hid (obj 100000 (l.take j) = .error .short) := obj_cut 100000 l hby k j hk'.out hj
      have hlen : Hid ((l.take j).length = j) := by show _ = _; rw [List.length_take, HN.out]; omega
      obtain ⟨g, o, rfl, hg0, -⟩ := hr.open_ (by have := HN.out; omega)
      have hrt : Rd w (some ⟨g, o, none⟩) (l.take j) := by have := hr.cutTake 0 j; simpa using this
      have hs2 : ∀ W : World, Rd W (some ⟨g, o, none⟩) (l.take j) → Glob W → Calls Tryd.prog 17 #[.slice (some ⟨g, o, none⟩) j c] W (SkipTold W (l.take j) j) := fun W hr' hG' => implSkip_c _ j c (l.take j) W hr' hlen.out (by omega) hG'
      clear hjk
      go_wp2_with fail
      ((with_reducible refine (hs2 _ (hrt.mono hb1) (HG.out.mono hb1)).mono ?_); rintro e w2 ⟨hb2, ⟨k2, hk2, rfl⟩ | ⟨r2, m2, hk2, hrc, rfl⟩⟩)
      · rw [hcut.out] at hk2; cases hk2
      · rw [hcut.out] at hk2
        cases hk2
        have b2 := below_step hb1 hb2
        clear hs2 hrt
        go_wp2_with fail
        ((with_reducible refine (hs _ (hr.mono b2) (HG.out.mono b2)).mono ?_); rintro e w3 ⟨hb3, ⟨k3, hk3, rfl⟩ | ⟨r3, m3, hk3, hrc3, rfl⟩⟩)
        · go_wp2_with fail
          go_ret
          exact ⟨by first | rfl | (simp [Er.code]; done), below_step b2 hb3⟩
        · rw [hk'.out] at hk3; cases hk3
  · clear hk hw
    go_wp2_with fail
    go_ret
    exact ⟨rfl, hb1⟩
end Go.Proofs.YtmhilpnagpkkiaaDoor
