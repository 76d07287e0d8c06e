/- The law FnSmall, walked: how nothing, true and false are written, and that they are read. Conditions: the slice reads as bytes; the two sentinels' variables hold what the program lays in them. -/
import Derived.Test.YtpmdlbbgljcloaaDoorSmallR
import Derived.Test.YtpmdlbbgljcloaaDoorSame
namespace Go.Proofs.YtpmdlbbgljcloaaDoor
open Go Go.RowKit Go.Lib
set_option linter.unusedVariables false

set_option maxHeartbeats 1000000 in
theorem implNilW_c (w : World) : Calls Tryd.prog 21 #[] w (Made w [192]) := by
  go_enter Tryd.func21, Tryd.ntmps21
  go_wp2_with (first | (at_builtin; refine app_own rfl _ _ rfl w.heap.size _ [] rfl (World.ownsRow_nil _ _ _ _) (some ⟨w.heap.size, 0, none⟩) 1 1 [192] rfl (rd_one _ _ (by omega) _) rfl (by simp) (by simp) ?_; intro v1 w1 hown1 hb1) | go_in)
  go_ret
  exact ⟨_, rfl, hown1, ((Below.refl _ _).alloc (Nat.le_refl _) _).trans hb1⟩

set_option maxHeartbeats 1000000 in
theorem implBoolW_c (x : Bool) (w : World) : Calls Tryd.prog 22 #[.bool x] w (Made w [if x then 195 else 194]) := by
  cases x
  · go_enter Tryd.func22, Tryd.ntmps22
    go_wp2_with (first | (at_builtin; refine app_own rfl _ _ rfl w.heap.size _ [] rfl (World.ownsRow_nil _ _ _ _) (some ⟨w.heap.size, 0, none⟩) 1 1 [194] rfl (rd_one _ _ (by omega) _) rfl (by simp) (by simp) ?_; intro v1 w1 hown1 hb1) | go_in)
    go_ret
    exact ⟨_, rfl, hown1, ((Below.refl _ _).alloc (Nat.le_refl _) _).trans hb1⟩
  · go_enter Tryd.func22, Tryd.ntmps22
    go_wp2_with (first | (at_builtin; refine app_own rfl _ _ rfl w.heap.size _ [] rfl (World.ownsRow_nil _ _ _ _) (some ⟨w.heap.size, 0, none⟩) 1 1 [195] rfl (rd_one _ _ (by omega) _) rfl (by simp) (by simp) ?_; intro v1 w1 hown1 hb1) | go_in)
    go_ret
    exact ⟨_, rfl, hown1, ((Below.refl _ _).alloc (Nat.le_refl _) _).trans hb1⟩

set_option maxHeartbeats 4000000 in
set_option maxRecDepth 100000 in
theorem fnSmall_c (x : Bool) (A : Option Addr) (n c : Nat) (l : List Int) (w : World) (hr : Rd w A l) (hn : l.length = n) (hnc : n ≤ c) (hm : c ≤ maxLen) (hG : Glob w) :
    Calls Tryd.prog 4 #[.bool x, .slice A n c] w fun e w' => e = .returned (.bool true) ∧ Below w.heap.size w w' := by
  have hN : Hid (l.length = n) := hn
  clear hn
  have HG : Hid (Glob w) := hG
  clear hG
  by_cases h1 : 2147483647 < n
  · go_enter Tryd.func4, Tryd.ntmps4
    go_wp2_with fail
    go_ret
    exact ⟨rfl, Below.refl _ _⟩
  by_cases h2 : 131072 < n
  · go_enter Tryd.func4, Tryd.ntmps4
    go_wp2_with fail
    go_ret
    exact ⟨rfl, Below.refl _ _⟩
  have h3 : n ≤ 131072 := by omega
  have h4 : n + 1 ≤ 1000000000000 := by omega
  clear h1 h2
  cases x
  · have hP : rdBool ([194] ++ l) = (false, n, .ok) := by rw [← hN.out]; simp [rdBool, at_]
    have hQ : rdNil ([192] ++ l) = (n, .ok) := by rw [← hN.out]; simp [rdNil, at_]
    have hlen : ([194] : List Int).length + l.length ≤ 1000000000000 := by rw [hN.out]; simp; omega
    have hlen2 : ([192] : List Int).length + l.length ≤ 1000000000000 := by rw [hN.out]; simp; omega
    have hby : Byts ([194] ++ l) := (Byts.nil.cons (by omega)).append hr.1
    have hby2 : Byts ([192] ++ l) := (Byts.nil.cons (by omega)).append hr.1
    go_enter Tryd.func4, Tryd.ntmps4
    go_wp2_with (at_builtin; refine app_own rfl _ _ rfl w.heap.size _ [194] rfl (own_lit w [194] _ 1 rfl rfl (by omega)) A n c l rfl (hr.alloc _) hN.out hlen (by simp) ?_; intro v1 w1 hown1 hb1)
    have k1 : Below w.heap.size w w1 := ((Below.refl _ _).alloc (Nat.le_refl _) _).trans hb1
    obtain ⟨A1, c1, rfl, hc1, hm1, hr1⟩ := hown1.open_ hby
    ((with_reducible refine (implBool_c _ _ _ ([194] ++ l) _ hr1 rfl (by simpa [Nat.add_comm] using hlen) (HG.out.mono k1)).mono ?_); rintro e w2 ⟨rfl, hb2⟩)
    rw [hP]
    have k2 := k1.trans (hb2.mono k1.size)
    go_wp2_with (at_builtin; refine app_own rfl _ _ rfl w2.heap.size _ [192] rfl (own_lit w2 [192] _ 1 rfl rfl (by omega)) A n c l rfl ((hr.mono k2).alloc _) hN.out hlen2 (by simp) ?_; intro v3 w3 hown3 hb3)
    have k3 : Below w.heap.size w w3 := k2.trans ((((Below.refl _ _).alloc (Nat.le_refl _) _).trans hb3).mono k2.size)
    obtain ⟨A3, c3, rfl, hc3, hm3, hr3⟩ := hown3.open_ hby2
    ((with_reducible refine (implNil_c _ _ _ ([192] ++ l) _ hr3 rfl (by simpa [Nat.add_comm] using hlen2) (HG.out.mono k3)).mono ?_); rintro e w4 ⟨rfl, hb4⟩)
    rw [hQ]
    have k4 := k3.trans (hb4.mono k3.size)
    go_wp2_with fail
    ((with_reducible refine (implNilW_c _).mono ?_); rintro e w5 ⟨v5, rfl, hown5, hb5⟩)
    obtain ⟨A5, c5, rfl, -, -, hr5⟩ := hown5.open_ (Byts.nil.cons (by omega))
    have k5 := k4.trans (hb5.mono k4.size)
    go_wp2_with fail
    ((with_reducible refine (same_c _ _ 1 _ _ [192] _ (hr5.alloc _) (rd_one _ _ (by omega) _) rfl).mono ?_); rintro e w6 ⟨rfl, rfl⟩)
    go_wp2_with fail
    ((with_reducible refine (implBoolW_c false _).mono ?_); rintro e w7 ⟨v7, rfl, hown7, hb7⟩)
    have k7 := below_via k5 hb7
    obtain ⟨A7, c7, rfl, -, -, hr7⟩ := hown7.open_ (Byts.nil.cons (by simp))
    go_wp2_with fail
    ((with_reducible refine (same_c _ _ 1 _ _ [194] _ (hr7.alloc _) (rd_one _ _ (by omega) _) rfl).mono ?_); rintro e w8 ⟨rfl, rfl⟩)
    go_wp2_with fail
    go_ret
    exact ⟨rfl, k7.alloc k7.size _⟩
  · have hP : rdBool ([195] ++ l) = (true, n, .ok) := by rw [← hN.out]; simp [rdBool, at_]
    have hQ : rdNil ([192] ++ l) = (n, .ok) := by rw [← hN.out]; simp [rdNil, at_]
    have hlen : ([195] : List Int).length + l.length ≤ 1000000000000 := by rw [hN.out]; simp; omega
    have hlen2 : ([192] : List Int).length + l.length ≤ 1000000000000 := by rw [hN.out]; simp; omega
    have hby : Byts ([195] ++ l) := (Byts.nil.cons (by omega)).append hr.1
    have hby2 : Byts ([192] ++ l) := (Byts.nil.cons (by omega)).append hr.1
    go_enter Tryd.func4, Tryd.ntmps4
    go_wp2_with (at_builtin; refine app_own rfl _ _ rfl w.heap.size _ [195] rfl (own_lit w [195] _ 1 rfl rfl (by omega)) A n c l rfl (hr.alloc _) hN.out hlen (by simp) ?_; intro v1 w1 hown1 hb1)
    have k1 : Below w.heap.size w w1 := ((Below.refl _ _).alloc (Nat.le_refl _) _).trans hb1
    obtain ⟨A1, c1, rfl, hc1, hm1, hr1⟩ := hown1.open_ hby
    ((with_reducible refine (implBool_c _ _ _ ([195] ++ l) _ hr1 rfl (by simpa [Nat.add_comm] using hlen) (HG.out.mono k1)).mono ?_); rintro e w2 ⟨rfl, hb2⟩)
    rw [hP]
    have k2 := k1.trans (hb2.mono k1.size)
    go_wp2_with (at_builtin; refine app_own rfl _ _ rfl w2.heap.size _ [192] rfl (own_lit w2 [192] _ 1 rfl rfl (by omega)) A n c l rfl ((hr.mono k2).alloc _) hN.out hlen2 (by simp) ?_; intro v3 w3 hown3 hb3)
    have k3 : Below w.heap.size w w3 := k2.trans ((((Below.refl _ _).alloc (Nat.le_refl _) _).trans hb3).mono k2.size)
    obtain ⟨A3, c3, rfl, hc3, hm3, hr3⟩ := hown3.open_ hby2
    ((with_reducible refine (implNil_c _ _ _ ([192] ++ l) _ hr3 rfl (by simpa [Nat.add_comm] using hlen2) (HG.out.mono k3)).mono ?_); rintro e w4 ⟨rfl, hb4⟩)
    rw [hQ]
    have k4 := k3.trans (hb4.mono k3.size)
    go_wp2_with fail
    ((with_reducible refine (implNilW_c _).mono ?_); rintro e w5 ⟨v5, rfl, hown5, hb5⟩)
    obtain ⟨A5, c5, rfl, -, -, hr5⟩ := hown5.open_ (Byts.nil.cons (by omega))
    have k5 := k4.trans (hb5.mono k4.size)
    go_wp2_with fail
    ((with_reducible refine (same_c _ _ 1 _ _ [192] _ (hr5.alloc _) (rd_one _ _ (by omega) _) rfl).mono ?_); rintro e w6 ⟨rfl, rfl⟩)
    go_wp2_with fail
    ((with_reducible refine (implBoolW_c true _).mono ?_); rintro e w7 ⟨v7, rfl, hown7, hb7⟩)
    have k7 := below_via k5 hb7
    obtain ⟨A7, c7, rfl, -, -, hr7⟩ := hown7.open_ (Byts.nil.cons (by simp))
    go_wp2_with fail
    ((with_reducible refine (same_c _ _ 1 _ _ [195] _ (hr7.alloc _) (rd_one _ _ (by omega) _) rfl).mono ?_); rintro e w8 ⟨rfl, rfl⟩)
    go_wp2_with fail
    go_ret
    exact ⟨rfl, k7.alloc k7.size _⟩
end Go.Proofs.YtpmdlbbgljcloaaDoor
