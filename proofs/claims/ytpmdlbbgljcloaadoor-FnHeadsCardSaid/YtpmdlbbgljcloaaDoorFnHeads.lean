/- The law FnHeads, walked: what stands ahead of bytes, lists and pairs, of every length, and that it is read. Conditions: the length is a uint32; the slice reads as bytes; the two sentinels' variables hold what the program lays in them. -/
import Derived.Test.YtpmdlbbgljcloaaDoorSpecH
import Derived.Test.YtpmdlbbgljcloaaDoorAppHead
import Derived.Test.YtpmdlbbgljcloaaDoorHeadWr
import Derived.Test.YtpmdlbbgljcloaaDoorHeads
namespace Go.Proofs.YtpmdlbbgljcloaaDoor
open Go Go.RowKit Go.Lib
set_option linter.unusedVariables false

theorem tripH {a a' : Int} {k k' : Nat} (h : a = a') (hk : k = k') : (a, k, Er.ok) = (a', k', Er.ok) := by rw [h, hk]

theorem rdArr_wr (n : Int) (r : List Int) (h0 : 0 ≤ n) (h1 : n ≤ 4294967295) : rdArr (arrayHead n ++ r) = (n, r.length, .ok) := by
  unfold arrayHead
  by_cases c1 : n ≤ 15
  · rw [if_pos c1, rdArr, q_at0, q_len0, if_neg (by omega), if_pos (by omega)]
    exact tripH (by omega) (by omega)
  rw [if_neg c1]
  by_cases c2 : n ≤ 65535
  · rw [if_pos c2, rdArr, q_at0, q_len2, if_neg (by omega), if_neg (by omega), if_pos rfl, if_neg (by omega), q_be2]
    exact tripH (by omega) (by omega)
  rw [if_neg c2, rdArr, q_at0, q_len4, if_neg (by omega), if_neg (by omega), if_neg (by omega), if_pos rfl, if_neg (by omega), q_be4]
  exact tripH (by omega) (by omega)

theorem rdMap_wr (n : Int) (r : List Int) (h0 : 0 ≤ n) (h1 : n ≤ 4294967295) : rdMap (mapHead n ++ r) = (n, r.length, .ok) := by
  unfold mapHead
  by_cases c1 : n ≤ 15
  · rw [if_pos c1, rdMap, q_at0, q_len0, if_neg (by omega), if_pos (by omega)]
    exact tripH (by omega) (by omega)
  rw [if_neg c1]
  by_cases c2 : n ≤ 65535
  · rw [if_pos c2, rdMap, q_at0, q_len2, if_neg (by omega), if_neg (by omega), if_pos rfl, if_neg (by omega), q_be2]
    exact tripH (by omega) (by omega)
  rw [if_neg c2, rdMap, q_at0, q_len4, if_neg (by omega), if_neg (by omega), if_neg (by omega), if_pos rfl, if_neg (by omega), q_be4]
  exact tripH (by omega) (by omega)

set_option maxHeartbeats 1000000 in
theorem implBinHW_c (n : Int) (w : World) (h0 : 0 ≤ n) (h1 : n ≤ 4294967295) : Calls Tryd.prog 48 #[.int .u32 n] w (Made w (binHead n)) := by
  go_enter Tryd.func48, Tryd.ntmps48
  go_wp2_with (first | (go_at_call 88; refine (appBin_c _ _ h0 h1).mono ?_; rintro e w1 ⟨v1, rfl, hown1, hb1⟩) | fail)
  go_ret
  exact ⟨_, rfl, hown1, hb1⟩

set_option maxHeartbeats 1000000 in
theorem implArrHW_c (n : Int) (w : World) (h0 : 0 ≤ n) (h1 : n ≤ 4294967295) : Calls Tryd.prog 49 #[.int .u32 n] w (Made w (arrayHead n)) := by
  go_enter Tryd.func49, Tryd.ntmps49
  go_wp2_with (first | (go_at_call 89; refine (appArr_c _ _ h0 h1).mono ?_; rintro e w1 ⟨v1, rfl, hown1, hb1⟩) | fail)
  go_ret
  exact ⟨_, rfl, hown1, hb1⟩

set_option maxHeartbeats 1000000 in
theorem implMapHW_c (n : Int) (w : World) (h0 : 0 ≤ n) (h1 : n ≤ 4294967295) : Calls Tryd.prog 50 #[.int .u32 n] w (Made w (mapHead n)) := by
  go_enter Tryd.func50, Tryd.ntmps50
  go_wp2_with (first | (go_at_call 90; refine (appMap_c _ _ h0 h1).mono ?_; rintro e w1 ⟨v1, rfl, hown1, hb1⟩) | fail)
  go_ret
  exact ⟨_, rfl, hown1, hb1⟩

set_option maxHeartbeats 4000000 in
set_option maxRecDepth 100000 in
theorem fnHeads_c (n : Int) (A : Option Addr) (m c : Nat) (l : List Int) (w : World) (hn : 0 ≤ n ∧ n ≤ 4294967295) (hr : Rd w A l) (hm : l.length = m) (hmc : m ≤ c) (hx : c ≤ maxLen) (hG : Glob w) :
    Calls Tryd.prog 12 #[.int .u32 n, .slice A m c] w fun e w' => e = .returned (.bool true) ∧ Below w.heap.size w w' := by
  obtain ⟨n0, n1⟩ := hn
  have HM : Hid (l.length = m) := hm
  have HG : Hid (Glob w) := hG
  clear hm hG
  by_cases h1 : 2147483647 < m
  · go_enter Tryd.func12, Tryd.ntmps12
    go_wp2_with fail
    go_ret
    exact ⟨rfl, Below.refl _ _⟩
  by_cases h2 : 131072 < m
  · go_enter Tryd.func12, Tryd.ntmps12
    go_wp2_with fail
    go_ret
    exact ⟨rfl, Below.refl _ _⟩
  have h3 : m ≤ 131072 := by omega
  clear h1 h2
  have la := len_arrayHead n
  have lm := len_mapHead n
  have hlenA : (arrayHead n).length + l.length ≤ 1000000000000 := by rw [HM.out]; omega
  have hlenM : (mapHead n).length + l.length ≤ 1000000000000 := by rw [HM.out]; omega
  have ya : Byts (arrayHead n ++ l) := (byts_arrayHead n n0).append hr.1
  have ym : Byts (mapHead n ++ l) := (byts_mapHead n n0).append hr.1
  have ka : ∀ (A : Option Addr) (k c : Nat) (W : World), Rd W A (arrayHead n ++ l) → (arrayHead n ++ l).length = k → Glob W → Calls Tryd.prog 44 #[.slice A k c] W fun e w' => e = .returned (.tuple #[.int .u32 n, .int .i64 m, .int .i64 0]) ∧ Below W.heap.size W w' := fun A k c W hr' hk hG' => by
    have h := implArr_c A k c _ W hr' hk (by rw [← hk, List.length_append]; exact hlenA) hG'
    rw [rdArr_wr n l n0 n1, HM.out] at h
    exact h
  have km : ∀ (A : Option Addr) (k c : Nat) (W : World), Rd W A (mapHead n ++ l) → (mapHead n ++ l).length = k → Glob W → Calls Tryd.prog 46 #[.slice A k c] W fun e w' => e = .returned (.tuple #[.int .u32 n, .int .i64 m, .int .i64 0]) ∧ Below W.heap.size W w' := fun A k c W hr' hk hG' => by
    have h := implMap_c A k c _ W hr' hk (by rw [← hk, List.length_append]; exact hlenM) hG'
    rw [rdMap_wr n l n0 n1, HM.out] at h
    exact h
  go_enter Tryd.func12, Tryd.ntmps12
  go_wp2_with fail
  ((with_reducible refine (arrayHead_c _ _ n0 n1).mono ?_); rintro e w1 ⟨v1, rfl, hown1, hb1⟩)
  go_wp2_with (at_builtin; refine app_own rfl _ _ rfl w.heap.size _ (arrayHead n) rfl hown1 A m c l rfl (hr.mono hb1) HM.out hlenA hb1.size ?_; intro v2 w2 hown2 hb2)
  have b2 : Below w.heap.size w w2 := hb1.trans hb2
  obtain ⟨A2, c2, rfl, -, -, hr2⟩ := hown2.open_ ya
  ((with_reducible refine (ka _ _ _ _ hr2 rfl (HG.out.mono b2)).mono ?_); rintro e w3 ⟨rfl, hb3⟩)
  have b3 := below_step b2 hb3
  go_wp2_with fail
  ((with_reducible refine (mapHead_c _ _ n0 n1).mono ?_); rintro e w4 ⟨v4, rfl, hown4, hb4⟩)
  have b4 := below_step b3 hb4
  go_wp2_with (at_builtin; refine app_own rfl _ _ rfl w3.heap.size _ (mapHead n) rfl hown4 A m c l rfl (hr.mono b4) HM.out hlenM hb4.size ?_; intro v5 w5 hown5 hb5)
  have b5 : Below w.heap.size w w5 := below_step b3 (hb4.trans hb5)
  obtain ⟨A5, c5, rfl, -, -, hr5⟩ := hown5.open_ ym
  ((with_reducible refine (km _ _ _ _ hr5 rfl (HG.out.mono b5)).mono ?_); rintro e w6 ⟨rfl, hb6⟩)
  have b6 := below_step b5 hb6
  clear ka km hown1 hown2 hown4 hown5 hr2 hr5
  go_wp2_with fail
  ((with_reducible refine (implBinHW_c _ _ n0 n1).mono ?_); rintro e w7 ⟨v7, rfl, hown7, hb7⟩)
  have b7 := below_step b6 hb7
  go_wp2_with fail
  ((with_reducible refine (binHead_c _ _ n0 n1).mono ?_); rintro e w8 ⟨v8, rfl, hown8, hb8⟩)
  have b8 := below_step b7 hb8
  obtain ⟨A7, c7, rfl, -, -, hr7⟩ := (hown7.mono hb8).open_ (byts_binHead n n0)
  obtain ⟨A8, c8, rfl, -, -, hr8⟩ := hown8.open_ (byts_binHead n n0)
  go_wp2_with fail
  ((with_reducible refine (same_c _ _ _ _ _ _ _ hr7 hr8 rfl).mono ?_); rintro e w9 ⟨rfl, rfl⟩)
  clear hown7 hown8 hr7 hr8
  go_wp2_with fail
  ((with_reducible refine (implArrHW_c _ _ n0 n1).mono ?_); rintro e w10 ⟨v10, rfl, hown10, hb10⟩)
  have b10 := below_step b8 hb10
  go_wp2_with fail
  ((with_reducible refine (arrayHead_c _ _ n0 n1).mono ?_); rintro e w11 ⟨v11, rfl, hown11, hb11⟩)
  have b11 := below_step b10 hb11
  obtain ⟨A10, c10, rfl, -, -, hr10⟩ := (hown10.mono hb11).open_ (byts_arrayHead n n0)
  obtain ⟨A11, c11, rfl, -, -, hr11⟩ := hown11.open_ (byts_arrayHead n n0)
  go_wp2_with fail
  ((with_reducible refine (same_c _ _ _ _ _ _ _ hr10 hr11 rfl).mono ?_); rintro e w12 ⟨rfl, rfl⟩)
  clear hown10 hown11 hr10 hr11
  go_wp2_with fail
  ((with_reducible refine (implMapHW_c _ _ n0 n1).mono ?_); rintro e w13 ⟨v13, rfl, hown13, hb13⟩)
  have b13 := below_step b11 hb13
  go_wp2_with fail
  ((with_reducible refine (mapHead_c _ _ n0 n1).mono ?_); rintro e w14 ⟨v14, rfl, hown14, hb14⟩)
  have b14 := below_step b13 hb14
  obtain ⟨A13, c13, rfl, -, -, hr13⟩ := (hown13.mono hb14).open_ (byts_mapHead n n0)
  obtain ⟨A14, c14, rfl, -, -, hr14⟩ := hown14.open_ (byts_mapHead n n0)
  go_wp2_with fail
  ((with_reducible refine (same_c _ _ _ _ _ _ _ hr13 hr14 rfl).mono ?_); rintro e w15 ⟨rfl, rfl⟩)
  clear hown13 hown14 hr13 hr14
  go_wp2_with fail
  go_ret
  exact ⟨rfl, b14⟩
end Go.Proofs.YtpmdlbbgljcloaaDoor
