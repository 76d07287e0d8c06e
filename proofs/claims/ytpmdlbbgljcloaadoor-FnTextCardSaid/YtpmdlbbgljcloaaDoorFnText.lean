/- The law FnText, walked: how a text is written, and that it is read. Conditions: the slice reads as bytes; the two sentinels' variables hold what the program lays in them. -/
import Derived.Test.YtpmdlbbgljcloaaDoorAppText
import Derived.Test.YtpmdlbbgljcloaaDoorSpecH
import Derived.Test.YtpmdlbbgljcloaaDoorTextR
namespace Go.Proofs.YtpmdlbbgljcloaaDoor
open Go Go.RowKit Go.Lib
set_option linter.unusedVariables false

theorem body_wrT (h x r : List Int) (k : Nat) (m : Nat) (hk : h.length = k) (hm : x.length = m) : bodyOf (h ++ x ++ r) (k, (m : Int), .ok) = (x, r.length, .ok) := by
  subst hk; subst hm
  rw [bodyOf_ok _ _ _ (by simp; omega)]
  simp
theorem rdStr_wr (x r : List Int) (m : Nat) (hm : x.length = m) (hb : m ≤ 4294967295) : rdStr (textHead m ++ x ++ r) = (x, r.length, .ok) := by
  unfold rdStr textHead
  by_cases c0 : (m : Int) ≤ 31
  · rw [if_pos c0]
    have e : strH (([160 + (m : Int)]) ++ x ++ r) = (1, (m : Int), .ok) := by
      rw [List.append_assoc, strH, q_at0, q_len0, if_neg (by omega), if_pos (by omega)]
      congr 2; omega
    rw [e]
    exact body_wrT _ x r 1 m rfl hm
  rw [if_neg c0]
  by_cases c1 : (m : Int) ≤ 255
  · rw [if_pos c1]
    have e : strH ((217 :: by1 (m : Int)) ++ x ++ r) = (2, (m : Int), .ok) := by
      rw [List.append_assoc, strH, q_at0, q_len1, if_neg (by omega), if_neg (by omega), if_pos rfl, if_neg (by omega), q_at1]
      congr 2; omega
    rw [e]
    exact body_wrT _ x r 2 m (by simp [by1]) hm
  rw [if_neg c1]
  by_cases c2 : (m : Int) ≤ 65535
  · rw [if_pos c2]
    have e : strH ((218 :: by2 (m : Int)) ++ x ++ r) = (3, (m : Int), .ok) := by
      rw [List.append_assoc, strH, q_at0, q_len2, if_neg (by omega), if_neg (by omega), if_neg (by omega), if_pos rfl, if_neg (by omega), q_be2]
      congr 2; omega
    rw [e]
    exact body_wrT _ x r 3 m (by simp [by2]) hm
  · rw [if_neg c2]
    have e : strH ((219 :: by4 (m : Int)) ++ x ++ r) = (5, (m : Int), .ok) := by
      rw [List.append_assoc, strH, q_at0, q_len4, if_neg (by omega), if_neg (by omega), if_neg (by omega), if_neg (by omega), if_pos rfl, if_neg (by omega), q_be4]
      congr 2; omega
    rw [e]
    exact body_wrT _ x r 5 m (by simp [by4]) hm
theorem pos_textHead (n : Int) : 0 < (textHead n).length := by
  unfold textHead
  (repeat' split) <;> simp

set_option maxHeartbeats 1000000 in
theorem implTextW_c (s : ByteArray) (m : Nat) (w : World) (hm : s.size = m) (hb : m ≤ 4294967295) : Calls Tryd.prog 37 #[.string s] w (Made w (textHead m ++ strInts s)) := by
  have hc := appStr_c s m w hm hb
  clear hm hb
  go_enter Tryd.func37, Tryd.ntmps37
  go_wp2_with fail
  ((with_reducible refine hc.mono ?_); rintro e w2 ⟨v2, rfl, hown2, hb2⟩)
  go_wp2_with fail
  go_ret
  exact ⟨_, rfl, hown2, hb2⟩

set_option maxHeartbeats 4000000 in
set_option maxRecDepth 100000 in
theorem fnText_c (s : ByteArray) (B : Option Addr) (k d : Nat) (r : List Int) (w : World) (hs : s.size ≤ maxLen) (hrr : Rd w B r) (hrl : r.length = k) (hkd : k ≤ d) (hdx : d ≤ maxLen) (hG : Glob w) :
    Calls Tryd.prog 8 #[.string s, .slice B k d] w fun e w' => e = .returned (.bool true) ∧ Below w.heap.size w w' := by
  have HR : Hid (r.length = k) := hrl
  have HG : Hid (Glob w) := hG
  obtain ⟨m, hm⟩ : ∃ m, s.size = m := ⟨_, rfl⟩
  have HM := Lib.hid hm
  clear hrl hG hdx hs
  by_cases h1 : 2147483647 < m
  · go_enter Tryd.func8, Tryd.ntmps8
    go_wp2_with fail
    go_ret
    exact ⟨rfl, Below.refl _ _⟩
  have h1' : m ≤ 2147483647 := by omega
  by_cases h2 : 2147483647 < k
  · go_enter Tryd.func8, Tryd.ntmps8
    go_wp2_with fail
    go_ret
    exact ⟨rfl, Below.refl _ _⟩
  have h2' : k ≤ 2147483647 := by omega
  by_cases h3 : 131072 < m
  · go_enter Tryd.func8, Tryd.ntmps8
    go_wp2_with fail
    go_ret
    exact ⟨rfl, Below.refl _ _⟩
  have h3' : m ≤ 131072 := by omega
  by_cases h4 : 131072 < k
  · go_enter Tryd.func8, Tryd.ntmps8
    go_wp2_with fail
    go_ret
    exact ⟨rfl, Below.refl _ _⟩
  have h4' : k ≤ 131072 := by omega
  clear h1 h2 h3 h4
  have lh := len_textHead (m : Int)
  have ph := pos_textHead (m : Int)
  have hy := byts_textHead (m : Int) (by omega)
  have hsl : (strInts s).length = m := by rw [strInts_length, hm]
  have hsb := strInts_byts s
  have hso := strOf_strInts s
  obtain ⟨x, hx⟩ : ∃ x, x = strInts s := ⟨_, rfl⟩
  rw [← hx] at hsl hsb hso
  have HX := Lib.hid hsl
  obtain ⟨H, hH⟩ : ∃ H, H = textHead (m : Int) := ⟨_, rfl⟩
  have hcb := fun W : World => textHead_c (m : Int) W (by omega) (by omega)
  have hw : ∀ W : World, Calls Tryd.prog 37 #[.string s] W (Made W (H ++ x)) := fun W => by rw [hH, hx]; exact implTextW_c s m W hm (by omega)
  have hrd : ∀ (A' : Option Addr) (n' c' : Nat) (W : World), Rd W A' (H ++ x ++ r) → (H ++ x ++ r).length = n' → Glob W → Calls Tryd.prog 36 #[.slice A' n' c'] W fun e w' => e = .returned (.tuple #[.string s, .int .i64 k, .int .i64 0]) ∧ Below W.heap.size W w' := fun A' n' c' W h hn' hg => by
    have e := rdStr_wr x r m HX.out (by omega)
    rw [← hH] at e
    have hh := implText_c A' n' c' _ W h hn' (by rw [← hn', List.length_append, List.length_append, HX.out, HR.out, hH]; omega) hg
    rw [e, HR.out] at hh
    simp only [hso] at hh
    exact hh
  rw [← hH] at lh ph hy hcb
  have hlenA : H.length + s.size ≤ 1000000000000 := by rw [hm]; omega
  have hlenB : ([] : List Int).length + (H ++ x).length ≤ 1000000000000 := by rw [List.length_append, HX.out]; simp; omega
  have hlenC : (H ++ x).length + r.length ≤ 1000000000000 := by rw [List.length_append, HX.out, HR.out]; omega
  have hyx : Byts (H ++ x) := hy.append hsb
  have hyr : Byts (H ++ x ++ r) := hyx.append hrr.1
  have HL1 := Lib.hid lh
  have HP := Lib.hid ph
  have HXs := Lib.hid hx
  have HA := Lib.hid hlenA
  clear lh ph hH hx hsl hso hlenA
  obtain ⟨L, hL⟩ : ∃ L, L = H ++ x := ⟨_, rfl⟩
  rw [← hL] at hlenB hlenC hyx hyr
  simp only [← hL] at hw hrd
  have HLL := Lib.hid hL
  clear hL
  go_enter Tryd.func8, Tryd.ntmps8
  go_wp2_with fail
  ((with_reducible refine (hcb _).mono ?_); rintro e w1 ⟨v1, rfl, hown1, hb1⟩)
  go_wp2_with (first | (refine app_str rfl (.tmp 27) (.tmp 28) (by rfl) w.heap.size _ H rfl hown1 HP.out s rfl HA.out hb1.size ?_; intro v2 w2 hown2 hb2; have b2 : Below w.heap.size w w2 := hb1.trans hb2; rw [← HXs.out, ← HLL.out] at hown2; obtain ⟨A2, c2, rfl, -, -, hr2⟩ := hown2.open_ hyx) | (at_builtin; refine app_own rfl _ _ rfl w2.heap.size _ [] rfl (own_lit w2 [] #[] 0 rfl rfl (by omega)) A2 L.length c2 L rfl (hr2.alloc _) rfl hlenB (by simp) ?_; intro v4 w4 hown4 hb4; have k4 : Below w2.heap.size w2 w4 := ((Below.refl _ _).alloc (Nat.le_refl _) _).trans hb4) | (at_builtin; refine app_own rfl _ _ rfl w2.heap.size _ L rfl hown4 B k d r rfl ((hrr.mono b2).mono k4) HR.out hlenC k4.size ?_; intro v5 w5 hown5 hb5))
  have b5 := below_step b2 (k4.trans hb5)
  have k5 := k4.trans hb5
  obtain ⟨A5, c5, rfl, -, -, hr5⟩ := hown5.open_ hyr
  ((with_reducible refine (hrd _ _ _ _ hr5 rfl (HG.out.mono b5)).mono ?_); rintro e w6 ⟨rfl, hb6⟩)
  have b6 := below_step b5 hb6
  clear hrd hcb hown1 hown4 hown5 hr5
  go_wp2_with fail
  ((with_reducible refine (hw _).mono ?_); rintro e w7 ⟨v7, rfl, hown7, hb7⟩)
  have b7 := below_step b6 hb7
  obtain ⟨A7, c7, rfl, -, -, hr7⟩ := hown7.open_ hyx
  go_wp2_with fail
  ((with_reducible refine (same_c _ _ _ _ _ L _ hr7 (((hr2.mono k5).mono hb6).mono hb7) rfl).mono ?_); rintro e w8 ⟨rfl, rfl⟩)
  go_wp2_with fail
  go_ret
  exact ⟨by first | rfl | (simp; done), b7⟩
end Go.Proofs.YtpmdlbbgljcloaaDoor

