/- The law FnExt, walked: how an extension is written, that it is read as one of its type, and not of another one. Conditions: the slices read as bytes; the two sentinels' variables hold what the program lays in them. -/
import Derived.Test.YtpmdlbbgljcloaaDoorExtC
import Derived.Test.YtpmdlbbgljcloaaDoorExtI
import Derived.Test.YtpmdlbbgljcloaaDoorExtPl
namespace Go.Proofs.YtpmdlbbgljcloaaDoor
open Go Go.RowKit Go.Lib
set_option linter.unusedVariables false

/-- 'The call reads x, k bytes are left, code 0.' -/
def ReadX (w : World) (x : List Int) (k : Nat) (e : Ending) (w' : World) : Prop := ∃ v, e = .returned (.tuple #[v, .int .i64 k, .int .i64 0]) ∧ Own w' w.heap.size v x ∧ Below w.heap.size w w'
theorem readX_of {w w' : World} {typ : Int} {x : List Int} {k : Nat} {e : Ending} {y : Except Er (Int × List Int × Nat)} (hy : y = .ok (typ, x, k)) (h : ExtTold w typ y e w') : ReadX w x k e w' := by
  obtain ⟨hb, ⟨d, j, hx, v, rfl, hown⟩ | ⟨code, M, A, q, c, hc, ⟨hx, -⟩, rfl⟩⟩ := h
  · rw [hy] at hx
    cases hx
    exact ⟨v, rfl, hown, hb⟩
  · exact absurd hy (hx _ _)
/-- 'The call tells code 6.' -/
def Told6 (w : World) (e : Ending) (w' : World) : Prop := ∃ (M : Int) (A : Option Addr) (q c : Nat), e = .returned (.tuple #[.slice A q c, .int .i64 M, .int .i64 6]) ∧ Below w.heap.size w w'
theorem told6_of {w w' : World} {typ other : Int} {x : List Int} {k : Nat} {e : Ending} {y : Except Er (Int × List Int × Nat)} (hy : y = .ok (typ, x, k)) (hne : other ≠ typ) (h : ExtTold w other y e w') : Told6 w e w' := by
  obtain ⟨hb, ⟨d, j, hx, v, rfl, hown⟩ | ⟨code, M, A, q, c, hc, ⟨-, hx⟩, rfl⟩⟩ := h
  · rw [hy] at hx
    cases hx
    exact absurd rfl hne
  · obtain rfl := hx _ _ _ hy
    exact ⟨M, A, q, c, rfl, hb⟩

set_option maxHeartbeats 4000000 in
set_option maxRecDepth 100000 in
theorem fnExt_any (typ other : Int) (A : Option Addr) (m c : Nat) (x : List Int) (B : Option Addr) (k d : Nat) (r : List Int) (w : World) (ht : 6 ≤ typ ∧ typ ≤ 127) (ho : 6 ≤ other ∧ other ≤ 127) (hne : other ≠ typ)
    (hrx : Rd w A x) (hx : x.length = m) (hrr : Rd w B r) (hrl : r.length = k) (h0 : 1 ≤ m) (h1 : m ≤ 131072) (n1 : m ≠ 255) (n2 : m ≠ 65535) (h4 : k ≤ 131072) (hG : Glob w) :
    Calls Tryd.prog 11 #[.int .i8 typ, .int .i8 other, .slice A m c, .slice B k d] w fun e w' => e = .returned (.bool true) ∧ Below w.heap.size w w' := by
  have HX : Hid (x.length = m) := hx
  have HR : Hid (r.length = k) := hrl
  have HG : Hid (Glob w) := hG
  obtain ⟨L, hL⟩ : ∃ L, L = extHead (m : Int) ++ [typ % 256] ++ x := ⟨_, rfl⟩
  have hbL : Byts L := by rw [hL]; exact ((byts_extHead _).append (Byts.nil.cons (byte_mod _))).append hrx.1
  have hlL : L.length ≤ m + 6 := by have := len_extHead (m : Int); rw [hL, List.length_append, List.length_append, hx]; simp; omega
  have hbLr : Byts (L ++ r) := hbL.append hrr.1
  have hlen : L.length + r.length ≤ 1000000000000 := by rw [hrl]; omega
  have hex : extR (L ++ r) = .ok (typ, x, k) := by rw [hL, ← hrl]; exact extR_wr typ x r m (by omega) hx h0 (by omega)
  have hw : ∀ W : World, Rd W A x → Calls Tryd.prog 41 #[.int .i8 typ, .slice A m c] W (MadeOk W L) := fun W h => by rw [hL]; exact implExtW_c typ A m c x W (by omega) h hx h0 h1 n1 n2
  have htx : ∀ W : World, Rd W A x → Calls Tryd.prog 42 #[.int .i8 typ, .slice A m c] W (Made W L) := fun W h => by rw [hL]; exact extText_c typ A m c x W (by omega) h hx h0 (by omega)
  have hrd1 : ∀ (A' : Option Addr) (n' c' : Nat) (W : World), Rd W A' (L ++ r) → (L ++ r).length = n' → Glob W → Calls Tryd.prog 43 #[.int .i8 typ, .slice A' n' c'] W (ReadX W x k) := fun A' n' c' W h hn' hg =>
    (implExt_c typ A' n' c' _ W (by omega) h hn' (by rw [← hn', List.length_append]; exact hlen) hg).mono fun e w' he => readX_of hex he
  have hrd2 : ∀ (A' : Option Addr) (n' c' : Nat) (W : World), Rd W A' (L ++ r) → (L ++ r).length = n' → Glob W → Calls Tryd.prog 43 #[.int .i8 other, .slice A' n' c'] W (Told6 W) := fun A' n' c' W h hn' hg =>
    (implExt_c other A' n' c' _ W (by omega) h hn' (by rw [← hn', List.length_append]; exact hlen) hg).mono fun e w' he => told6_of hex hne he
  obtain ⟨t0, t1⟩ := ht
  obtain ⟨o0, o1⟩ := ho
  have eo : (other == typ) = false := by simpa using hne
  have em1 : ((m : Int) == 255) = false := by simp; omega
  have em2 : ((m : Int) == 65535) = false := by simp; omega
  have m0 : (1 : Int) ≤ m := by omega
  clear hx hrl hG hL hlL hex hne n1 n2
  go_enter Tryd.func11, Tryd.ntmps11
  go_wp2_with fail
  ((with_reducible refine (hw _ hrx).mono ?_); rintro e w1 ⟨v1, rfl, hown1, hb1⟩)
  obtain ⟨A1, c1, rfl, -, -, hr1⟩ := hown1.open_ hbL
  go_wp2_with fail
  ((with_reducible refine (htx _ (hrx.mono hb1)).mono ?_); rintro e w2 ⟨v2, rfl, hown2, hb2⟩)
  have b2 := below_step hb1 hb2
  clear hw hown1
  go_wp2_with (at_builtin; refine app_own rfl _ _ rfl w1.heap.size _ L rfl hown2 B k d r rfl (hrr.mono b2) HR.out hlen hb2.size ?_; intro v3 w3 hown3 hb3)
  have b3 : Below w.heap.size w w3 := b2.trans (hb3.mono hb1.size)
  have r3 := hr1.mono (hb2.trans hb3)
  obtain ⟨A3, c3, rfl, -, -, hr3⟩ := hown3.open_ hbLr
  ((with_reducible refine (hrd1 _ _ _ _ hr3 rfl (HG.out.mono b3)).mono ?_); rintro e w4 ⟨v4, rfl, hown4, hb4⟩)
  obtain ⟨A4, c4, rfl, -, -, hr4⟩ := hown4.open_ hrx.1
  have b4 := below_step b3 hb4
  clear hrd1 hown2 hown3 hown4 hr1
  go_wp2_with fail
  ((with_reducible refine (hrd2 _ _ _ _ (hr3.mono hb4) List.length_append (HG.out.mono b4)).mono ?_); rintro e w5 ⟨M, A5, q5, c5, rfl, hb5⟩)
  have b5 := below_step b4 hb5
  have r5 := (r3.mono hb4).mono hb5
  have x5 := hr4.mono hb5
  clear hrd2 hr3 hr4 r3
  go_wp2_with fail
  ((with_reducible refine (htx _ (hrx.mono b5)).mono ?_); rintro e w6 ⟨v6, rfl, hown6, hb6⟩)
  obtain ⟨A6, c6, rfl, -, -, hr6⟩ := hown6.open_ hbL
  have b6 := below_step b5 hb6
  go_wp2_with fail
  ((with_reducible refine (same_c _ _ _ _ _ L _ (r5.mono hb6) hr6 rfl).mono ?_); rintro e w7 ⟨rfl, rfl⟩)
  go_wp2_with fail
  rw [HX.out]
  ((with_reducible refine (same_c _ _ m _ _ x _ (x5.mono hb6) (hrx.mono b6) HX.out).mono ?_); rintro e w8 ⟨rfl, rfl⟩)
  go_wp2_with fail
  go_ret
  exact ⟨by first | rfl | (simp; done), b6⟩

set_option maxHeartbeats 2000000 in
set_option maxRecDepth 100000 in
theorem fnExt_c (typ other : Int) (A : Option Addr) (m c : Nat) (x : List Int) (B : Option Addr) (k d : Nat) (r : List Int) (w : World) (ht : -128 ≤ typ ∧ typ ≤ 127) (ho : -128 ≤ other ∧ other ≤ 127)
    (hrx : Rd w A x) (hx : x.length = m) (hmc : m ≤ c) (hcx : c ≤ maxLen) (hrr : Rd w B r) (hrl : r.length = k) (hkd : k ≤ d) (hdx : d ≤ maxLen) (hG : Glob w) :
    Calls Tryd.prog 11 #[.int .i8 typ, .int .i8 other, .slice A m c, .slice B k d] w fun e w' => e = .returned (.bool true) ∧ Below w.heap.size w w' := by
  by_cases good : 6 ≤ typ ∧ 6 ≤ other ∧ other ≠ typ ∧ 1 ≤ m ∧ m ≤ 131072 ∧ m ≠ 255 ∧ m ≠ 65535 ∧ k ≤ 131072
  · obtain ⟨a1, a2, a3, a4, a5, a6, a7, a8⟩ := good
    exact fnExt_any typ other A m c x B k d r w ⟨a1, ht.2⟩ ⟨a2, ho.2⟩ a3 hrx hx hrr hrl a4 a5 a6 a7 a8 hG
  clear hx hrl hcx hdx hrx hrr hG hmc hkd
  by_cases s1 : 2147483647 < m
  · clear good
    go_enter Tryd.func11, Tryd.ntmps11
    go_wp2_with fail
    go_ret
    exact ⟨rfl, Below.refl _ _⟩
  by_cases s2 : 2147483647 < k
  · clear good
    go_enter Tryd.func11, Tryd.ntmps11
    go_wp2_with fail
    go_ret
    exact ⟨rfl, Below.refl _ _⟩
  have s1' : m ≤ 2147483647 := by omega
  have s2' : k ≤ 2147483647 := by omega
  clear s1 s2
  by_cases c1 : typ < 6
  · clear good
    go_enter Tryd.func11, Tryd.ntmps11
    go_wp2_with fail
    go_ret
    exact ⟨rfl, Below.refl _ _⟩
  by_cases c2 : other < 6
  · clear good
    go_enter Tryd.func11, Tryd.ntmps11
    go_wp2_with fail
    go_ret
    exact ⟨rfl, Below.refl _ _⟩
  by_cases c3 : other = typ
  · subst c3
    clear good
    go_enter Tryd.func11, Tryd.ntmps11
    go_wp2_with fail
    go_ret
    exact ⟨rfl, Below.refl _ _⟩
  have e3 : (other == typ) = false := by simpa using c3
  by_cases c4 : (m : Int) < 1
  · clear good
    go_enter Tryd.func11, Tryd.ntmps11
    go_wp2_with fail
    go_ret
    exact ⟨rfl, Below.refl _ _⟩
  by_cases c5 : 131072 < m
  · clear good
    go_enter Tryd.func11, Tryd.ntmps11
    go_wp2_with fail
    go_ret
    exact ⟨rfl, Below.refl _ _⟩
  have c5' : m ≤ 131072 := by omega
  by_cases c6 : m = 255
  · subst c6
    clear good
    go_enter Tryd.func11, Tryd.ntmps11
    go_wp2_with fail
    go_ret
    exact ⟨rfl, Below.refl _ _⟩
  have e6 : ((m : Int) == 255) = false := by simp; omega
  by_cases c7 : m = 65535
  · subst c7
    clear good
    go_enter Tryd.func11, Tryd.ntmps11
    go_wp2_with fail
    go_ret
    exact ⟨rfl, Below.refl _ _⟩
  have e7 : ((m : Int) == 65535) = false := by simp; omega
  by_cases c8 : 131072 < k
  · clear good
    go_enter Tryd.func11, Tryd.ntmps11
    go_wp2_with fail
    go_ret
    exact ⟨rfl, Below.refl _ _⟩
  exact absurd ⟨by omega, by omega, c3, by omega, c5', c6, c7, by omega⟩ good
end Go.Proofs.YtpmdlbbgljcloaaDoor
