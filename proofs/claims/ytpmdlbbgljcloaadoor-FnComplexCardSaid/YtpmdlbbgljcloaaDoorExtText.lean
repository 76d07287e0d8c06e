/- What the reference writes for an extension (spec.ExtText), walked: the head, the type, the bytes. Conditions: at least one byte, at most 131072; the type is an int8. -/
import Derived.Test.YtpmdlbbgljcloaaDoorSpecInt
namespace Go.Proofs.YtpmdlbbgljcloaaDoor
open Go Go.RowKit
set_option linter.unusedVariables false

/-- What stands ahead of an extension's type. -/
def extHead (n : Int) : List Int :=
  if n = 1 then [212] else if n = 2 then [213] else if n = 4 then [214] else if n = 8 then [215] else if n = 16 then [216]
  else if n ≤ 255 then 199 :: by1 n else if n ≤ 65535 then 200 :: by2 n else 201 :: by4 n
theorem byts_extHead (n : Int) : Byts (extHead n) := by
  unfold extHead
  repeat' split
  all_goals first | exact Byts.nil.cons (by omega) | exact (byts1 n).cons (by omega) | exact (byts2 n).cons (by omega) | exact (byts4 n).cons (by omega)
theorem len_extHead (n : Int) : (extHead n).length ≤ 5 := by
  unfold extHead
  (repeat' split) <;> simp [by1, by2, by4]

set_option maxHeartbeats 2000000 in
set_option maxRecDepth 100000 in
theorem extText_1 (typ : Int) (A : Option Addr) (m c : Nat) (x : List Int) (w : World) (ht : -128 ≤ typ ∧ typ ≤ 127) (hr : Rd w A x) (hm : x.length = m) (hv : m = 1) :
    Calls Tryd.prog 42 #[.int .i8 typ, .slice A m c] w (Made w ([212] ++ [typ % 256] ++ x)) := by
  obtain ⟨t0, t1⟩ := ht
  have HM : Hid (x.length = m) := hm
  have hl1 : ([212] : List Int).length + [typ % 256].length ≤ 1000000000000 := by simp
  have hl2 : (([212] : List Int) ++ [typ % 256]).length + x.length ≤ 1000000000000 := by rw [hm, hv]; simp
  have e1 : (w.alloc (.cells #[] 5)).heap.size = w.heap.size + 1 := by simp
  have e2 : ((w.alloc (.cells #[] 5)).alloc (.cells #[.int .u8 212] 5)).heap.size = w.heap.size + 1 + 1 := by simp
  have ho : Own (((w.alloc (.cells #[] 5)).alloc (.cells #[.int .u8 212] 5)).alloc (.cells #[.int .u8 (typ % 256)] 5)) w.heap.size (.slice (some ⟨w.heap.size + 1, 0, none⟩) 1 1) [212] := by
    have h := own_lit (w.alloc (.cells #[] 5)) [212] #[.int .u8 212] 1 rfl rfl (by omega)
    rw [e1] at h
    exact World.ownsRow.alloc (h.less (by omega)) _
  have hrd1 : Rd (((w.alloc (.cells #[] 5)).alloc (.cells #[.int .u8 212] 5)).alloc (.cells #[.int .u8 (typ % 256)] 5)) (some ⟨w.heap.size + 1 + 1, 0, none⟩) [typ % 256] := by
    have h := rd_one ((w.alloc (.cells #[] 5)).alloc (.cells #[.int .u8 212] 5)) (typ % 256) (byte_mod _) 5
    rw [e2] at h
    exact h
  have hk : Below w.heap.size w (((w.alloc (.cells #[] 5)).alloc (.cells #[.int .u8 212] 5)).alloc (.cells #[.int .u8 (typ % 256)] 5)) := (((Below.refl _ _).alloc (Nat.le_refl _) _).alloc (by simp) _).alloc (by simp; omega) _
  have hsz := hk.size
  clear hm e1 e2
  subst hv
  go_enter Tryd.func42, Tryd.ntmps42
  go_wp2_with (first | (at_builtin; refine app_own rfl _ _ rfl w.heap.size _ ([212]) rfl ho (some ⟨w.heap.size + 1 + 1, 0, none⟩) 1 1 [typ % 256] rfl hrd1 rfl hl1 hsz ?_; intro v4 w4 hown4 hb4; have k4 : Below w.heap.size w w4 := hk.trans hb4) | (at_builtin; refine app_own rfl _ _ rfl w.heap.size _ (([212]) ++ [typ % 256]) rfl hown4 A 1 c x rfl (hr.mono k4) HM.out hl2 k4.size ?_; intro v5 w5 hown5 hb5))
  go_ret
  exact ⟨_, rfl, hown5, k4.trans hb5⟩

set_option maxHeartbeats 2000000 in
set_option maxRecDepth 100000 in
theorem extText_2 (typ : Int) (A : Option Addr) (m c : Nat) (x : List Int) (w : World) (ht : -128 ≤ typ ∧ typ ≤ 127) (hr : Rd w A x) (hm : x.length = m) (hv : m = 2) :
    Calls Tryd.prog 42 #[.int .i8 typ, .slice A m c] w (Made w ([213] ++ [typ % 256] ++ x)) := by
  obtain ⟨t0, t1⟩ := ht
  have HM : Hid (x.length = m) := hm
  have hl1 : ([213] : List Int).length + [typ % 256].length ≤ 1000000000000 := by simp
  have hl2 : (([213] : List Int) ++ [typ % 256]).length + x.length ≤ 1000000000000 := by rw [hm, hv]; simp
  have e1 : (w.alloc (.cells #[] 5)).heap.size = w.heap.size + 1 := by simp
  have e2 : ((w.alloc (.cells #[] 5)).alloc (.cells #[.int .u8 213] 5)).heap.size = w.heap.size + 1 + 1 := by simp
  have ho : Own (((w.alloc (.cells #[] 5)).alloc (.cells #[.int .u8 213] 5)).alloc (.cells #[.int .u8 (typ % 256)] 5)) w.heap.size (.slice (some ⟨w.heap.size + 1, 0, none⟩) 1 1) [213] := by
    have h := own_lit (w.alloc (.cells #[] 5)) [213] #[.int .u8 213] 1 rfl rfl (by omega)
    rw [e1] at h
    exact World.ownsRow.alloc (h.less (by omega)) _
  have hrd1 : Rd (((w.alloc (.cells #[] 5)).alloc (.cells #[.int .u8 213] 5)).alloc (.cells #[.int .u8 (typ % 256)] 5)) (some ⟨w.heap.size + 1 + 1, 0, none⟩) [typ % 256] := by
    have h := rd_one ((w.alloc (.cells #[] 5)).alloc (.cells #[.int .u8 213] 5)) (typ % 256) (byte_mod _) 5
    rw [e2] at h
    exact h
  have hk : Below w.heap.size w (((w.alloc (.cells #[] 5)).alloc (.cells #[.int .u8 213] 5)).alloc (.cells #[.int .u8 (typ % 256)] 5)) := (((Below.refl _ _).alloc (Nat.le_refl _) _).alloc (by simp) _).alloc (by simp; omega) _
  have hsz := hk.size
  clear hm e1 e2
  subst hv
  go_enter Tryd.func42, Tryd.ntmps42
  go_wp2_with (first | (at_builtin; refine app_own rfl _ _ rfl w.heap.size _ ([213]) rfl ho (some ⟨w.heap.size + 1 + 1, 0, none⟩) 1 1 [typ % 256] rfl hrd1 rfl hl1 hsz ?_; intro v4 w4 hown4 hb4; have k4 : Below w.heap.size w w4 := hk.trans hb4) | (at_builtin; refine app_own rfl _ _ rfl w.heap.size _ (([213]) ++ [typ % 256]) rfl hown4 A 2 c x rfl (hr.mono k4) HM.out hl2 k4.size ?_; intro v5 w5 hown5 hb5))
  go_ret
  exact ⟨_, rfl, hown5, k4.trans hb5⟩

set_option maxHeartbeats 2000000 in
set_option maxRecDepth 100000 in
theorem extText_4 (typ : Int) (A : Option Addr) (m c : Nat) (x : List Int) (w : World) (ht : -128 ≤ typ ∧ typ ≤ 127) (hr : Rd w A x) (hm : x.length = m) (hv : m = 4) :
    Calls Tryd.prog 42 #[.int .i8 typ, .slice A m c] w (Made w ([214] ++ [typ % 256] ++ x)) := by
  obtain ⟨t0, t1⟩ := ht
  have HM : Hid (x.length = m) := hm
  have hl1 : ([214] : List Int).length + [typ % 256].length ≤ 1000000000000 := by simp
  have hl2 : (([214] : List Int) ++ [typ % 256]).length + x.length ≤ 1000000000000 := by rw [hm, hv]; simp
  have e1 : (w.alloc (.cells #[] 5)).heap.size = w.heap.size + 1 := by simp
  have e2 : ((w.alloc (.cells #[] 5)).alloc (.cells #[.int .u8 214] 5)).heap.size = w.heap.size + 1 + 1 := by simp
  have ho : Own (((w.alloc (.cells #[] 5)).alloc (.cells #[.int .u8 214] 5)).alloc (.cells #[.int .u8 (typ % 256)] 5)) w.heap.size (.slice (some ⟨w.heap.size + 1, 0, none⟩) 1 1) [214] := by
    have h := own_lit (w.alloc (.cells #[] 5)) [214] #[.int .u8 214] 1 rfl rfl (by omega)
    rw [e1] at h
    exact World.ownsRow.alloc (h.less (by omega)) _
  have hrd1 : Rd (((w.alloc (.cells #[] 5)).alloc (.cells #[.int .u8 214] 5)).alloc (.cells #[.int .u8 (typ % 256)] 5)) (some ⟨w.heap.size + 1 + 1, 0, none⟩) [typ % 256] := by
    have h := rd_one ((w.alloc (.cells #[] 5)).alloc (.cells #[.int .u8 214] 5)) (typ % 256) (byte_mod _) 5
    rw [e2] at h
    exact h
  have hk : Below w.heap.size w (((w.alloc (.cells #[] 5)).alloc (.cells #[.int .u8 214] 5)).alloc (.cells #[.int .u8 (typ % 256)] 5)) := (((Below.refl _ _).alloc (Nat.le_refl _) _).alloc (by simp) _).alloc (by simp; omega) _
  have hsz := hk.size
  clear hm e1 e2
  subst hv
  go_enter Tryd.func42, Tryd.ntmps42
  go_wp2_with (first | (at_builtin; refine app_own rfl _ _ rfl w.heap.size _ ([214]) rfl ho (some ⟨w.heap.size + 1 + 1, 0, none⟩) 1 1 [typ % 256] rfl hrd1 rfl hl1 hsz ?_; intro v4 w4 hown4 hb4; have k4 : Below w.heap.size w w4 := hk.trans hb4) | (at_builtin; refine app_own rfl _ _ rfl w.heap.size _ (([214]) ++ [typ % 256]) rfl hown4 A 4 c x rfl (hr.mono k4) HM.out hl2 k4.size ?_; intro v5 w5 hown5 hb5))
  go_ret
  exact ⟨_, rfl, hown5, k4.trans hb5⟩

set_option maxHeartbeats 2000000 in
set_option maxRecDepth 100000 in
theorem extText_8 (typ : Int) (A : Option Addr) (m c : Nat) (x : List Int) (w : World) (ht : -128 ≤ typ ∧ typ ≤ 127) (hr : Rd w A x) (hm : x.length = m) (hv : m = 8) :
    Calls Tryd.prog 42 #[.int .i8 typ, .slice A m c] w (Made w ([215] ++ [typ % 256] ++ x)) := by
  obtain ⟨t0, t1⟩ := ht
  have HM : Hid (x.length = m) := hm
  have hl1 : ([215] : List Int).length + [typ % 256].length ≤ 1000000000000 := by simp
  have hl2 : (([215] : List Int) ++ [typ % 256]).length + x.length ≤ 1000000000000 := by rw [hm, hv]; simp
  have e1 : (w.alloc (.cells #[] 5)).heap.size = w.heap.size + 1 := by simp
  have e2 : ((w.alloc (.cells #[] 5)).alloc (.cells #[.int .u8 215] 5)).heap.size = w.heap.size + 1 + 1 := by simp
  have ho : Own (((w.alloc (.cells #[] 5)).alloc (.cells #[.int .u8 215] 5)).alloc (.cells #[.int .u8 (typ % 256)] 5)) w.heap.size (.slice (some ⟨w.heap.size + 1, 0, none⟩) 1 1) [215] := by
    have h := own_lit (w.alloc (.cells #[] 5)) [215] #[.int .u8 215] 1 rfl rfl (by omega)
    rw [e1] at h
    exact World.ownsRow.alloc (h.less (by omega)) _
  have hrd1 : Rd (((w.alloc (.cells #[] 5)).alloc (.cells #[.int .u8 215] 5)).alloc (.cells #[.int .u8 (typ % 256)] 5)) (some ⟨w.heap.size + 1 + 1, 0, none⟩) [typ % 256] := by
    have h := rd_one ((w.alloc (.cells #[] 5)).alloc (.cells #[.int .u8 215] 5)) (typ % 256) (byte_mod _) 5
    rw [e2] at h
    exact h
  have hk : Below w.heap.size w (((w.alloc (.cells #[] 5)).alloc (.cells #[.int .u8 215] 5)).alloc (.cells #[.int .u8 (typ % 256)] 5)) := (((Below.refl _ _).alloc (Nat.le_refl _) _).alloc (by simp) _).alloc (by simp; omega) _
  have hsz := hk.size
  clear hm e1 e2
  subst hv
  go_enter Tryd.func42, Tryd.ntmps42
  go_wp2_with (first | (at_builtin; refine app_own rfl _ _ rfl w.heap.size _ ([215]) rfl ho (some ⟨w.heap.size + 1 + 1, 0, none⟩) 1 1 [typ % 256] rfl hrd1 rfl hl1 hsz ?_; intro v4 w4 hown4 hb4; have k4 : Below w.heap.size w w4 := hk.trans hb4) | (at_builtin; refine app_own rfl _ _ rfl w.heap.size _ (([215]) ++ [typ % 256]) rfl hown4 A 8 c x rfl (hr.mono k4) HM.out hl2 k4.size ?_; intro v5 w5 hown5 hb5))
  go_ret
  exact ⟨_, rfl, hown5, k4.trans hb5⟩

set_option maxHeartbeats 2000000 in
set_option maxRecDepth 100000 in
theorem extText_16 (typ : Int) (A : Option Addr) (m c : Nat) (x : List Int) (w : World) (ht : -128 ≤ typ ∧ typ ≤ 127) (hr : Rd w A x) (hm : x.length = m) (hv : m = 16) :
    Calls Tryd.prog 42 #[.int .i8 typ, .slice A m c] w (Made w ([216] ++ [typ % 256] ++ x)) := by
  obtain ⟨t0, t1⟩ := ht
  have HM : Hid (x.length = m) := hm
  have hl1 : ([216] : List Int).length + [typ % 256].length ≤ 1000000000000 := by simp
  have hl2 : (([216] : List Int) ++ [typ % 256]).length + x.length ≤ 1000000000000 := by rw [hm, hv]; simp
  have e1 : (w.alloc (.cells #[] 5)).heap.size = w.heap.size + 1 := by simp
  have e2 : ((w.alloc (.cells #[] 5)).alloc (.cells #[.int .u8 216] 5)).heap.size = w.heap.size + 1 + 1 := by simp
  have ho : Own (((w.alloc (.cells #[] 5)).alloc (.cells #[.int .u8 216] 5)).alloc (.cells #[.int .u8 (typ % 256)] 5)) w.heap.size (.slice (some ⟨w.heap.size + 1, 0, none⟩) 1 1) [216] := by
    have h := own_lit (w.alloc (.cells #[] 5)) [216] #[.int .u8 216] 1 rfl rfl (by omega)
    rw [e1] at h
    exact World.ownsRow.alloc (h.less (by omega)) _
  have hrd1 : Rd (((w.alloc (.cells #[] 5)).alloc (.cells #[.int .u8 216] 5)).alloc (.cells #[.int .u8 (typ % 256)] 5)) (some ⟨w.heap.size + 1 + 1, 0, none⟩) [typ % 256] := by
    have h := rd_one ((w.alloc (.cells #[] 5)).alloc (.cells #[.int .u8 216] 5)) (typ % 256) (byte_mod _) 5
    rw [e2] at h
    exact h
  have hk : Below w.heap.size w (((w.alloc (.cells #[] 5)).alloc (.cells #[.int .u8 216] 5)).alloc (.cells #[.int .u8 (typ % 256)] 5)) := (((Below.refl _ _).alloc (Nat.le_refl _) _).alloc (by simp) _).alloc (by simp; omega) _
  have hsz := hk.size
  clear hm e1 e2
  subst hv
  go_enter Tryd.func42, Tryd.ntmps42
  go_wp2_with (first | (at_builtin; refine app_own rfl _ _ rfl w.heap.size _ ([216]) rfl ho (some ⟨w.heap.size + 1 + 1, 0, none⟩) 1 1 [typ % 256] rfl hrd1 rfl hl1 hsz ?_; intro v4 w4 hown4 hb4; have k4 : Below w.heap.size w w4 := hk.trans hb4) | (at_builtin; refine app_own rfl _ _ rfl w.heap.size _ (([216]) ++ [typ % 256]) rfl hown4 A 16 c x rfl (hr.mono k4) HM.out hl2 k4.size ?_; intro v5 w5 hown5 hb5))
  go_ret
  exact ⟨_, rfl, hown5, k4.trans hb5⟩

set_option maxHeartbeats 2000000 in
set_option maxRecDepth 100000 in
theorem extText_b1 (typ : Int) (A : Option Addr) (m c : Nat) (x : List Int) (w : World) (ht : -128 ≤ typ ∧ typ ≤ 127) (hr : Rd w A x) (hm : x.length = m) (h0 : 1 ≤ m) (h1 : m ≤ 255) (hn1 : m ≠ 1) (hn2 : m ≠ 2) (hn4 : m ≠ 4) (hn8 : m ≠ 8) (hn16 : m ≠ 16) :
    Calls Tryd.prog 42 #[.int .i8 typ, .slice A m c] w (Made w ((199 :: by1 (m : Int)) ++ [typ % 256] ++ x)) := by
  obtain ⟨t0, t1⟩ := ht
  have HM : Hid (x.length = m) := hm
  have f1 : ((m : Int) == 1) = false := by simp; omega
  have f2 : ((m : Int) == 2) = false := by simp; omega
  have f4 : ((m : Int) == 4) = false := by simp; omega
  have f8 : ((m : Int) == 8) = false := by simp; omega
  have f16 : ((m : Int) == 16) = false := by simp; omega
  have m0 : (0 : Int) ≤ m := by omega
  have m1 : (m : Int) ≤ 255 := by omega
  have hw := fun W : World => with1_c 199 (m : Int) W (by omega) m0 (by omega)
  obtain ⟨H, hH⟩ : ∃ H, H = (199 : Int) :: by1 (m : Int) := ⟨_, rfl⟩
  have hlen : H.length = 2 := by rw [hH]; simp [by1]
  have hl1 : H.length + [typ % 256].length ≤ 1000000000000 := by rw [hlen]; simp
  have hl2 : (H ++ [typ % 256]).length + x.length ≤ 1000000000000 := by rw [List.length_append, hlen, hm]; simp; omega
  rw [← hH] at hw ⊢
  clear hm hH hlen
  go_enter Tryd.func42, Tryd.ntmps42
  go_wp2_with fail
  ((with_reducible refine (hw _).mono ?_); rintro e w1 ⟨v1, rfl, hown1, hb1⟩)
  have k1 : Below w.heap.size w w1 := ((Below.refl _ _).alloc (Nat.le_refl _) _).trans (hb1.mono (by simp))
  have hown1' : Own (w1.alloc (.cells #[.int .u8 (typ % 256)] 5)) w.heap.size v1 H := World.ownsRow.alloc (hown1.less (by simp)) _
  have hrd1 := rd_one w1 (typ % 256) (byte_mod _) 5
  have hk : Below w.heap.size w (w1.alloc (.cells #[.int .u8 (typ % 256)] 5)) := k1.alloc k1.size _
  have hsz := hk.size
  clear hw hown1
  go_wp2_with (first | (at_builtin; refine app_own rfl _ _ rfl w.heap.size _ (H) rfl hown1' (some ⟨w1.heap.size, 0, none⟩) 1 1 [typ % 256] rfl hrd1 rfl hl1 hsz ?_; intro v4 w4 hown4 hb4; have k4 : Below w.heap.size w w4 := hk.trans hb4) | (at_builtin; refine app_own rfl _ _ rfl w.heap.size _ ((H) ++ [typ % 256]) rfl hown4 A m c x rfl (hr.mono k4) HM.out hl2 k4.size ?_; intro v5 w5 hown5 hb5))
  go_ret
  exact ⟨_, rfl, hown5, k4.trans hb5⟩

set_option maxHeartbeats 2000000 in
set_option maxRecDepth 100000 in
theorem extText_b2 (typ : Int) (A : Option Addr) (m c : Nat) (x : List Int) (w : World) (ht : -128 ≤ typ ∧ typ ≤ 127) (hr : Rd w A x) (hm : x.length = m) (h0 : 256 ≤ m) (h1 : m ≤ 65535) :
    Calls Tryd.prog 42 #[.int .i8 typ, .slice A m c] w (Made w ((200 :: by2 (m : Int)) ++ [typ % 256] ++ x)) := by
  obtain ⟨t0, t1⟩ := ht
  have HM : Hid (x.length = m) := hm
  have f1 : ((m : Int) == 1) = false := by simp; omega
  have f2 : ((m : Int) == 2) = false := by simp; omega
  have f4 : ((m : Int) == 4) = false := by simp; omega
  have f8 : ((m : Int) == 8) = false := by simp; omega
  have f16 : ((m : Int) == 16) = false := by simp; omega
  have m0 : (0 : Int) ≤ m := by omega
  have m1 : (m : Int) ≤ 65535 := by omega
  have hw := fun W : World => with2_c 200 (m : Int) W (by omega) m0 (by omega)
  obtain ⟨H, hH⟩ : ∃ H, H = (200 : Int) :: by2 (m : Int) := ⟨_, rfl⟩
  have hlen : H.length = 3 := by rw [hH]; simp [by2]
  have hl1 : H.length + [typ % 256].length ≤ 1000000000000 := by rw [hlen]; simp
  have hl2 : (H ++ [typ % 256]).length + x.length ≤ 1000000000000 := by rw [List.length_append, hlen, hm]; simp; omega
  rw [← hH] at hw ⊢
  clear hm hH hlen
  go_enter Tryd.func42, Tryd.ntmps42
  go_wp2_with fail
  ((with_reducible refine (hw _).mono ?_); rintro e w1 ⟨v1, rfl, hown1, hb1⟩)
  have k1 : Below w.heap.size w w1 := ((Below.refl _ _).alloc (Nat.le_refl _) _).trans (hb1.mono (by simp))
  have hown1' : Own (w1.alloc (.cells #[.int .u8 (typ % 256)] 5)) w.heap.size v1 H := World.ownsRow.alloc (hown1.less (by simp)) _
  have hrd1 := rd_one w1 (typ % 256) (byte_mod _) 5
  have hk : Below w.heap.size w (w1.alloc (.cells #[.int .u8 (typ % 256)] 5)) := k1.alloc k1.size _
  have hsz := hk.size
  clear hw hown1
  go_wp2_with (first | (at_builtin; refine app_own rfl _ _ rfl w.heap.size _ (H) rfl hown1' (some ⟨w1.heap.size, 0, none⟩) 1 1 [typ % 256] rfl hrd1 rfl hl1 hsz ?_; intro v4 w4 hown4 hb4; have k4 : Below w.heap.size w w4 := hk.trans hb4) | (at_builtin; refine app_own rfl _ _ rfl w.heap.size _ ((H) ++ [typ % 256]) rfl hown4 A m c x rfl (hr.mono k4) HM.out hl2 k4.size ?_; intro v5 w5 hown5 hb5))
  go_ret
  exact ⟨_, rfl, hown5, k4.trans hb5⟩

set_option maxHeartbeats 2000000 in
set_option maxRecDepth 100000 in
theorem extText_b4 (typ : Int) (A : Option Addr) (m c : Nat) (x : List Int) (w : World) (ht : -128 ≤ typ ∧ typ ≤ 127) (hr : Rd w A x) (hm : x.length = m) (h0 : 65536 ≤ m) (h1 : m ≤ 4294967295) :
    Calls Tryd.prog 42 #[.int .i8 typ, .slice A m c] w (Made w ((201 :: by4 (m : Int)) ++ [typ % 256] ++ x)) := by
  obtain ⟨t0, t1⟩ := ht
  have HM : Hid (x.length = m) := hm
  have f1 : ((m : Int) == 1) = false := by simp; omega
  have f2 : ((m : Int) == 2) = false := by simp; omega
  have f4 : ((m : Int) == 4) = false := by simp; omega
  have f8 : ((m : Int) == 8) = false := by simp; omega
  have f16 : ((m : Int) == 16) = false := by simp; omega
  have m0 : (0 : Int) ≤ m := by omega
  have m1 : (m : Int) ≤ 4294967295 := by omega
  have hw := fun W : World => with4_c 201 (m : Int) W (by omega) m0 (by omega)
  obtain ⟨H, hH⟩ : ∃ H, H = (201 : Int) :: by4 (m : Int) := ⟨_, rfl⟩
  have hlen : H.length = 5 := by rw [hH]; simp [by4]
  have hl1 : H.length + [typ % 256].length ≤ 1000000000000 := by rw [hlen]; simp
  have hl2 : (H ++ [typ % 256]).length + x.length ≤ 1000000000000 := by rw [List.length_append, hlen, hm]; simp; omega
  rw [← hH] at hw ⊢
  clear hm hH hlen
  go_enter Tryd.func42, Tryd.ntmps42
  go_wp2_with fail
  ((with_reducible refine (hw _).mono ?_); rintro e w1 ⟨v1, rfl, hown1, hb1⟩)
  have k1 : Below w.heap.size w w1 := ((Below.refl _ _).alloc (Nat.le_refl _) _).trans (hb1.mono (by simp))
  have hown1' : Own (w1.alloc (.cells #[.int .u8 (typ % 256)] 5)) w.heap.size v1 H := World.ownsRow.alloc (hown1.less (by simp)) _
  have hrd1 := rd_one w1 (typ % 256) (byte_mod _) 5
  have hk : Below w.heap.size w (w1.alloc (.cells #[.int .u8 (typ % 256)] 5)) := k1.alloc k1.size _
  have hsz := hk.size
  clear hw hown1
  go_wp2_with (first | (at_builtin; refine app_own rfl _ _ rfl w.heap.size _ (H) rfl hown1' (some ⟨w1.heap.size, 0, none⟩) 1 1 [typ % 256] rfl hrd1 rfl hl1 hsz ?_; intro v4 w4 hown4 hb4; have k4 : Below w.heap.size w w4 := hk.trans hb4) | (at_builtin; refine app_own rfl _ _ rfl w.heap.size _ ((H) ++ [typ % 256]) rfl hown4 A m c x rfl (hr.mono k4) HM.out hl2 k4.size ?_; intro v5 w5 hown5 hb5))
  go_ret
  exact ⟨_, rfl, hown5, k4.trans hb5⟩

theorem extText_c (typ : Int) (A : Option Addr) (m c : Nat) (x : List Int) (w : World) (ht : -128 ≤ typ ∧ typ ≤ 127) (hr : Rd w A x) (hm : x.length = m) (h0 : 1 ≤ m) (h1 : m ≤ 4294967295) :
    Calls Tryd.prog 42 #[.int .i8 typ, .slice A m c] w (Made w (extHead m ++ [typ % 256] ++ x)) := by
  unfold extHead
  by_cases e1 : (m : Int) = 1
  · rw [if_pos e1]; exact extText_1 typ A m c x w ht hr hm (by omega)
  rw [if_neg e1]
  by_cases e2 : (m : Int) = 2
  · rw [if_pos e2]; exact extText_2 typ A m c x w ht hr hm (by omega)
  rw [if_neg e2]
  by_cases e4 : (m : Int) = 4
  · rw [if_pos e4]; exact extText_4 typ A m c x w ht hr hm (by omega)
  rw [if_neg e4]
  by_cases e8 : (m : Int) = 8
  · rw [if_pos e8]; exact extText_8 typ A m c x w ht hr hm (by omega)
  rw [if_neg e8]
  by_cases e16 : (m : Int) = 16
  · rw [if_pos e16]; exact extText_16 typ A m c x w ht hr hm (by omega)
  rw [if_neg e16]
  by_cases e255 : (m : Int) ≤ 255
  · rw [if_pos e255]; exact extText_b1 typ A m c x w ht hr hm h0 (by omega) (by omega) (by omega) (by omega) (by omega) (by omega)
  rw [if_neg e255]
  by_cases e65 : (m : Int) ≤ 65535
  · rw [if_pos e65]; exact extText_b2 typ A m c x w ht hr hm (by omega) (by omega)
  · rw [if_neg e65]; exact extText_b4 typ A m c x w ht hr hm (by omega) h1

end Go.Proofs.YtpmdlbbgljcloaaDoor
