/- msgp's RawExtension, ReadExtensionBytes and the thin package's ReadExt, walked. Conditions: the slice reads as bytes; the two sentinels' variables hold what the program lays in them. -/
import Derived.Test.YtpmdlbbgljcloaaDoorExtR
import Derived.Test.YtpmdlbbgljcloaaDoorRow
import Derived.Test.YtpmdlbbgljcloaaDoorSame
namespace Go.Proofs.YtpmdlbbgljcloaaDoor
open Go Go.RowKit Go.Lib
set_option linter.unusedVariables false

theorem RowI.other {w : World} {g p i : Nat} {cur : List Int} (h : RowI w g cur) (hne : g ≠ p) (v : Value) : RowI (w.setCell ⟨p, i, none⟩ v) g cur := by
  unfold RowI at h ⊢
  rw [Below.heap_setCell _ _ _ _ hne]
  exact h
theorem Rd.other {w : World} {A : Option Addr} {l : List Int} {p i : Nat} (h : Rd w A l) (hne : ∀ g o, A = some ⟨g, o, none⟩ → g ≠ p) (v : Value) : Rd (w.setCell ⟨p, i, none⟩ v) A l :=
  ⟨h.1, fun hl => by
    obtain ⟨g, o, rfl, hg, hc⟩ := h.2 hl
    refine ⟨g, o, rfl, by simpa [World.setCell] using hg, fun j hj => ?_⟩
    exact (World.cell?_setCell_other _ _ _ _ (by intro e; injection e with e1; exact hne g o rfl e1.symm)).trans (hc j hj)⟩
theorem splice_all {L K : List Int} (h : K.length = L.length) : splice L 0 K = K := by
  simp [splice, h]

set_option maxHeartbeats 1000000 in
theorem unm_0 (p : Nat) (A : Option Addr) (c : Nat) (w : World) (hc0 : w.cell? ⟨p, 0, none⟩ = some (.slice none 0 0)) (hfz : w.frozen? ⟨p, 0, none⟩ = false) (hp : p < w.heap.size) :
    Calls Tryd.prog 159 #[.pointer (some ⟨p, 0, none⟩), .slice A 0 c] w fun e w' => e = .returned .nilIface ∧ (∃ v, w'.cell? ⟨p, 0, none⟩ = some v ∧ Own w' w.heap.size v []) ∧ Below p w w' := by
  have hcn := fun (d s : Option Addr) (n c k : Nat) (w : World) (ty : TypeId) => run_copy_none (P := Tryd.prog) w 22 22 ty 5 d s n c 0 k Tryd.underlying22 u8_size (by simp)
  go_enter Tryd.func159, Tryd.ntmps159
  go_wp2_with fail
  go_ret
  refine ⟨rfl, ⟨.slice none 0 0, ?_, World.ownsRow_nil _ _ _ _⟩, ?_⟩
  · exact World.cell?_setCell_same' _ _ _ (by rw [hc0]; rfl)
  · refine Below.setCell ?_ (by simp) _
    exact Below.refl _ _

set_option maxHeartbeats 1000000 in
set_option maxRecDepth 100000 in
theorem unm_1 (p : Nat) (A : Option Addr) (m c : Nat) (d : List Int) (w : World) (hr : Rd w A d) (hm : d.length = m) (h0 : 0 < m) (hb : m ≤ 1000000000000) (hc0 : w.cell? ⟨p, 0, none⟩ = some (.slice none 0 0)) (hfz : w.frozen? ⟨p, 0, none⟩ = false) (hp : p < w.heap.size) (hne : ∀ g o, A = some ⟨g, o, none⟩ → g ≠ p) :
    Calls Tryd.prog 159 #[.pointer (some ⟨p, 0, none⟩), .slice A m c] w fun e w' => e = .returned .nilIface ∧ (∃ v, w'.cell? ⟨p, 0, none⟩ = some v ∧ Own w' w.heap.size v d) ∧ Below p w w' := by
  have HM : Hid (d.length = m) := hm
  have hmk := run_make_bytes m hb
  have hA : ∀ (W : World) (o' : Obj) (g j : Nat), g < W.heap.size → (W.alloc o').cell? ⟨g, j, none⟩ = W.cell? ⟨g, j, none⟩ := fun W o' g j h => World.cell?_alloc_lt W o' ⟨g, j, none⟩ h
  have hrow : Hid (RowI ((w.setCell ⟨p, 0, none⟩ (.slice (some ⟨w.heap.size, 0, none⟩) m m)).alloc (.cells (zer m) 5)) w.heap.size (List.replicate m 0)) := by
    have h := row_new (w.setCell ⟨p, 0, none⟩ (.slice (some ⟨w.heap.size, 0, none⟩) m m)) m
    have e : (w.setCell ⟨p, 0, none⟩ (.slice (some ⟨w.heap.size, 0, none⟩) m m)).heap.size = w.heap.size := by simp
    rw [e] at h
    exact h
  have hbel : Hid (Below p w ((w.setCell ⟨p, 0, none⟩ (.slice (some ⟨w.heap.size, 0, none⟩) m m)).alloc (.cells (zer m) 5))) := by
    show Below _ _ _
    exact Below.alloc (by refine Below.setCell ?_ (by simp) _; exact Below.refl _ _) (by simp; omega) _
  have hcell : Hid (((w.setCell ⟨p, 0, none⟩ (.slice (some ⟨w.heap.size, 0, none⟩) m m)).alloc (.cells (zer m) 5)).cell? ⟨p, 0, none⟩ = some (.slice (some ⟨w.heap.size, 0, none⟩) m m)) := by
    show _ = _
    exact (World.cell?_alloc_lt _ _ ⟨p, 0, none⟩ (by simpa using hp)).trans (World.cell?_setCell_same' _ _ _ (by rw [hc0]; rfl))
  have hrd : Hid (Rd ((w.setCell ⟨p, 0, none⟩ (.slice (some ⟨w.heap.size, 0, none⟩) m m)).alloc (.cells (zer m) 5)) A d) := by
    show Rd _ _ _
    exact (hr.other hne _).alloc _
  clear hm
  go_enter Tryd.func159, Tryd.ntmps159
  go_wp2_with (refine copy_rd rfl (.tmp 32) (.tmp 33) (by rfl) _ _ _ _ _ _ (by rfl) (by rfl) w.heap.size 0 (List.replicate m 0) hrow.out d (by rw [HM.out]; exact (Nat.min_self m).symm) (fun _ => rfl) (by rw [HM.out]; simp) hrd.out w.heap.size _ (Below.refl _ _) (Nat.le_refl _) ?_; intro w3 hrow3 hb3)
  have hbl : Below p w w3 := hbel.out.trans (hb3.mono (by omega))
  go_ret
  refine ⟨rfl, ⟨.slice (some ⟨w.heap.size, 0, none⟩) m m, ?_, ?_⟩, hbl⟩
  · exact (hb3.cell (p := ⟨p, 0, none⟩) hp).trans hcell.out
  · rw [splice_all (by rw [HM.out]; simp)] at hrow3
    exact hrow3.own (Nat.le_refl _) HM.out hb

theorem rd_ne {w : World} {A : Option Addr} {l : List Int} {p : Nat} {t : Int} {T : TypeId} (hP : w.heap[p]? = some (.cells #[.slice none 0 0, .int .i8 t] T (0, 0))) (h : Rd w A l) (hl : 0 < l.length) : ∀ g o, A = some ⟨g, o, none⟩ → g ≠ p := by
  intro g o e hgp
  subst hgp
  obtain ⟨g', o', e', hg, hc⟩ := h.2 hl
  rw [e] at e'
  injection e' with e'
  injection e' with e1 e2
  subst e1; subst e2
  have h0 := hc 0 hl
  simp only [World.cell?, hP] at h0
  rcases o with _ | _ | o <;> simp at h0
theorem unm_c (p : Nat) (t : Int) (T : TypeId) (A : Option Addr) (m c : Nat) (d : List Int) (w : World) (hr : Rd w A d) (hm : d.length = m) (hb : m ≤ 1000000000000) (hP : w.heap[p]? = some (.cells #[.slice none 0 0, .int .i8 t] T (0, 0))) (hp : p < w.heap.size) :
    Calls Tryd.prog 159 #[.pointer (some ⟨p, 0, none⟩), .slice A m c] w fun e w' => e = .returned .nilIface ∧ (∃ v, w'.cell? ⟨p, 0, none⟩ = some v ∧ Own w' w.heap.size v d) ∧ Below p w w' := by
  have hc0 : w.cell? ⟨p, 0, none⟩ = some (.slice none 0 0) := by simp [World.cell?, hP]
  have hfz : w.frozen? ⟨p, 0, none⟩ = false := by simp [World.frozen?, hP]
  rcases Nat.eq_zero_or_pos m with h0 | h0
  · subst h0
    obtain rfl := List.eq_nil_of_length_eq_zero hm
    exact unm_0 p A c w hc0 hfz hp
  · exact unm_1 p A m c d w hr hm h0 hb hc0 hfz hp (rd_ne hP hr (by omega))
set_option maxHeartbeats 1000000 in
theorem et_c (p : Nat) (t : Int) (T : TypeId) (w : World) (hP : w.heap[p]? = some (.cells #[.slice none 0 0, .int .i8 t] T (0, 0))) :
    Calls Tryd.prog 156 #[.pointer (some ⟨p, 0, none⟩)] w fun e w' => e = .returned (.int .i8 t) ∧ w = w' := by
  have hc1 : w.cell? ⟨p, 1, none⟩ = some (.int .i8 t) := by simp [World.cell?, hP]
  go_enter Tryd.func156, Tryd.ntmps156
  go_wp2_with fail
  go_ret
  exact ⟨rfl, rfl⟩

theorem bodyE_len {l : List Int} {t t' : Int} {k m j : Nat} {d : List Int} (h : bodyE l t k m = .ok (t', d, j)) : d.length ≤ l.length := by
  unfold bodyE at h
  split at h
  · cases h
  · cases h
    simp only [List.length_take, List.length_drop]
    omega
theorem extR_len {l : List Int} {t : Int} {k : Nat} {d : List Int} (h : extR l = .ok (t, d, k)) : d.length ≤ l.length := by
  unfold extR at h
  repeat' split at h
  all_goals first | (cases h; done) | exact bodyE_len h
theorem meth_et (a : Addr) (w : World) : (method 344 130 (.pointer (some a)) "ExtensionType").run Tryd.prog w = .ok (156, .pointer (some a)) w := by kernel_rfl
theorem meth_un (a : Addr) (w : World) : (method 344 130 (.pointer (some a)) "UnmarshalBinary").run Tryd.prog w = .ok (159, .pointer (some a)) w := by kernel_rfl

/-- 'The call reads an extension of the type typ into the struct at p, or tells an error.' -/
def RetRX (w : World) (p : Nat) (typ : Int) (x : Except Er (Int × List Int × Nat)) (e : Ending) (w' : World) : Prop :=
  Below p w w' ∧ ((∃ d k, x = .ok (typ, d, k) ∧ (∃ B c, e = .returned (.tuple #[.slice B k c, .nilIface])) ∧ ∃ v, w'.cell? ⟨p, 0, none⟩ = some v ∧ Own w' w.heap.size v d) ∨
    (∃ r : Er, r.code ≠ 0 ∧ (∃ B k c, e = .returned (.tuple #[.slice B k c, r.val])) ∧ (∀ d k, x ≠ .ok (typ, d, k)) ∧ ∀ t d k, x = .ok (t, d, k) → r.code = 6))

set_option maxHeartbeats 2000000 in
set_option maxRecDepth 100000 in
theorem rx_c (A : Option Addr) (n c : Nat) (l : List Int) (p : Nat) (typ : Int) (T : TypeId) (w : World) (hr : Rd w A l) (hn : l.length = n) (hnc : n ≤ c) (hm : c ≤ maxLen) (hle : n ≤ 1000000000000) (hP : w.heap[p]? = some (.cells #[.slice none 0 0, .int .i8 typ] T (0, 0))) (hp : p < w.heap.size) (hG : Glob w) :
    Calls Tryd.prog 85 #[.slice A n c, .iface 130 (.pointer (some ⟨p, 0, none⟩))] w (RetRX w p typ (extR l)) := by
  have hcall := re_c A n c l w hr hn hnc hm hG
  have hlen : ∀ d k (t : Int), extR l = .ok (t, d, k) → d.length ≤ 1000000000000 := fun d k t h => Nat.le_trans (extR_len h) (by rw [hn]; exact hle)
  have hm1 := meth_et
  have hm2 := meth_un
  clear hr hn hnc hm hG
  go_enter Tryd.func85, Tryd.ntmps85
  go_wp2_with fail
  ((with_reducible refine hcall.mono ?_); rintro e w1 (⟨t, d, k, hx, A1, c1, A2, c2, rfl, hr1, hb1⟩ | ⟨r, hx, hrc, A1, k1, c1, A2, k2, c2, rfl, hb1⟩))
  · go_wp2_with fail
    have hP1 : w1.heap[p]? = some (.cells #[.slice none 0 0, .int .i8 typ] T (0, 0)) := by rw [hb1.block p hp]; exact hP
    have hp1 : p < w1.heap.size := Nat.lt_of_lt_of_le hp hb1.size
    have hdl := Lib.hid hlen
    by_cases htt : t = typ
    · subst htt
      go_wp2_with (first | (go_at_call 156; refine (et_c p _ T _ hP1).mono ?_; rintro e w2 ⟨rfl, rfl⟩) | (go_at_call 159; refine (unm_c p _ T _ _ _ d _ hr1 rfl (by have := hdl.out d k _ hx; omega) hP1 hp1).mono ?_; rintro e w2 ⟨rfl, ⟨v, hv, hown⟩, hb2⟩))
      go_ret2
      exact ⟨(hb1.mono (by omega)).trans hb2, Or.inl ⟨d, k, hx, ⟨_, _, rfl⟩, v, hv, hown.less hb1.size⟩⟩
    · have e1 : (t == typ) = false := by simpa using htt
      have e2 : (t != typ) = true := by simpa using htt
      go_wp2_with (first | (go_at_call 156; refine (et_c p _ T _ hP1).mono ?_; rintro e w2 ⟨rfl, rfl⟩) | go_in)
      go_ret2
      exact ⟨by first | exact hb1.mono (by omega) | exact (hb1.mono (by omega)).alloc (by omega) _, Or.inr ⟨.ext t typ, by simp [Er.code], ⟨_, _, _, rfl⟩, fun d' k' h => by rw [hx] at h; cases h; exact htt rfl, fun _ _ _ _ => rfl⟩⟩
  · have hx' := Lib.hid hx
    have hrc' := Lib.hid hrc
    clear hx hrc hcall
    cases r
    · exact absurd rfl hrc'.out
    all_goals
      go_wp2_with fail
      go_ret2
      exact ⟨hb1.mono (by omega), Or.inr ⟨_, hrc'.out, ⟨_, _, _, rfl⟩, (fun d k h => by have := hx'.out; rw [h] at this; cases this), (fun t d k h => by have := hx'.out; rw [h] at this; cases this)⟩⟩

theorem bodyE_byts {l : List Int} {t t' : Int} {k m j : Nat} {d : List Int} (hb : Byts l) (h : bodyE l t k m = .ok (t', d, j)) : Byts d := by
  unfold bodyE at h
  split at h
  · cases h
  · cases h
    exact (hb.drop _).take _
theorem extR_byts {l : List Int} {t : Int} {k : Nat} {d : List Int} (hb : Byts l) (h : extR l = .ok (t, d, k)) : Byts d := by
  unfold extR at h
  repeat' split at h
  all_goals first | (cases h; done) | exact bodyE_byts hb h

/-- 'The call tells an extension of the type typ, or a code that is not 0.' -/
def ExtTold (w : World) (typ : Int) (x : Except Er (Int × List Int × Nat)) (e : Ending) (w' : World) : Prop :=
  Below w.heap.size w w' ∧ ((∃ d k, x = .ok (typ, d, k) ∧ ∃ v, e = .returned (.tuple #[v, .int .i64 (k : Int), .int .i64 0]) ∧ Own w' w.heap.size v d) ∨
    (∃ (code : Int) (m : Int) (A : Option Addr) (q c : Nat), code ≠ 0 ∧ ((∀ d k, x ≠ .ok (typ, d, k)) ∧ ∀ t d k, x = .ok (t, d, k) → code = 6) ∧ e = .returned (.tuple #[.slice A q c, .int .i64 m, .int .i64 code])))

set_option maxHeartbeats 2000000 in
set_option maxRecDepth 100000 in
theorem implExt_c (typ : Int) (A : Option Addr) (n c : Nat) (l : List Int) (w : World) (ht : -128 ≤ typ ∧ typ ≤ 127) (hr : Rd w A l) (hn : l.length = n) (hle : n ≤ 1000000000000) (hG : Glob w) :
    Calls Tryd.prog 43 #[.int .i8 typ, .slice A n c] w (ExtTold w typ (extR l)) := by
  subst hn
  have HG : Hid (Glob w) := hG
  have hcall : ∀ (A : Option Addr) (c p : Nat) (T : TypeId) (W : World), Rd W A l → l.length ≤ c → c ≤ maxLen → W.heap[p]? = some (.cells #[.slice none 0 0, .int .i8 typ] T (0, 0)) → p < W.heap.size → Glob W → Calls Tryd.prog 85 #[.slice A l.length c, .iface 130 (.pointer (some ⟨p, 0, none⟩))] W (RetRX W p typ (extR l)) := fun A c p T W a b d e f g => rx_c A _ c l p typ T W a rfl b d hle e f g
  have hby := hr.1
  clear hG
  go_enter Tryd.func43, Tryd.ntmps43
  go_wp2_with fail
  ((with_reducible refine (clone_c _ _ _ l _ (hr.alloc _) rfl hle).mono ?_); rintro e w1 ⟨v, rfl, hown, hb1⟩)
  obtain ⟨A1, c1, rfl, hc1, hm1, hr1⟩ := hown.open_ hr.1
  have hP : w1.heap[w.heap.size]? = some (.cells #[.slice none 0 0, .int .i8 typ] 132 (0, 0)) := by rw [hb1.block _ (by simp)]; exact heap_alloc_new w _
  have hp1 : w.heap.size < w1.heap.size := Nat.lt_of_lt_of_le (by simp) hb1.size
  have b1 : Below w.heap.size w w1 := ((Below.refl _ _).alloc (Nat.le_refl _) _).trans (hb1.mono (by simp))
  go_wp2_with fail
  ((with_reducible refine (hcall _ _ _ _ _ hr1 hc1 hm1 hP hp1 (HG.out.mono b1)).mono ?_); rintro e w2 ⟨hb2, (⟨d, k, hx, ⟨B, c2, rfl⟩, v2, hv2, hown2⟩ | ⟨r, hrc, ⟨B, k, c2, rfl⟩, hx⟩)⟩)
  · have b2 : Below w.heap.size w w2 := b1.trans hb2
    have hlen := Lib.hid (extR_len hx)
    obtain ⟨A3, c3, rfl, -, -, hr3⟩ := hown2.open_ (extR_byts hby hx)
    have hx' := Lib.hid hx
    clear hx hcall
    go_wp2_with fail
    ((with_reducible refine (clone_c _ _ _ d _ hr3 rfl (by have := hlen.out; omega)).mono ?_); rintro e w3 ⟨v3, rfl, hown3, hb3⟩)
    go_wp2_with fail
    go_ret3
    exact ⟨below_step b2 hb3, Or.inl ⟨d, k, hx'.out, v3, rfl, hown3.less b2.size⟩⟩
  · have b2 : Below w.heap.size w w2 := b1.trans hb2
    have hrc' := Lib.hid hrc
    clear hrc hcall
    cases r
    · exact absurd rfl hrc'.out
    all_goals
      go_wp2_with fail
      ((with_reducible refine (codeOf_c _ _ (HG.out.mono b2)).mono ?_); rintro e w3 ⟨rfl, hb3⟩)
      go_wp2_with fail
      go_ret3
      exact ⟨below_step b2 hb3, Or.inr ⟨_, _, _, _, _, hrc'.out, hx, rfl⟩⟩
end Go.Proofs.YtpmdlbbgljcloaaDoor

