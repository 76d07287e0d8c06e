/- What every walk of this seat leans on: how a byte slice in memory reads as a list of numbers, that a later world keeps it, and small facts on worlds. No function is walked here. Conditions: none. -/
import Derived.WalkKit
import Derived.WalkSpells
import Derived.WalkLawsBesides
import Derived.Lib.Hide
import Derived.Deep.Draws
import Derived.Laws.Rows
import Derived.Deep.QuietTactic
import Derived.BigQuiet
import Derived.Deep.RegionWith
import Derived.Maps.AppendAt
import Derived.Test.YtpmdlbbgljcloaaDoorChecked
namespace Go.Proofs.YtpmdlbbgljcloaaDoor
open Go Go.RowKit

/-- The i-th number of a list (0 behind its end). -/
def at_ (l : List Int) (i : Nat) : Int := l.getD i 0

/-- The numbers are bytes. -/
def Byts (l : List Int) : Prop := ∀ x ∈ l, 0 ≤ x ∧ x < 256

theorem Byts.at_ {l : List Int} (h : Byts l) (i : Nat) : 0 ≤ at_ l i ∧ at_ l i < 256 := by
  unfold YtpmdlbbgljcloaaDoor.at_
  rw [List.getD_eq_getElem?_getD]
  rcases hx : l[i]? with _ | x
  · simp
  · simpa using h x (List.mem_of_getElem? hx)
theorem Byts.nil : Byts [] := fun _ h => by cases h
theorem Byts.cons {x : Int} {l : List Int} (hx : 0 ≤ x ∧ x < 256) (h : Byts l) : Byts (x :: l) := fun y hy => by
  rcases List.mem_cons.1 hy with rfl | hy
  · exact hx
  · exact h y hy
theorem Byts.append {l m : List Int} (h : Byts l) (k : Byts m) : Byts (l ++ m) := fun y hy => by
  rcases List.mem_append.1 hy with hy | hy
  · exact h y hy
  · exact k y hy
theorem Byts.drop {l : List Int} (h : Byts l) (k : Nat) : Byts (l.drop k) := fun y hy => h y (List.mem_of_mem_drop hy)
theorem Byts.take {l : List Int} (h : Byts l) (k : Nat) : Byts (l.take k) := fun y hy => h y (List.mem_of_mem_take hy)
theorem at_drop (l : List Int) (k i : Nat) : at_ (l.drop k) i = at_ l (k + i) := by
  unfold at_
  simp [List.getD_eq_getElem?_getD, List.getElem?_drop]

/-- A slice with this address reads as these bytes. -/
def Rd (w : World) (A : Option Addr) (l : List Int) : Prop :=
  Byts l ∧ (0 < l.length → ∃ g o, A = some ⟨g, o, none⟩ ∧ g < w.heap.size ∧ ∀ j, j < l.length → w.cell? ⟨g, o + j, none⟩ = some (.int .u8 (at_ l j)))

theorem Rd.nil (w : World) (A : Option Addr) : Rd w A [] := ⟨Byts.nil, fun h => absurd h (by simp)⟩
theorem Rd.mono {w w' : World} {A : Option Addr} {l : List Int} (h : Rd w A l) (hb : Below w.heap.size w w') : Rd w' A l :=
  ⟨h.1, fun hl => by
    obtain ⟨g, o, hA, hg, hc⟩ := h.2 hl
    exact ⟨g, o, hA, Nat.lt_of_lt_of_le hg hb.size, fun j hj => (hb.cell (p := ⟨g, o + j, none⟩) hg).trans (hc j hj)⟩⟩
theorem Rd.drew {w : World} {A : Option Addr} {l : List Int} (h : Rd w A l) : Rd w.drew A l := h
theorem Rd.drewN {w : World} {A : Option Addr} {l : List Int} (h : Rd w A l) (n : Nat) : Rd (w.drewN n) A l := h
theorem Rd.alloc {w : World} {A : Option Addr} {l : List Int} (h : Rd w A l) (o : Obj) : Rd (w.alloc o) A l := h.mono ((Below.refl _ _).alloc (Nat.le_refl _) o)

/-- A slice cut at k, up to the end. -/
theorem Rd.cut {w : World} {g o : Nat} {l : List Int} (h : Rd w (some ⟨g, o, none⟩) l) (k : Nat) : Rd w (some ⟨g, o + k, none⟩) (l.drop k) :=
  ⟨h.1.drop k, fun hl => by
    have hl' : k < l.length := by simp at hl; omega
    obtain ⟨g', o', hA, hg, hc⟩ := h.2 (by omega)
    injection hA with hA
    injection hA with h1 h2
    subst h1; subst h2
    refine ⟨g, o + k, rfl, hg, fun j hj => ?_⟩
    have hj' : k + j < l.length := by simp at hj; omega
    rw [at_drop, Nat.add_assoc]
    exact hc _ hj'⟩
theorem Rd.cutTake {w : World} {g o : Nat} {l : List Int} (h : Rd w (some ⟨g, o, none⟩) l) (k m : Nat) : Rd w (some ⟨g, o + k, none⟩) ((l.drop k).take m) :=
  ⟨(h.1.drop k).take m, fun hl => by
    have hl' : 0 < m ∧ k < l.length := by simp at hl; omega
    obtain ⟨g', o', hA, hg, hc⟩ := (h.cut k).2 (by simp; omega)
    injection hA with hA
    injection hA with h1 h2
    subst h1
    refine ⟨g, o + k, rfl, hg, fun j hj => ?_⟩
    have hj' : j < m ∧ j < (l.drop k).length := by simp at hj ⊢; omega
    have e : at_ ((l.drop k).take m) j = at_ (l.drop k) j := by
      unfold at_
      simp [List.getD_eq_getElem?_getD, hj'.1]
    rw [e, h2]
    exact hc _ hj'.2⟩

/-- What a slice that is not empty gives a walk. -/
theorem Rd.open_ {w : World} {A : Option Addr} {l : List Int} (h : Rd w A l) (hl : 0 < l.length) :
    ∃ g o, A = some ⟨g, o, none⟩ ∧ g < w.heap.size ∧ Rd w (some ⟨g, o, none⟩) l ∧ ∀ j, j < l.length → w.cell? ⟨g, o + j, none⟩ = some (.int .u8 (at_ l j)) := by
  obtain ⟨g, o, rfl, hg, hc⟩ := h.2 hl
  exact ⟨g, o, rfl, hg, h, hc⟩

/-- A byte slice that the call itself has made, or nil: as the append laws want it. -/
abbrev Own (w : World) (B : Nat) (v : Value) (l : List Int) : Prop := w.ownsRow B 5 1 v l.length (l.map (Value.int .u8))

theorem below_grown {B : Nat} {a w w' : World} {v : Value} (h : Below B a w) (hg : w.grownBy w' v.ownBlock) (hB : B ≤ w.heap.size) (hr : ∀ k, v.ownBlock = some k → B ≤ k) : Below B a w' :=
  h.grown hg hB hr

/-! ### make -/
theorem run_make_rowN {P : Program} (t e : TypeId) (i : TypeInfo) (z : Value) (ht : P.underlying t = some (.slice e)) (hi : P.info? e = some i) (hz : i.zero = some z)
    (kl kc : IntKind) (n c : Nat) (hnc : n ≤ c) (hbytes : i.bytes * c ≤ 281474976710656) (h63 : c ≤ 9223372036854775807) (w : World) :
    (Instr.makeSlice t (.int kl (n : Int)) (.int kc (c : Int))).run P w = .ok (.slice (some ⟨w.heap.size, 0, none⟩) n c) (w.alloc (.cells (madeCells z.cells (c * i.size)) e)) := by
  have hb : (i.bytes : Int) * (c : Int) ≤ 281474976710656 := by
    have h : ((i.bytes * c : Nat) : Int) ≤ 281474976710656 := by omega
    rwa [Int.natCast_mul] at h
  have hr := run_make (P := P) w t e i z ht hi hz kl kc n c (by omega) (by omega) hb (by omega)
  simp only [Int.toNat_natCast] at hr
  exact hr

theorem u8_info : (Tryd.prog.info? 5).map (fun i => (i.zero, i.size, i.bytes)) = some (some (.int .u8 0), 1, 1) := by kernel_rfl

/-- The cells of a new row of n bytes. -/
def zer (n : Nat) : Array Value := madeCells #[.int .u8 0] n
theorem zer_size (n : Nat) : (zer n).size = n := size_madeCells _ _
theorem zer_toList (n : Nat) : (zer n).toList = List.replicate n (.int .u8 0) := toList_madeCells_one _ _

theorem run_make_bytes (n : Nat) (hn : n ≤ 1000000000000) (w : World) :
    (Instr.makeSlice 22 (.int .i64 (n : Int)) (.int .i64 (n : Int))).run Tryd.prog w = .ok (.slice (some ⟨w.heap.size, 0, none⟩) n n) (w.alloc (.cells (zer n) 5)) := by
  obtain ⟨i, hi, hz0, hz1, hz2⟩ := info_parts u8_info
  have := run_make_rowN (P := Tryd.prog) 22 5 i _ Tryd.underlying22 hi hz0 .i64 .i64 n n (Nat.le_refl _) (by rw [hz2]; omega) (by omega) w
  rw [hz1, Nat.mul_one] at this
  exact this

theorem u8_size : (Tryd.prog.info? 5).map (·.size) = some 1 := by kernel_rfl

/-- Nothing to copy: the source is nil. -/
theorem run_copy_nil_src (d : Option Addr) (n c : Nat) (w : World) (ty : TypeId) :
    (Builtin.copy_ #[22, 22] ty #[.slice d n c, .slice none 0 0]).run Tryd.prog w = .ok (goInt 0) w :=
  run_copy_none (P := Tryd.prog) w 22 22 ty 5 d none n c 0 0 Tryd.underlying22 u8_size (by simp)

/-! ### append -/
theorem map_at {l : List Int} (j : Nat) (u : Value) (h : (l.map (Value.int .u8))[j]? = some u) : j < l.length ∧ u = .int .u8 (at_ l j) := by
  rw [List.getElem?_map] at h
  rcases hx : l[j]? with _ | x
  · rw [hx] at h; cases h
  · rw [hx] at h
    have hj : j < l.length := by
      rcases Nat.lt_or_ge j l.length with h' | h'
      · exact h'
      · rw [List.getElem?_eq_none h'] at hx; cases hx
    refine ⟨hj, ?_⟩
    unfold at_
    rw [List.getD_eq_getElem?_getD, hx]
    simpa using h.symm

theorem add_plain (g o j : Nat) : (⟨g, o, none⟩ : Addr).add j = ⟨g, o + j, none⟩ := by
  unfold Addr.add
  split
  · rename_i h; subst h; rfl
  · rfl

set_option maxRecDepth 100000 in
theorem run_app (w : World) (ty : TypeId) (B : Nat) (v : Value) (l : List Int) (hown : Own w B v l) (A : Option Addr) (m c : Nat) (k : List Int) (hr : Rd w A k) (hm : k.length = m)
    (hlen : l.length + k.length ≤ 1000000000000) (hbase : B ≤ w.heap.size) :
    ∃ v' w', (Builtin.append_ #[22, 22] ty #[v, .slice A m c]).run Tryd.prog w = .ok v' w' ∧ Own w' B v' (l ++ k) ∧ w.grownBy w' v.ownBlock ∧ (v'.ownBlock = v.ownBlock ∨ v'.ownBlock = some w.heap.size) := by
  subst hm
  obtain ⟨i, hi, hz0, hz1, hz2⟩ := info_parts u8_info
  have main : ∀ ad : Addr, (∀ j u, (k.map (Value.int .u8))[j]? = some u → w.cell? (ad.add j) = some u) → ∃ v' w', (Builtin.append_ #[22, 22] ty #[v, .slice (some ad) k.length c]).run Tryd.prog w = .ok v' w' ∧ Own w' B v' (l ++ k) ∧ w.grownBy w' v.ownBlock ∧ (v'.ownBlock = v.ownBlock ∨ v'.ownBlock = some w.heap.size) := by
    intro ad hc
    obtain ⟨v', w', hrun, h2, h3, _, h5⟩ := run_append_own_at (P := Tryd.prog) w B 22 ty 5 i _ 1 1 Tryd.underlying22 hi hz0 hz1 hz2 rfl (by decide) v l.length _ hown ad k.length c (k.map (Value.int .u8)) (by simp) hc (ints_oneCell _ _) (by simp only [maxLen]; omega) (by omega) hbase
    refine ⟨v', w', hrun, ?_, h3, h5⟩
    unfold Own
    rw [List.length_append, List.map_append]
    exact h2
  rcases A with _ | ad
  · have hk : k = [] := by
      rcases Nat.eq_zero_or_pos k.length with h0 | h0
      · exact List.eq_nil_of_length_eq_zero h0
      · obtain ⟨g, o, e, _⟩ := hr.2 h0; cases e
    subst hk
    refine ⟨v, w, ?_, by simpa using hown, World.grownBy.refl w _, .inl rfl⟩
    rcases hown.2 with ⟨rfl, h0⟩ | ⟨g, cap, cur, rfl, _, _, hnc, _⟩
    · simp [Builtin.append_, run_underlying Tryd.underlying22, sizeOf, typeInfo, hi, Builtin.lenOf, Builtin.firstCells]
    · simp [Builtin.append_, run_underlying Tryd.underlying22, sizeOf, typeInfo, hi, Builtin.lenOf, Builtin.firstCells, hnc, storeCells]
  · refine main ad fun j u hu => ?_
    obtain ⟨hj, rfl⟩ := map_at j u hu
    obtain ⟨g, o, e, _, hc⟩ := hr.2 (by omega)
    injection e with e
    subst e
    rw [add_plain]
    exact hc j hj

/-- append of bytes onto a row of the call's own (or nil), as an arm of the walk. -/
theorem app_own {w : World} {ops : Array Oper} {rest : List Oper} {o : Oper} {a : Act} {Q : Exit → Act → World → Prop} (hgd : o.guard = none) (s x : Operand)
    (ho : o.op = .call { callee := .builtin .append, args := #[s, x], argTypes := #[22, 22] })
    (B : Nat) (v : Value) (l : List Int) (hs : a.eval s = v) (hown : Own w B v l) (A : Option Addr) (m c : Nat) (k : List Int) (hx : a.eval x = .slice A m c) (hr : Rd w A k) (hm : k.length = m)
    (hlen : l.length + k.length ≤ 1000000000000) (hbase : B ≤ w.heap.size)
    (h : ∀ v' w', Own w' B v' (l ++ k) → Below B w w' → wpList Tryd.prog ops Q rest (a.put o.dst v') w') : wpList Tryd.prog ops Q (o :: rest) a w :=
  wpList_plain hgd fun K hK => by
    obtain ⟨v', w', hrun, h2, h3, _⟩ := run_app w o.type B v l hown A m c k hr hm hlen hbase
    unfold Oper.wp execOp
    simp only [ho, resolve, invoke, builtin, Sem.run_bind, Sem.run_pure, Result.andThen_ok, List.map_toArray, List.map_cons, List.map_nil, hs, hx, hrun]
    exact hK _ _ (h v' w' h2 ((Below.refl B w).grown h3 hbase fun g hg => (hown.lt g hg).1))

/-- What a row of the call's own is as a value, and that it reads. -/
theorem Own.open_ {w : World} {B : Nat} {v : Value} {l : List Int} (h : Own w B v l) (hb : Byts l) : ∃ A c, v = .slice A l.length c ∧ l.length ≤ c ∧ c ≤ maxLen ∧ Rd w A l := by
  rcases h.2 with ⟨rfl, h0⟩ | ⟨g, cap, cur, rfl, _, hg, hnc, hcm, hcs, ht⟩
  · obtain rfl := List.eq_nil_of_length_eq_zero h0
    exact ⟨none, 0, rfl, Nat.le_refl _, Nat.zero_le _, Rd.nil _ _⟩
  · refine ⟨_, cap, rfl, hnc, hcm, hb, fun hl => ⟨g, 0, rfl, ?_, fun j hj => ?_⟩⟩
    · rcases Nat.lt_or_ge g w.heap.size with h' | h'
      · exact h'
      · rw [Array.getElem?_eq_none h'] at hg; cases hg
    · have := World.ownsRow.cellAt h j (by omega)
      rw [Nat.zero_add, this]
      unfold at_
      rw [List.getElem?_map, List.getD_eq_getElem?_getD, List.getElem?_eq_getElem hj]
      rfl

/-- Of a new row that is written out. -/
theorem own_lit (w : World) (l : List Int) (cs : Array Value) (n : Nat) (hl : l.length = n) (hcs : cs = (l.map (Value.int .u8)).toArray) (hn : n ≤ 1000000000000) :
    Own (w.alloc (.cells cs 5)) w.heap.size (.slice (some ⟨w.heap.size, 0, none⟩) n n) l := by
  subst hl; subst hcs
  have := World.ownsRow_lit (base := w.heap.size) (e := 5) (size := 1) w (l.map (Value.int .u8)).toArray l.length (Nat.le_refl _) (by simp only [maxLen]; omega) (by simp)
  simpa using this

/-- A new one-cell row, as a source of append. -/
theorem rd_one (w : World) (x : Int) (hx : 0 ≤ x ∧ x < 256) (t : TypeId) : Rd (w.alloc (.cells #[.int .u8 x] t)) (some ⟨w.heap.size, 0, none⟩) [x] :=
  ⟨Byts.nil.cons hx, fun _ => ⟨w.heap.size, 0, rfl, by simp, fun j hj => by
    obtain rfl : j = 0 := by simp at hj; omega
    simp [at_]⟩⟩

/-- 'The call comes to a byte slice of its own that reads l; nothing that was there has turned.' -/
def Made (w : World) (l : List Int) (e : Ending) (w' : World) : Prop := ∃ v, e = .returned v ∧ Own w' w.heap.size v l ∧ Below w.heap.size w w'

theorem Own.mono {w w' : World} {B : Nat} {v : Value} {l : List Int} (h : Own w B v l) (hb : Below w.heap.size w w') : Own w' B v l := by
  have hg : w.grownBy w' none := ⟨hb.os, hb.tape, hb.output, hb.size, fun k hk _ => hb.block k hk⟩
  refine World.ownsRow.kept h hg ?_
  cases v.ownBlock with
  | none => exact .inl rfl
  | some k => exact .inr (by simp)
theorem Own.less {w : World} {B B' : Nat} {v : Value} {l : List Int} (h : Own w B v l) (hB : B' ≤ B) : Own w B' v l := by
  refine ⟨h.1, ?_⟩
  rcases h.2 with h2 | ⟨g, cap, cur, hv, hg, r⟩
  · exact .inl h2
  · exact .inr ⟨g, cap, cur, hv, Nat.le_trans hB hg, r⟩
theorem byte_mod (x : Int) : 0 ≤ x % 256 ∧ x % 256 < 256 := by omega

/-- A byte slice that came in, as the row's opener hands it over. -/
theorem rd_of_ints {w : World} {x : Addr} {len : Nat} {zs : List Int} (hl : len ≤ zs.length) (hc : ∀ i, i < zs.length → w.cell? (x.add i) = some (.int .u8 (zs.getD i 0))) (hw : ∀ n ∈ zs, (Lit.int .u8 n).wf = true) :
    Rd w (some x) (zs.take len) := by
  have hb : Byts zs := fun n hn => by
    have := hw n hn
    simp [Lit.wf, IntKind.min, IntKind.max, IntKind.signed, IntKind.bits] at this
    omega
  refine ⟨hb.take len, fun h0 => ?_⟩
  have h0' : 0 < len ∧ 0 < zs.length := by simp at h0; omega
  obtain ⟨g, o, s⟩ := x
  have hs : s = none := by simpa [Addr.add] using World.cell?_spot (hc 0 h0'.2)
  subst hs
  refine ⟨g, o, rfl, World.block_lt_of_cell? w ((⟨g, o, none⟩ : Addr).add 0) (hc 0 h0'.2), fun j hj => ?_⟩
  have hj' : j < len ∧ j < zs.length := by simp at hj; omega
  rw [← add_plain, hc j hj'.2]
  unfold at_
  simp [List.getD_eq_getElem?_getD, hj'.1]

end Go.Proofs.YtpmdlbbgljcloaaDoor
