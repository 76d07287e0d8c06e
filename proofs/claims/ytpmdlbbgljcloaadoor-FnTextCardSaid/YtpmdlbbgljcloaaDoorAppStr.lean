/- append of a string onto a byte row of the call's own that is not empty, and copy of a string into a row that is known whole. Conditions: at most 10^12 bytes together. -/
import Derived.Test.YtpmdlbbgljcloaaDoorRow
import Derived.Lib.BufferWrite
import Derived.Laws.BytesArg
namespace Go.Proofs.YtpmdlbbgljcloaaDoor
open Go Go.RowKit Go.Lib
set_option linter.unusedVariables false

/-- A string's bytes as numbers. -/
def strInts (s : ByteArray) : List Int := s.data.toList.map fun b => (b.toNat : Int)
theorem strInts_length (s : ByteArray) : (strInts s).length = s.size := by rw [strInts, List.length_map, ← size_eq]
theorem strInts_byts (s : ByteArray) : Byts (strInts s) := fun x hx => by
  simp only [strInts, List.mem_map] at hx
  obtain ⟨b, _, rfl⟩ := hx
  have := b.toNat_lt
  omega
theorem strInts_cells (s : ByteArray) : (strInts s).map (Value.int .u8) = byteCells s.data.toList := by
  simp [strInts, byteCells]
theorem strOf_strInts (s : ByteArray) : strOfNums (strInts s) = s := by
  have e : (strOfNums (strInts s)).data = s.data := by
    apply Array.toList_inj.1
    rw [strOfNums_data, strInts, List.map_map]
    exact (List.map_congr_left fun b _ => by simp).trans (List.map_id _)
  cases s
  simp only [strOfNums] at e ⊢
  rw [e]

theorem str_cells (s : ByteArray) : ((s.extract 0 s.size).data.map fun b : UInt8 => Value.int IntKind.u8 (b.toNat : Int)).toList = byteCells s.data.toList := by
  have : s.extract 0 s.size = s := by simp
  rw [this]
  simp [byteCells]

theorem run_firstCells_str (s : ByteArray) (w : World) (k : Nat) : (Builtin.firstCells k s.size (.string s)).run Tryd.prog w = .ok (byteCells s.data.toList).toArray w := by
  have e : ((s.extract 0 s.size).data.map fun b : UInt8 => Value.int IntKind.u8 (b.toNat : Int)) = (byteCells s.data.toList).toArray := Array.toList_inj.1 (by rw [str_cells])
  show Result.ok _ _ = _
  rw [← e]

set_option maxRecDepth 100000 in
theorem run_app_str_grow (w : World) (ty e : TypeId) (i : TypeInfo) (z : Value) (hi : Tryd.prog.info? 5 = some i) (hz : i.zero = some z) (h1 : i.size = 1)
    (b : Addr) (sLen sCap : Nat) (olds : List Value) (hlo : olds.length = sLen) (holds : ∀ j v, olds[j]? = some v → w.cell? (b.add j) = some v)
    (s : ByteArray) (hg : sCap < sLen + s.size) (h63 : ((sLen + s.size : Nat) : Int) ≤ 9223372036854775807) (hfit : Builtin.nextslicecap (sLen + s.size) sCap * i.bytes ≤ 281474976710656) :
    (Builtin.append_ #[22, 9] ty #[.slice (some b) sLen sCap, .string s]).run Tryd.prog w =
      .ok (.slice (some ⟨w.heap.size, 0, none⟩) (sLen + s.size) (grownCap w (sLen + s.size) sCap 5))
        (w.drew.alloc (.cells (olds.toArray ++ (byteCells s.data.toList).toArray ++ Builtin.zeroCells z.cells (grownCap w (sLen + s.size) sCap 5 - (sLen + s.size))) 5)) := by
  have hn : ¬ (sLen + s.size ≤ sCap) := by omega
  have h63' : ¬ (9223372036854775807 < ((sLen : Int) + (s.size : Int))) := by omega
  have h48' : ¬ (281474976710656 < Builtin.nextslicecap (sLen + s.size) sCap * i.bytes) := by omega
  have hfo := run_firstCells_some (P := Tryd.prog) w.drew i.size sLen b sLen sCap olds (by rw [h1]; simpa using hlo) (by simpa using holds)
  have hfs := fun (w : World) (k : Nat) => run_firstCells_str s w k
  simp [Builtin.append_, run_underlying Tryd.underlying22, run_underlying Tryd.underlying9, sizeOf, typeInfo, zeroValue, hi, hz, Builtin.lenOf, hn, h63', h48', Question.forced, hfo, hfs, newRow, grownCap]
  try (congr 2; apply Array.ext'; simp [List.append_assoc])

theorem run_app_str_room (w : World) (ty : TypeId) (i : TypeInfo) (hi : Tryd.prog.info? 5 = some i) (h1 : i.size = 1)
    (g n cap : Nat) (cur : Array Value) (hg : w.heap[g]? = some (.cells cur 5 (0, 0))) (s : ByteArray) (hroom : n + s.size ≤ cap) (hfit : n + s.size ≤ cur.size) :
    (Builtin.append_ #[22, 9] ty #[.slice (some ⟨g, 0, none⟩) n cap, .string s]).run Tryd.prog w =
      .ok (.slice (some ⟨g, 0, none⟩) (n + s.size) cap) (w.setRow g (cur.toList.take n ++ byteCells s.data.toList ++ cur.toList.drop (n + s.size)).toArray) := by
  have hlen : (byteCells s.data.toList).length = s.size := by rw [byteCells_length, ← size_eq]
  have hst := run_storeCells_at Tryd.prog g n 5 (byteCells s.data.toList) 0 cur w hg (by rw [hlen]; simpa using hfit) (byteCells_one _)
  have hfs := fun (w : World) (k : Nat) => run_firstCells_str s w k
  rw [hlen] at hst
  simp only [Nat.add_zero] at hst
  have hadd : (⟨g, 0, none⟩ : Addr).add n = ⟨g, n, none⟩ := by rw [add_plain, Nat.zero_add]
  simp [Builtin.append_, run_underlying Tryd.underlying22, run_underlying Tryd.underlying9, sizeOf, typeInfo, hi, h1, Builtin.lenOf, hroom, hfs, hadd, hst]

theorem run_app_str (w : World) (ty : TypeId) (B : Nat) (v : Value) (l : List Int) (hown : Own w B v l) (h0 : 0 < l.length) (s : ByteArray) (hlen : l.length + s.size ≤ 1000000000000) (hbase : B ≤ w.heap.size) :
    ∃ v' w', (Builtin.append_ #[22, 9] ty #[v, .string s]).run Tryd.prog w = .ok v' w' ∧ Own w' B v' (l ++ strInts s) ∧ w.grownBy w' v.ownBlock := by
  obtain ⟨i, hi, hz0, hz1, hz2⟩ := info_parts u8_info
  have hbl : (byteCells s.data.toList).length = s.size := by rw [byteCells_length, ← size_eq]
  rcases hown.2 with ⟨rfl, hn0⟩ | ⟨g, cap, cur, rfl, hbg, hg, hnc, hcm, hcs, htake⟩
  · omega
  · have hl2 : (l.map (Value.int .u8) ++ byteCells s.data.toList).length = (l.length + s.size) * 1 := by rw [List.length_append, List.length_map, hbl]; omega
    have hmap : (l ++ strInts s).map (Value.int .u8) = l.map (Value.int .u8) ++ byteCells s.data.toList := by rw [List.map_append, strInts_cells]
    have hLen : (l ++ strInts s).length = l.length + s.size := by rw [List.length_append, strInts_length]
    by_cases hroom : l.length + s.size ≤ cap
    · have hfit : l.length + s.size ≤ cur.size := by rw [hcs]; omega
      refine ⟨_, _, run_app_str_room w ty i hi hz1 g l.length cap cur hg s hroom hfit, ?_, ⟨rfl, rfl, rfl, by simp, fun k _ hk => setRow_other w g k _ (fun e => hk (by simp [Value.ownBlock, e]))⟩⟩
      unfold Own
      rw [hLen, hmap]
      refine ⟨hl2, .inr ⟨g, cap, _, rfl, hbg, setRow_heap w g cur _ 5 _ hg, hroom, hcm, ?_, ?_⟩⟩
      · simp only [List.size_toArray, List.length_append, List.length_take, List.length_drop, Array.length_toList, hbl]
        omega
      · rw [Nat.mul_one] at htake
        simp only [htake]
        rw [← hl2]
        exact List.take_left
    · have holds : ∀ j u, (l.map (Value.int .u8))[j]? = some u → w.cell? ((⟨g, 0, none⟩ : Addr).add j) = some u := hown.cells (g := g) rfl
      have hb1 : (l.length + s.size) * i.bytes ≤ 140737488355328 := by rw [hz2]; omega
      have hr := run_app_str_grow w ty 5 i _ hi hz0 hz1 ⟨g, 0, none⟩ l.length cap (l.map (Value.int .u8)) (by simp) holds s (by omega) (by omega) (growslice_fits (by omega) hb1)
      refine ⟨_, _, hr, ?_, ⟨rfl, rfl, rfl, by simp, fun k hk _ => heap_alloc_old w.drew _ hk⟩⟩
      unfold Own
      rw [hLen, hmap]
      have hge := grownCap_ge w (l.length + s.size) cap 5
      have hcm2 : grownCap w (l.length + s.size) cap 5 ≤ maxLen := grownCap_le_maxLen w (l.length + s.size) cap 5 (by simp only [maxLen]; omega)
      refine ⟨hl2, .inr ⟨w.heap.size, _, _, rfl, hbase, heap_alloc_new w.drew _, hge, hcm2, ?_, ?_⟩⟩
      · simp only [Array.size_append, List.size_toArray, size_zeroCells, List.length_map, hbl]
        simp [Value.cells]
        omega
      · simp only [Array.toList_append, List.append_assoc]
        rw [← List.append_assoc, ← hl2]
        exact List.take_left

set_option maxRecDepth 100000 in
/-- append of a string onto a byte row of the call's own that is not empty, as an arm of the walk. -/
theorem app_str {w : World} {ops : Array Oper} {rest : List Oper} {o : Oper} {a : Act} {Q : Exit → Act → World → Prop} (hgd : o.guard = none) (d x : Operand)
    (ho : o.op = .call { callee := .builtin .append, args := #[d, x], argTypes := #[22, 9] })
    (B : Nat) (v : Value) (l : List Int) (hd : a.eval d = v) (hown : Own w B v l) (h0 : 0 < l.length) (s : ByteArray) (hx : a.eval x = .string s)
    (hlen : l.length + s.size ≤ 1000000000000) (hbase : B ≤ w.heap.size)
    (h : ∀ v' w', Own w' B v' (l ++ strInts s) → Below B w w' → wpList Tryd.prog ops Q rest (a.put o.dst v') w') : wpList Tryd.prog ops Q (o :: rest) a w :=
  wpList_plain hgd fun K hK => by
    obtain ⟨v', w', hrun, h2, h3⟩ := run_app_str w o.type B v l hown h0 s hlen hbase
    unfold Oper.wp execOp
    simp only [ho, resolve, invoke, builtin, Sem.run_bind, Sem.run_pure, Result.andThen_ok, List.map_toArray, List.map_cons, List.map_nil, hd, hx, hrun]
    exact hK _ _ (h v' w' h2 ((Below.refl B w).grown h3 hbase fun g hg => (hown.lt g hg).1))

set_option maxRecDepth 100000 in
/-- copy of a string into a row that is known whole, as an arm of the walk. -/
theorem copy_str {w : World} {ops : Array Oper} {rest : List Oper} {o : Oper} {a : Act} {Q : Exit → Act → World → Prop} (hgd : o.guard = none) (d x : Operand)
    (ho : o.op = .call { callee := .builtin .copy, args := #[d, x], argTypes := #[22, 9] })
    (g off dLen dCap : Nat) (s : ByteArray) (hd : a.eval d = .slice (some ⟨g, off, none⟩) dLen dCap) (hx : a.eval x = .string s)
    (cur : List Int) (hg : RowI w g cur) (hle : s.size ≤ dLen) (hfit : off + s.size ≤ cur.length)
    (B : Nat) (w0 : World) (hb : Below B w0 w) (hBg : B ≤ g)
    (h : ∀ w', RowI w' g (splice cur off (strInts s)) → Below B w0 w' → wpList Tryd.prog ops Q rest (a.put o.dst (.int .i64 s.size)) w') : wpList Tryd.prog ops Q (o :: rest) a w :=
  wpList_plain hgd fun K hK => by
    have hrun := run_copy_row_string (P := Tryd.prog) w 22 9 o.type 5 g off dLen dCap s (cur.map (Value.int .u8)).toArray 5 Tryd.underlying22 u8_size hg hle (by simpa using hfit)
    unfold Oper.wp execOp
    simp only [ho, resolve, invoke, builtin, Sem.run_bind, Sem.run_pure, Result.andThen_ok, List.map_toArray, List.map_cons, List.map_nil, hd, hx, hrun]
    refine hK _ _ (h _ ?_ (below_setRow hb hBg _))
    unfold RowI
    rw [setRow_heap w g _ _ 5 _ hg]
    congr 2
    rw [← splice_map, strInts_cells]
    simp [splice, byteCells_length]
end Go.Proofs.YtpmdlbbgljcloaaDoor
