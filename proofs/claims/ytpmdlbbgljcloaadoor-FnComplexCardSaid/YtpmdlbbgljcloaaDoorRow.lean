/- A byte row of the call's own that is known whole: made, written at a place, copied into, and read as a list. Conditions: none. -/
import Derived.Test.YtpmdlbbgljcloaaDoorPure
import Derived.Laws.CopyOwn
namespace Go.Proofs.YtpmdlbbgljcloaaDoor
open Go Go.RowKit
set_option linter.unusedVariables false

/-- The row g holds these numbers. -/
def RowI (w : World) (g : Nat) (cur : List Int) : Prop := w.heap[g]? = some (.cells (cur.map (Value.int .u8)).toArray 5 (0, 0))

theorem zer_eq (m : Nat) : zer m = ((List.replicate m (0 : Int)).map (Value.int .u8)).toArray := by
  apply Array.toList_inj.1
  rw [zer_toList]
  simp
theorem row_new (w : World) (m : Nat) : RowI (w.alloc (.cells (zer m) 5)) w.heap.size (List.replicate m 0) := by
  unfold RowI
  rw [← zer_eq]
  exact heap_alloc_new w _
theorem RowI.lt {w : World} {g : Nat} {cur : List Int} (h : RowI w g cur) : g < w.heap.size := by
  rcases Nat.lt_or_ge g w.heap.size with h' | h'
  · exact h'
  · unfold RowI at h; rw [Array.getElem?_eq_none h'] at h; cases h
theorem RowI.kept {w w' : World} {g : Nat} {cur : List Int} (h : RowI w g cur) (hb : Below w.heap.size w w') : RowI w' g cur := by
  unfold RowI
  rw [hb.block g h.lt]
  exact h
theorem RowI.cell {w : World} {g : Nat} {cur : List Int} (h : RowI w g cur) (j : Nat) (hj : j < cur.length) : w.cell? ⟨g, j, none⟩ = some (.int .u8 (at_ cur j)) := by
  unfold RowI at h
  simp only [World.cell?, h]
  unfold at_
  simp [hj, List.getD_eq_getElem?_getD]
theorem RowI.frozen {w : World} {g : Nat} {cur : List Int} (h : RowI w g cur) (j : Nat) : w.frozen? ⟨g, j, none⟩ = false := by
  unfold RowI at h
  simp [World.frozen?, h]
theorem RowI.set {w : World} {g : Nat} {cur : List Int} (h : RowI w g cur) (j : Nat) (x : Int) : RowI (w.setCell ⟨g, j, none⟩ (.int .u8 x)) g (cur.set j x) := by
  unfold RowI at h ⊢
  rw [setCell_eq_setRow w g j _ 5 (0, 0) _ h, setRow_heap w g _ _ 5 _ h]
  congr 2
  simp
theorem RowI.rd {w : World} {g : Nat} {cur : List Int} (h : RowI w g cur) (hb : Byts cur) : Rd w (some ⟨g, 0, none⟩) cur :=
  ⟨hb, fun _ => ⟨g, 0, rfl, h.lt, fun j hj => by rw [Nat.zero_add]; exact h.cell j hj⟩⟩
theorem RowI.own {w : World} {g B n : Nat} {cur : List Int} (h : RowI w g cur) (hB : B ≤ g) (hn : cur.length = n) (hm : n ≤ 1000000000000) : Own w B (.slice (some ⟨g, 0, none⟩) n n) cur := by
  subst hn
  refine ⟨by simp, .inr ⟨g, cur.length, (cur.map (Value.int .u8)).toArray, rfl, hB, h, Nat.le_refl _, by simp only [maxLen]; omega, by simp, List.take_of_length_le (by simp)⟩⟩

theorem splice_map {α β : Type} (f : α → β) (L K : List α) (off : Nat) : splice (L.map f) off (K.map f) = (splice L off K).map f := by
  simp [splice, List.map_take, List.map_drop]

/-- copy of bytes into a row that is known whole, as an arm of the walk. -/
theorem copy_rd {w : World} {ops : Array Oper} {rest : List Oper} {o : Oper} {a : Act} {Q : Exit → Act → World → Prop} (hgd : o.guard = none) (d s : Operand)
    (ho : o.op = .call { callee := .builtin .copy, args := #[d, s], argTypes := #[22, 22] })
    (dp sp : Option Addr) (dLen dCap sLen sCap : Nat) (hd : a.eval d = .slice dp dLen dCap) (hs : a.eval s = .slice sp sLen sCap)
    (g off : Nat) (cur : List Int) (hg : RowI w g cur) (k : List Int) (hk : k.length = Nat.min sLen dLen) (hp : 0 < k.length → dp = some ⟨g, off, none⟩) (hfit : off + k.length ≤ cur.length) (hr : Rd w sp k)
    (B : Nat) (w0 : World) (hb : Below B w0 w) (hBg : B ≤ g)
    (h : ∀ w', RowI w' g (splice cur off k) → Below B w0 w' → wpList Tryd.prog ops Q rest (a.put o.dst (.int .i64 k.length)) w') : wpList Tryd.prog ops Q (o :: rest) a w := by
  refine wpList_copy_splice hgd d s 22 22 ho 5 Tryd.underlying22 u8_size dp sp dLen dCap sLen sCap hd hs g off (cur.map (Value.int .u8)) 5 hg (k.map (Value.int .u8)) (by simpa using hk) (fun h0 => ?_) (by simpa using hfit) (ints_oneCell _ _) B w0 hb hBg fun w' hw' hb' => ?_
  · have h0' : 0 < k.length := by simpa using h0
    obtain ⟨g', o', e, -, hc⟩ := hr.2 h0'
    refine ⟨hp h0', ⟨g', o', none⟩, e, fun j v hv => ?_⟩
    obtain ⟨hj, rfl⟩ := map_at j v hv
    rw [add_plain]
    exact hc j hj
  · have e := hw'.out
    rw [splice_map] at e
    have := h w' e hb'
    simpa [goInt] using this
end Go.Proofs.YtpmdlbbgljcloaaDoor
