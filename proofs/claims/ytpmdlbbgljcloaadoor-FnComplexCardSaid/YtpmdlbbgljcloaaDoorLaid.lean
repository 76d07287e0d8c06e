/- What the rows' condition on the listed package-level variables gives the walks: the two sentinels' cells; that the listed variables are kept; that the door's own heap meets it. Conditions: none. -/
import Derived.Test.YtpmdlbbgljcloaaDoorRows
import Derived.Test.YtpmdlbbgljcloaaDoorCode
import Derived.ProofKit
import Derived.OpenShut
import Derived.ChangeOld
import Derived.Below
import Derived.LaidMore
import Derived.OpenVars
import Derived.ChangeMade
import Derived.MakeChecks
import Derived.Stop.Joined
namespace Go.Proofs.YtpmdlbbgljcloaaDoor
open Go Go.ChangeShapes Go.WideShapes Go.ChangeAt Go.RowKit

theorem own : ownKnob Tryd.prog.godebug = none := by kernel_rfl
theorem laidOut : laidOutB Tryd.prog = true := by kernel_rfl

theorem gShort : Tryd.prog.globalNamed "loop.example/pub-g03057/pub/msgp.ErrShortBytes" = some 0 := by kernel_rfl
theorem gDeep : Tryd.prog.globalNamed "loop.example/pub-g03057/pub/msgp.ErrRecursion" = some 1 := by kernel_rfl

/-- A type of that name is that type. -/
def named1 (P : Program) (name : String) (T : TypeId) : Bool := (List.range P.types.size).all fun u => P.typeName? 3 u != some name || u == T
theorem of_named1 {P : Program} {name : String} {T u : TypeId} (h : named1 P name T = true) (hlt : u < P.types.size) (hu : P.typeName? 3 u = some name) : u = T := by
  have := List.all_eq_true.1 h u (List.mem_range.2 hlt)
  rw [hu] at this
  simpa using this

theorem lt_of_name {P : Program} {u : TypeId} {name : String} (hs : ∀ s : String, "*" ++ s ≠ name) (h : P.typeName? 3 u = some name) : u < P.types.size := by
  by_cases hu : u < P.types.size
  · exact hu
  · exfalso
    unfold Program.typeName? at h
    cases hi : P.info? u with
    | none => simp [hi] at h
    | some i =>
      have hb := Tables.info?_beyond hu hi
      simp only [hi] at h
      cases hd : i.desc <;> simp only [hd, TypeDesc.tableOnly] at h hb <;> try cases hb
      all_goals try cases h
      simp only [Option.map_eq_some_iff] at h
      obtain ⟨n', _, hn'⟩ := h
      exact hs n' hn'
theorem starShort (s : String) : "*" ++ s ≠ "loop.example/pub-g03057/pub/msgp.errShort" := fun h => by have := congrArg String.toList h; simp at this
theorem starDeep (s : String) : "*" ++ s ≠ "loop.example/pub-g03057/pub/msgp.errRecursion" := fun h => by have := congrArg String.toList h; simp at this

theorem nameShort : named1 Tryd.prog "loop.example/pub-g03057/pub/msgp.errShort" 242 = true := by kernel_rfl
theorem nameDeep : named1 Tryd.prog "loop.example/pub-g03057/pub/msgp.errRecursion" 243 = true := by kernel_rfl

theorem tShort : (Tryd.prog.globals[0]?).map (·.type) = some 77 := by kernel_rfl
theorem tDeep : (Tryd.prog.globals[1]?).map (·.type) = some 77 := by kernel_rfl
theorem cShort : Tryd.prog.cellsOf 242 = 0 := by kernel_rfl
theorem cDeep : Tryd.prog.cellsOf 243 = 0 := by kernel_rfl

set_option maxRecDepth 100000 in
/-- A variable of type error that reads as a struct of no field behind a name: its cell. -/
theorem cell_of_laid {W : World} {g : Nat} {n name : String} {T : TypeId} {fs : Array Field} {cs : Array Value} {fuel : Nat} {p : List MemPlace} (hg : Tryd.prog.globalNamed n = some g) (hv : W.var? Tryd.prog n = some cs)
    (hd : DataW.trod (fun _ => ()) Tryd.prog W 0 (fun _ => true) false fuel 77 cs.toList = some (.iface name (.agg []), p)) (hstar : ∀ s : String, "*" ++ s ≠ name) (h1 : named1 Tryd.prog name T = true) (hT : Tryd.prog.underlying T = some (.struct fs)) (hc : Tryd.prog.cellsOf T = 0)
    (hok : cs.size = 1 → ∀ u v, W.cell? ⟨g, 0, none⟩ = some (.iface u v) → Value.okWide Tryd.prog W .any 0 u v) : W.cell? ⟨g, 0, none⟩ = some (.iface T (.agg #[])) := by
  cases fuel with
  | zero => cases hd
  | succ fuel =>
    obtain ⟨l⟩ := cs
    have ue := Tryd.underlying77
    have key : ∀ u v, l = [.iface u v] → Tryd.prog.typeName? 3 u = some name → W.cell? ⟨g, 0, none⟩ = some (.iface T (.agg #[])) := by
      intro u v hl hn
      subst hl
      have hcell : W.cell? ⟨g, 0, none⟩ = some (.iface u v) := (World.var?_cell hg hv 0).trans rfl
      have hu : u < Tryd.prog.types.size := lt_of_name hstar hn
      obtain rfl := of_named1 h1 hu hn
      obtain ⟨cs, rfl, hcs⟩ := okWide_struct hT (hok rfl _ _ hcell)
      rw [hc] at hcs
      obtain rfl := Array.eq_empty_of_size_eq_zero hcs
      exact hcell
    rcases l with _ | ⟨x, _ | ⟨y, l⟩⟩
    · simp [DataW.trod, ue] at hd
    · cases x <;> try (simp [DataW.trod, ue] at hd; done)
      rename_i u v
      simp only [DataW.trod, ue] at hd
      cases hn : Tryd.prog.typeName? 3 u with
      | none => rw [hn] at hd; cases hd
      | some nm =>
        rw [hn] at hd
        refine key u v rfl (hn.trans ?_)
        simp only [Option.map_eq_some_iff, Prod.mk.injEq, DataW.iface.injEq] at hd
        obtain ⟨_, _, ⟨rfl, _⟩, _⟩ := hd
        rfl
    · simp [DataW.trod, ue] at hd

set_option maxRecDepth 100000 in
theorem glob_of_laid {rest : List (String × DataW Unit)} {W : World} (h : laidMet Tryd.prog (("loop.example/pub-g03057/pub/msgp.ErrShortBytes", .iface "loop.example/pub-g03057/pub/msgp.errShort" (.agg [])) :: ("loop.example/pub-g03057/pub/msgp.ErrRecursion", .iface "loop.example/pub-g03057/pub/msgp.errRecursion" (.agg [])) :: rest) W) : Glob W := by
  obtain ⟨ps, ⟨g0, t0, cs0, f0, p0, q0, hg0, ht0, hv0, hd0, ⟨g1, t1, cs1, f1, p1, q1, hg1, ht1, hv1, hd1, _, e1⟩, e0⟩, _, hok⟩ := h
  obtain rfl := Option.some.inj (gShort.symm.trans hg0)
  obtain rfl := Option.some.inj (gDeep.symm.trans hg1)
  obtain rfl := Option.some.inj (tShort.symm.trans ht0)
  obtain rfl := Option.some.inj (tDeep.symm.trans ht1)
  refine ⟨cell_of_laid hg0 hv0 hd0 starShort nameShort Tryd.underlying242 cShort fun hs => (hok _ 0 ?_).2, cell_of_laid hg1 hv1 hd1 starDeep nameDeep Tryd.underlying243 cDeep fun hs => (hok _ 0 ?_).2⟩
  · rw [e0, hs]; simp [MemPlace.row]
  · rw [e0, e1, hs]; simp [MemPlace.row]

theorem vars_two {H : Type} {enc : TypeId × Value → H} {P : Program} {w : World} {sp : Nat → Bool} {n1 n2 : String} {gs : List (DataW H)} {q : List MemPlace} (h : DataW.TrodVars enc P w sp [n1, n2] gs q) : ∃ x y, gs = [x, y] := by
  rcases gs with _ | ⟨a, _ | ⟨b, _ | ⟨c, gs⟩⟩⟩ <;> simp [DataW.TrodVars] at h ⊢
theorem vars_three {H : Type} {enc : TypeId × Value → H} {P : Program} {w : World} {sp : Nat → Bool} {n1 n2 n3 : String} {gs : List (DataW H)} {q : List MemPlace} (h : DataW.TrodVars enc P w sp [n1, n2, n3] gs q) : ∃ x y z, gs = [x, y, z] := by
  rcases gs with _ | ⟨a, _ | ⟨b, _ | ⟨c, _ | ⟨d, gs⟩⟩⟩⟩ <;> simp [DataW.TrodVars] at h ⊢
end Go.Proofs.YtpmdlbbgljcloaaDoor
