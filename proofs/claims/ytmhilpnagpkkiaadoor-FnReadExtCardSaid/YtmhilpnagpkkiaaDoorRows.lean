/-
  NARROWER THAN 'FOR EVERY INPUT', by the rows' own cells (each row's printed sentence says how): FnReadSmall: ifaces, laid · FnSkip: ifaces, laid · FnSkipCut: ifaces, laid · FnReadText: ifaces, laid · FnReadBin: ifaces, laid · FnReadExt: ifaces, laid · FnReadHeads: ifaces, laid · FnReadInt: ifaces, laid · FnReadUint: ifaces, laid.
  DERIVED. THE GIVEN ROWS OF THIS SEAT. 9 by the template 'for every input the law returns true; each argument reads behind the call as it read before'; 0 by the template 'total and deterministic' (their statements: YtmhilpnagpkkiaaDoorTotals.lean).
  GIVEN WITH THE SEED: the statements are not yours to turn. If you find one false, say at which input.
  Laid BY PROGRAM, IN A SANDBOX (cutbox-rows.mjs): the forced cells as the released guide's own fill.sh prints them over the translation 600e5369e26d0ece… (all of the seat's roots in one cut). By AI agents, Wed Nov 11 2026. No macro, syntax, notation, axiom, sorry.
-/
import Derived.Test.YtmhilpnagpkkiaaDoorChecked
import GoSem.Claim
import GoSem.ClaimJoined
import GoSem.ClaimMapViews
import Derived.JoinedTies
import Derived.KernelRfl
namespace Go.Proofs.YtmhilpnagpkkiaaDoor
/- THE CELL 'sum', in the pinned program and in every row, IS THE sha256 OF THE DUMP (.gsa) THAT YtmhilpnagpkkiaaDoorProg.lean LOADS. Nothing in Lean hashes anything: it is a label: what it is worth is what the hold of that sum in a sandbox is worth. -/
noncomputable def Tryd.pinned : Pinned := { name := "ytmhilpnagpkkiaadoor", sum := "600e5369e26d0ecedc005774e22debd8ad5885c4a0ab09f4d372e4f9fb0a9302", checked := Tryd.checked }
namespace Rows
def none {H : Type} : Left H := { results := [], args := [] }

/- WHAT THE LISTED PACKAGE-LEVEL VARIABLES READ AS WHEN THE CALL BEGINS. Each datum BY PROGRAM (the guide's laid-datum.mjs) off the statement by which the dump's own 'gosem.cut.vars' lays the variable. In a bare row this is a premise. The card (YtmhilpnagpkkiaaDoorCards.lean) ties it to the program's text. -/
def laid_loop_example_pub_g03057_pub_msgp_ErrShortBytes {H : Type} : DataW H := .iface "loop.example/pub-g03057/pub/msgp.errShort" (.agg [])
def laid_loop_example_pub_g03057_pub_msgp_ErrRecursion {H : Type} : DataW H := .iface "loop.example/pub-g03057/pub/msgp.errRecursion" (.agg [])
def laid_loop_example_pub_g03057_pub_msgp_fatal {H : Type} : DataW H := .iface "loop.example/pub-g03057/pub/msgp.errFatal" (.agg [.lit (.string [])])

/-- 'laws.FnReadSmall': WHATEVER THE INPUT: true; the input reads as it did. -/
def fnReadSmallSpec : ChangeSpec := { name := "fnReadSmall", vars := ["loop.example/pub-g03057/pub/msgp.ErrShortBytes", "loop.example/pub-g03057/pub/msgp.ErrRecursion"], fn := fun _ => fun
  | [d, g1, g2] => { results := [.lit (.bool true)], args := [d], vars := [g1, g2] }
  | _ => none }
def fnReadSmallRow : OpenClaim := { program := "ytmhilpnagpkkiaadoor", sum := "600e5369e26d0ecedc005774e22debd8ad5885c4a0ab09f4d372e4f9fb0a9302", func := "loop.example/pub-g03057/laws.FnReadSmall", spec := "fnReadSmall", inPlace := ["internal/reflectlite.TypeOf"], unfollowed := true, recurses := true, named := ["loop.example/pub-g03057/pub/msgp.ErrShortBytes", "loop.example/pub-g03057/pub/msgp.ErrRecursion"], ifaces := true, apart := false, laid := [("loop.example/pub-g03057/pub/msgp.ErrShortBytes", laid_loop_example_pub_g03057_pub_msgp_ErrShortBytes), ("loop.example/pub-g03057/pub/msgp.ErrRecursion", laid_loop_example_pub_g03057_pub_msgp_ErrRecursion)] }
def FnReadSmallSaid : Prop := fnReadSmallRow.holds Tryd.pinned (OpenSpec.ofChange fnReadSmallSpec)

/-- ITS FALSE NEIGHBOUR: 'it returns false'. Refute it at one input. -/
def fnReadSmallWrong : ChangeSpec := { name := "fnReadSmall", vars := ["loop.example/pub-g03057/pub/msgp.ErrShortBytes", "loop.example/pub-g03057/pub/msgp.ErrRecursion"], fn := fun _ => fun
  | [d, g1, g2] => { results := [.lit (.bool false)], args := [d], vars := [g1, g2] }
  | _ => none }
def FnReadSmallWrongFalsely : Prop := fnReadSmallRow.holds Tryd.pinned (OpenSpec.ofChange fnReadSmallWrong)

/-- 'laws.FnSkip': WHATEVER THE INPUT: true; the input reads as it did. -/
def fnSkipSpec : ChangeSpec := { name := "fnSkip", vars := ["loop.example/pub-g03057/pub/msgp.ErrRecursion", "loop.example/pub-g03057/pub/msgp.ErrShortBytes", "loop.example/pub-g03057/pub/msgp.fatal"], fn := fun _ => fun
  | [d, g1, g2, g3] => { results := [.lit (.bool true)], args := [d], vars := [g1, g2, g3] }
  | _ => none }
def fnSkipRow : OpenClaim := { program := "ytmhilpnagpkkiaadoor", sum := "600e5369e26d0ecedc005774e22debd8ad5885c4a0ab09f4d372e4f9fb0a9302", func := "loop.example/pub-g03057/laws.FnSkip", spec := "fnSkip", inPlace := ["internal/reflectlite.TypeOf"], unfollowed := true, recurses := true, named := ["loop.example/pub-g03057/pub/msgp.ErrRecursion", "loop.example/pub-g03057/pub/msgp.ErrShortBytes", "encoding/binary.BigEndian", "loop.example/pub-g03057/pub/msgp.fatal"], ifaces := true, apart := false, laid := [("loop.example/pub-g03057/pub/msgp.ErrShortBytes", laid_loop_example_pub_g03057_pub_msgp_ErrShortBytes), ("loop.example/pub-g03057/pub/msgp.ErrRecursion", laid_loop_example_pub_g03057_pub_msgp_ErrRecursion), ("loop.example/pub-g03057/pub/msgp.fatal", laid_loop_example_pub_g03057_pub_msgp_fatal)] }
def FnSkipSaid : Prop := fnSkipRow.holds Tryd.pinned (OpenSpec.ofChange fnSkipSpec)

/-- ITS FALSE NEIGHBOUR: 'it returns false'. Refute it at one input. -/
def fnSkipWrong : ChangeSpec := { name := "fnSkip", vars := ["loop.example/pub-g03057/pub/msgp.ErrRecursion", "loop.example/pub-g03057/pub/msgp.ErrShortBytes", "loop.example/pub-g03057/pub/msgp.fatal"], fn := fun _ => fun
  | [d, g1, g2, g3] => { results := [.lit (.bool false)], args := [d], vars := [g1, g2, g3] }
  | _ => none }
def FnSkipWrongFalsely : Prop := fnSkipRow.holds Tryd.pinned (OpenSpec.ofChange fnSkipWrong)

/-- 'laws.FnSkipCut': WHATEVER THE INPUT: true; the input reads as it did. -/
def fnSkipCutSpec : ChangeSpec := { name := "fnSkipCut", vars := ["loop.example/pub-g03057/pub/msgp.ErrRecursion", "loop.example/pub-g03057/pub/msgp.ErrShortBytes", "loop.example/pub-g03057/pub/msgp.fatal"], fn := fun _ => fun
  | [d1, d2, g1, g2, g3] => { results := [.lit (.bool true)], args := [d1, d2], vars := [g1, g2, g3] }
  | _ => none }
def fnSkipCutRow : OpenClaim := { program := "ytmhilpnagpkkiaadoor", sum := "600e5369e26d0ecedc005774e22debd8ad5885c4a0ab09f4d372e4f9fb0a9302", func := "loop.example/pub-g03057/laws.FnSkipCut", spec := "fnSkipCut", inPlace := ["internal/reflectlite.TypeOf"], unfollowed := true, recurses := true, named := ["loop.example/pub-g03057/pub/msgp.ErrRecursion", "loop.example/pub-g03057/pub/msgp.ErrShortBytes", "encoding/binary.BigEndian", "loop.example/pub-g03057/pub/msgp.fatal"], ifaces := true, apart := false, laid := [("loop.example/pub-g03057/pub/msgp.ErrShortBytes", laid_loop_example_pub_g03057_pub_msgp_ErrShortBytes), ("loop.example/pub-g03057/pub/msgp.ErrRecursion", laid_loop_example_pub_g03057_pub_msgp_ErrRecursion), ("loop.example/pub-g03057/pub/msgp.fatal", laid_loop_example_pub_g03057_pub_msgp_fatal)] }
def FnSkipCutSaid : Prop := fnSkipCutRow.holds Tryd.pinned (OpenSpec.ofChange fnSkipCutSpec)

/-- ITS FALSE NEIGHBOUR: 'it returns false'. Refute it at one input. -/
def fnSkipCutWrong : ChangeSpec := { name := "fnSkipCut", vars := ["loop.example/pub-g03057/pub/msgp.ErrRecursion", "loop.example/pub-g03057/pub/msgp.ErrShortBytes", "loop.example/pub-g03057/pub/msgp.fatal"], fn := fun _ => fun
  | [d1, d2, g1, g2, g3] => { results := [.lit (.bool false)], args := [d1, d2], vars := [g1, g2, g3] }
  | _ => none }
def FnSkipCutWrongFalsely : Prop := fnSkipCutRow.holds Tryd.pinned (OpenSpec.ofChange fnSkipCutWrong)

/-- 'laws.FnReadText': WHATEVER THE INPUT: true; the input reads as it did. -/
def fnReadTextSpec : ChangeSpec := { name := "fnReadText", vars := ["loop.example/pub-g03057/pub/msgp.ErrShortBytes", "loop.example/pub-g03057/pub/msgp.ErrRecursion"], fn := fun _ => fun
  | [d, g1, g2] => { results := [.lit (.bool true)], args := [d], vars := [g1, g2] }
  | _ => none }
def fnReadTextRow : OpenClaim := { program := "ytmhilpnagpkkiaadoor", sum := "600e5369e26d0ecedc005774e22debd8ad5885c4a0ab09f4d372e4f9fb0a9302", func := "loop.example/pub-g03057/laws.FnReadText", spec := "fnReadText", inPlace := ["internal/reflectlite.TypeOf"], unfollowed := true, recurses := true, named := ["loop.example/pub-g03057/pub/msgp.ErrShortBytes", "encoding/binary.BigEndian", "loop.example/pub-g03057/pub/msgp.ErrRecursion"], ifaces := true, apart := false, laid := [("loop.example/pub-g03057/pub/msgp.ErrShortBytes", laid_loop_example_pub_g03057_pub_msgp_ErrShortBytes), ("loop.example/pub-g03057/pub/msgp.ErrRecursion", laid_loop_example_pub_g03057_pub_msgp_ErrRecursion)] }
def FnReadTextSaid : Prop := fnReadTextRow.holds Tryd.pinned (OpenSpec.ofChange fnReadTextSpec)

/-- ITS FALSE NEIGHBOUR: 'it returns false'. Refute it at one input. -/
def fnReadTextWrong : ChangeSpec := { name := "fnReadText", vars := ["loop.example/pub-g03057/pub/msgp.ErrShortBytes", "loop.example/pub-g03057/pub/msgp.ErrRecursion"], fn := fun _ => fun
  | [d, g1, g2] => { results := [.lit (.bool false)], args := [d], vars := [g1, g2] }
  | _ => none }
def FnReadTextWrongFalsely : Prop := fnReadTextRow.holds Tryd.pinned (OpenSpec.ofChange fnReadTextWrong)

/-- 'laws.FnReadBin': WHATEVER THE INPUT: true; the input reads as it did. -/
def fnReadBinSpec : ChangeSpec := { name := "fnReadBin", vars := ["loop.example/pub-g03057/pub/msgp.ErrShortBytes", "loop.example/pub-g03057/pub/msgp.ErrRecursion"], fn := fun _ => fun
  | [d, g1, g2] => { results := [.lit (.bool true)], args := [d], vars := [g1, g2] }
  | _ => none }
def fnReadBinRow : OpenClaim := { program := "ytmhilpnagpkkiaadoor", sum := "600e5369e26d0ecedc005774e22debd8ad5885c4a0ab09f4d372e4f9fb0a9302", func := "loop.example/pub-g03057/laws.FnReadBin", spec := "fnReadBin", inPlace := ["internal/reflectlite.TypeOf"], unfollowed := true, recurses := true, named := ["loop.example/pub-g03057/pub/msgp.ErrShortBytes", "encoding/binary.BigEndian", "loop.example/pub-g03057/pub/msgp.ErrRecursion"], ifaces := true, apart := false, laid := [("loop.example/pub-g03057/pub/msgp.ErrShortBytes", laid_loop_example_pub_g03057_pub_msgp_ErrShortBytes), ("loop.example/pub-g03057/pub/msgp.ErrRecursion", laid_loop_example_pub_g03057_pub_msgp_ErrRecursion)] }
def FnReadBinSaid : Prop := fnReadBinRow.holds Tryd.pinned (OpenSpec.ofChange fnReadBinSpec)

/-- ITS FALSE NEIGHBOUR: 'it returns false'. Refute it at one input. -/
def fnReadBinWrong : ChangeSpec := { name := "fnReadBin", vars := ["loop.example/pub-g03057/pub/msgp.ErrShortBytes", "loop.example/pub-g03057/pub/msgp.ErrRecursion"], fn := fun _ => fun
  | [d, g1, g2] => { results := [.lit (.bool false)], args := [d], vars := [g1, g2] }
  | _ => none }
def FnReadBinWrongFalsely : Prop := fnReadBinRow.holds Tryd.pinned (OpenSpec.ofChange fnReadBinWrong)

/-- 'laws.FnReadExt': WHATEVER THE INPUT: true; the input reads as it did. -/
def fnReadExtSpec : ChangeSpec := { name := "fnReadExt", vars := ["loop.example/pub-g03057/pub/msgp.ErrShortBytes", "loop.example/pub-g03057/pub/msgp.ErrRecursion"], fn := fun _ => fun
  | [d1, d2, g1, g2] => { results := [.lit (.bool true)], args := [d1, d2], vars := [g1, g2] }
  | _ => none }
def fnReadExtRow : OpenClaim := { program := "ytmhilpnagpkkiaadoor", sum := "600e5369e26d0ecedc005774e22debd8ad5885c4a0ab09f4d372e4f9fb0a9302", func := "loop.example/pub-g03057/laws.FnReadExt", spec := "fnReadExt", inPlace := ["internal/reflectlite.TypeOf"], unfollowed := true, recurses := true, named := ["loop.example/pub-g03057/pub/msgp.ErrShortBytes", "encoding/binary.BigEndian", "loop.example/pub-g03057/pub/msgp.ErrRecursion"], ifaces := true, apart := false, laid := [("loop.example/pub-g03057/pub/msgp.ErrShortBytes", laid_loop_example_pub_g03057_pub_msgp_ErrShortBytes), ("loop.example/pub-g03057/pub/msgp.ErrRecursion", laid_loop_example_pub_g03057_pub_msgp_ErrRecursion)] }
def FnReadExtSaid : Prop := fnReadExtRow.holds Tryd.pinned (OpenSpec.ofChange fnReadExtSpec)

/-- ITS FALSE NEIGHBOUR: 'it returns false'. Refute it at one input. -/
def fnReadExtWrong : ChangeSpec := { name := "fnReadExt", vars := ["loop.example/pub-g03057/pub/msgp.ErrShortBytes", "loop.example/pub-g03057/pub/msgp.ErrRecursion"], fn := fun _ => fun
  | [d1, d2, g1, g2] => { results := [.lit (.bool false)], args := [d1, d2], vars := [g1, g2] }
  | _ => none }
def FnReadExtWrongFalsely : Prop := fnReadExtRow.holds Tryd.pinned (OpenSpec.ofChange fnReadExtWrong)

/-- 'laws.FnReadHeads': WHATEVER THE INPUT: true; the input reads as it did. -/
def fnReadHeadsSpec : ChangeSpec := { name := "fnReadHeads", vars := ["loop.example/pub-g03057/pub/msgp.ErrShortBytes", "loop.example/pub-g03057/pub/msgp.ErrRecursion"], fn := fun _ => fun
  | [d, g1, g2] => { results := [.lit (.bool true)], args := [d], vars := [g1, g2] }
  | _ => none }
def fnReadHeadsRow : OpenClaim := { program := "ytmhilpnagpkkiaadoor", sum := "600e5369e26d0ecedc005774e22debd8ad5885c4a0ab09f4d372e4f9fb0a9302", func := "loop.example/pub-g03057/laws.FnReadHeads", spec := "fnReadHeads", inPlace := ["internal/reflectlite.TypeOf"], unfollowed := true, recurses := true, named := ["loop.example/pub-g03057/pub/msgp.ErrShortBytes", "encoding/binary.BigEndian", "loop.example/pub-g03057/pub/msgp.ErrRecursion"], ifaces := true, apart := false, laid := [("loop.example/pub-g03057/pub/msgp.ErrShortBytes", laid_loop_example_pub_g03057_pub_msgp_ErrShortBytes), ("loop.example/pub-g03057/pub/msgp.ErrRecursion", laid_loop_example_pub_g03057_pub_msgp_ErrRecursion)] }
def FnReadHeadsSaid : Prop := fnReadHeadsRow.holds Tryd.pinned (OpenSpec.ofChange fnReadHeadsSpec)

/-- ITS FALSE NEIGHBOUR: 'it returns false'. Refute it at one input. -/
def fnReadHeadsWrong : ChangeSpec := { name := "fnReadHeads", vars := ["loop.example/pub-g03057/pub/msgp.ErrShortBytes", "loop.example/pub-g03057/pub/msgp.ErrRecursion"], fn := fun _ => fun
  | [d, g1, g2] => { results := [.lit (.bool false)], args := [d], vars := [g1, g2] }
  | _ => none }
def FnReadHeadsWrongFalsely : Prop := fnReadHeadsRow.holds Tryd.pinned (OpenSpec.ofChange fnReadHeadsWrong)

/-- 'laws.FnReadInt': WHATEVER THE INPUT: true; the input reads as it did. -/
def fnReadIntSpec : ChangeSpec := { name := "fnReadInt", vars := ["loop.example/pub-g03057/pub/msgp.ErrShortBytes", "loop.example/pub-g03057/pub/msgp.ErrRecursion"], fn := fun _ => fun
  | [d1, d2, g1, g2] => { results := [.lit (.bool true)], args := [d1, d2], vars := [g1, g2] }
  | _ => none }
def fnReadIntRow : OpenClaim := { program := "ytmhilpnagpkkiaadoor", sum := "600e5369e26d0ecedc005774e22debd8ad5885c4a0ab09f4d372e4f9fb0a9302", func := "loop.example/pub-g03057/laws.FnReadInt", spec := "fnReadInt", inPlace := ["internal/reflectlite.TypeOf"], unfollowed := true, recurses := true, named := ["loop.example/pub-g03057/pub/msgp.ErrShortBytes", "encoding/binary.BigEndian", "loop.example/pub-g03057/pub/msgp.ErrRecursion"], ifaces := true, apart := false, laid := [("loop.example/pub-g03057/pub/msgp.ErrShortBytes", laid_loop_example_pub_g03057_pub_msgp_ErrShortBytes), ("loop.example/pub-g03057/pub/msgp.ErrRecursion", laid_loop_example_pub_g03057_pub_msgp_ErrRecursion)] }
def FnReadIntSaid : Prop := fnReadIntRow.holds Tryd.pinned (OpenSpec.ofChange fnReadIntSpec)

/-- ITS FALSE NEIGHBOUR: 'it returns false'. Refute it at one input. -/
def fnReadIntWrong : ChangeSpec := { name := "fnReadInt", vars := ["loop.example/pub-g03057/pub/msgp.ErrShortBytes", "loop.example/pub-g03057/pub/msgp.ErrRecursion"], fn := fun _ => fun
  | [d1, d2, g1, g2] => { results := [.lit (.bool false)], args := [d1, d2], vars := [g1, g2] }
  | _ => none }
def FnReadIntWrongFalsely : Prop := fnReadIntRow.holds Tryd.pinned (OpenSpec.ofChange fnReadIntWrong)

/-- 'laws.FnReadUint': WHATEVER THE INPUT: true; the input reads as it did. -/
def fnReadUintSpec : ChangeSpec := { name := "fnReadUint", vars := ["loop.example/pub-g03057/pub/msgp.ErrShortBytes", "loop.example/pub-g03057/pub/msgp.ErrRecursion"], fn := fun _ => fun
  | [d1, d2, g1, g2] => { results := [.lit (.bool true)], args := [d1, d2], vars := [g1, g2] }
  | _ => none }
def fnReadUintRow : OpenClaim := { program := "ytmhilpnagpkkiaadoor", sum := "600e5369e26d0ecedc005774e22debd8ad5885c4a0ab09f4d372e4f9fb0a9302", func := "loop.example/pub-g03057/laws.FnReadUint", spec := "fnReadUint", inPlace := ["internal/reflectlite.TypeOf"], unfollowed := true, recurses := true, named := ["loop.example/pub-g03057/pub/msgp.ErrShortBytes", "encoding/binary.BigEndian", "loop.example/pub-g03057/pub/msgp.ErrRecursion"], ifaces := true, apart := false, laid := [("loop.example/pub-g03057/pub/msgp.ErrShortBytes", laid_loop_example_pub_g03057_pub_msgp_ErrShortBytes), ("loop.example/pub-g03057/pub/msgp.ErrRecursion", laid_loop_example_pub_g03057_pub_msgp_ErrRecursion)] }
def FnReadUintSaid : Prop := fnReadUintRow.holds Tryd.pinned (OpenSpec.ofChange fnReadUintSpec)

/-- ITS FALSE NEIGHBOUR: 'it returns false'. Refute it at one input. -/
def fnReadUintWrong : ChangeSpec := { name := "fnReadUint", vars := ["loop.example/pub-g03057/pub/msgp.ErrShortBytes", "loop.example/pub-g03057/pub/msgp.ErrRecursion"], fn := fun _ => fun
  | [d1, d2, g1, g2] => { results := [.lit (.bool false)], args := [d1, d2], vars := [g1, g2] }
  | _ => none }
def FnReadUintWrongFalsely : Prop := fnReadUintRow.holds Tryd.pinned (OpenSpec.ofChange fnReadUintWrong)

/- THE SECOND FORM. 'bulk': how many values and letters a reading holds, each counted each time it is reached (what is shared counts as often as it is met; a slice's spare places count too). A statement '..UptoSaid' is the law's where the arguments, and the package variables that the reading takes, are together of bulk at most 1048576: NARROWER than '..Said'. Prove '..Said' where nothing that the law and all that it calls make is longer than what came in: it says more and counts as full. Else prove '..UptoSaid'. A law counts once. -/
mutual
def uptoBulk {H : Type} : DataW H → Nat
  | .lit (.string bytes) => bytes.length + 1
  | .lit _ => 1
  | .nil => 1
  | .ptr d => uptoBulk d + 1
  | .slice elems spare => uptoBulkAll elems + uptoBulkAll spare + 1
  | .agg parts => uptoBulkAll parts + 1
  | .iface _ d => uptoBulk d + 1
  | .map entries => uptoBulkEntries entries + 1
  | .held _ => 1
def uptoBulkAll {H : Type} : List (DataW H) → Nat
  | [] => 0
  | d :: r => uptoBulk d + uptoBulkAll r
def uptoBulkEntries {H : Type} : List (Lit × DataW H) → Nat
  | [] => 0
  | x :: r => uptoBulkEntry x + uptoBulkEntries r
def uptoBulkEntry {H : Type} : Lit × DataW H → Nat
  | (.string bytes, d) => bytes.length + uptoBulk d + 1
  | (_, d) => uptoBulk d + 1
 end
def uptoSmall : (H : Type) → List (DataW H) → Bool := fun _ ds => decide (uptoBulkAll ds ≤ 1048576)
def OpenSpec.upto (s : _root_.Go.ChangeSpec) : _root_.Go.OpenSpec := { _root_.Go.OpenSpec.ofChange s with cond := some uptoSmall }

/-- 'laws.FnReadSmall', WHERE WHAT IT READS IS OF BULK AT MOST 1048576: true; the input reads as it did. -/
def fnReadSmallUptoRow : OpenClaim := { program := "ytmhilpnagpkkiaadoor", sum := "600e5369e26d0ecedc005774e22debd8ad5885c4a0ab09f4d372e4f9fb0a9302", func := "loop.example/pub-g03057/laws.FnReadSmall", spec := "fnReadSmall", inPlace := ["internal/reflectlite.TypeOf"], unfollowed := true, recurses := true, named := ["loop.example/pub-g03057/pub/msgp.ErrShortBytes", "loop.example/pub-g03057/pub/msgp.ErrRecursion"], ifaces := true, apart := false, laid := [("loop.example/pub-g03057/pub/msgp.ErrShortBytes", laid_loop_example_pub_g03057_pub_msgp_ErrShortBytes), ("loop.example/pub-g03057/pub/msgp.ErrRecursion", laid_loop_example_pub_g03057_pub_msgp_ErrRecursion)], narrowed := true }
def FnReadSmallUptoSaid : Prop := fnReadSmallUptoRow.holds Tryd.pinned (OpenSpec.upto fnReadSmallSpec)

/-- 'laws.FnSkip', WHERE WHAT IT READS IS OF BULK AT MOST 1048576: true; the input reads as it did. -/
def fnSkipUptoRow : OpenClaim := { program := "ytmhilpnagpkkiaadoor", sum := "600e5369e26d0ecedc005774e22debd8ad5885c4a0ab09f4d372e4f9fb0a9302", func := "loop.example/pub-g03057/laws.FnSkip", spec := "fnSkip", inPlace := ["internal/reflectlite.TypeOf"], unfollowed := true, recurses := true, named := ["loop.example/pub-g03057/pub/msgp.ErrRecursion", "loop.example/pub-g03057/pub/msgp.ErrShortBytes", "encoding/binary.BigEndian", "loop.example/pub-g03057/pub/msgp.fatal"], ifaces := true, apart := false, laid := [("loop.example/pub-g03057/pub/msgp.ErrShortBytes", laid_loop_example_pub_g03057_pub_msgp_ErrShortBytes), ("loop.example/pub-g03057/pub/msgp.ErrRecursion", laid_loop_example_pub_g03057_pub_msgp_ErrRecursion), ("loop.example/pub-g03057/pub/msgp.fatal", laid_loop_example_pub_g03057_pub_msgp_fatal)], narrowed := true }
def FnSkipUptoSaid : Prop := fnSkipUptoRow.holds Tryd.pinned (OpenSpec.upto fnSkipSpec)

/-- 'laws.FnSkipCut', WHERE WHAT IT READS IS OF BULK AT MOST 1048576: true; the input reads as it did. -/
def fnSkipCutUptoRow : OpenClaim := { program := "ytmhilpnagpkkiaadoor", sum := "600e5369e26d0ecedc005774e22debd8ad5885c4a0ab09f4d372e4f9fb0a9302", func := "loop.example/pub-g03057/laws.FnSkipCut", spec := "fnSkipCut", inPlace := ["internal/reflectlite.TypeOf"], unfollowed := true, recurses := true, named := ["loop.example/pub-g03057/pub/msgp.ErrRecursion", "loop.example/pub-g03057/pub/msgp.ErrShortBytes", "encoding/binary.BigEndian", "loop.example/pub-g03057/pub/msgp.fatal"], ifaces := true, apart := false, laid := [("loop.example/pub-g03057/pub/msgp.ErrShortBytes", laid_loop_example_pub_g03057_pub_msgp_ErrShortBytes), ("loop.example/pub-g03057/pub/msgp.ErrRecursion", laid_loop_example_pub_g03057_pub_msgp_ErrRecursion), ("loop.example/pub-g03057/pub/msgp.fatal", laid_loop_example_pub_g03057_pub_msgp_fatal)], narrowed := true }
def FnSkipCutUptoSaid : Prop := fnSkipCutUptoRow.holds Tryd.pinned (OpenSpec.upto fnSkipCutSpec)

/-- 'laws.FnReadText', WHERE WHAT IT READS IS OF BULK AT MOST 1048576: true; the input reads as it did. -/
def fnReadTextUptoRow : OpenClaim := { program := "ytmhilpnagpkkiaadoor", sum := "600e5369e26d0ecedc005774e22debd8ad5885c4a0ab09f4d372e4f9fb0a9302", func := "loop.example/pub-g03057/laws.FnReadText", spec := "fnReadText", inPlace := ["internal/reflectlite.TypeOf"], unfollowed := true, recurses := true, named := ["loop.example/pub-g03057/pub/msgp.ErrShortBytes", "encoding/binary.BigEndian", "loop.example/pub-g03057/pub/msgp.ErrRecursion"], ifaces := true, apart := false, laid := [("loop.example/pub-g03057/pub/msgp.ErrShortBytes", laid_loop_example_pub_g03057_pub_msgp_ErrShortBytes), ("loop.example/pub-g03057/pub/msgp.ErrRecursion", laid_loop_example_pub_g03057_pub_msgp_ErrRecursion)], narrowed := true }
def FnReadTextUptoSaid : Prop := fnReadTextUptoRow.holds Tryd.pinned (OpenSpec.upto fnReadTextSpec)

/-- 'laws.FnReadBin', WHERE WHAT IT READS IS OF BULK AT MOST 1048576: true; the input reads as it did. -/
def fnReadBinUptoRow : OpenClaim := { program := "ytmhilpnagpkkiaadoor", sum := "600e5369e26d0ecedc005774e22debd8ad5885c4a0ab09f4d372e4f9fb0a9302", func := "loop.example/pub-g03057/laws.FnReadBin", spec := "fnReadBin", inPlace := ["internal/reflectlite.TypeOf"], unfollowed := true, recurses := true, named := ["loop.example/pub-g03057/pub/msgp.ErrShortBytes", "encoding/binary.BigEndian", "loop.example/pub-g03057/pub/msgp.ErrRecursion"], ifaces := true, apart := false, laid := [("loop.example/pub-g03057/pub/msgp.ErrShortBytes", laid_loop_example_pub_g03057_pub_msgp_ErrShortBytes), ("loop.example/pub-g03057/pub/msgp.ErrRecursion", laid_loop_example_pub_g03057_pub_msgp_ErrRecursion)], narrowed := true }
def FnReadBinUptoSaid : Prop := fnReadBinUptoRow.holds Tryd.pinned (OpenSpec.upto fnReadBinSpec)

/-- 'laws.FnReadExt', WHERE WHAT IT READS IS OF BULK AT MOST 1048576: true; the input reads as it did. -/
def fnReadExtUptoRow : OpenClaim := { program := "ytmhilpnagpkkiaadoor", sum := "600e5369e26d0ecedc005774e22debd8ad5885c4a0ab09f4d372e4f9fb0a9302", func := "loop.example/pub-g03057/laws.FnReadExt", spec := "fnReadExt", inPlace := ["internal/reflectlite.TypeOf"], unfollowed := true, recurses := true, named := ["loop.example/pub-g03057/pub/msgp.ErrShortBytes", "encoding/binary.BigEndian", "loop.example/pub-g03057/pub/msgp.ErrRecursion"], ifaces := true, apart := false, laid := [("loop.example/pub-g03057/pub/msgp.ErrShortBytes", laid_loop_example_pub_g03057_pub_msgp_ErrShortBytes), ("loop.example/pub-g03057/pub/msgp.ErrRecursion", laid_loop_example_pub_g03057_pub_msgp_ErrRecursion)], narrowed := true }
def FnReadExtUptoSaid : Prop := fnReadExtUptoRow.holds Tryd.pinned (OpenSpec.upto fnReadExtSpec)

/-- 'laws.FnReadHeads', WHERE WHAT IT READS IS OF BULK AT MOST 1048576: true; the input reads as it did. -/
def fnReadHeadsUptoRow : OpenClaim := { program := "ytmhilpnagpkkiaadoor", sum := "600e5369e26d0ecedc005774e22debd8ad5885c4a0ab09f4d372e4f9fb0a9302", func := "loop.example/pub-g03057/laws.FnReadHeads", spec := "fnReadHeads", inPlace := ["internal/reflectlite.TypeOf"], unfollowed := true, recurses := true, named := ["loop.example/pub-g03057/pub/msgp.ErrShortBytes", "encoding/binary.BigEndian", "loop.example/pub-g03057/pub/msgp.ErrRecursion"], ifaces := true, apart := false, laid := [("loop.example/pub-g03057/pub/msgp.ErrShortBytes", laid_loop_example_pub_g03057_pub_msgp_ErrShortBytes), ("loop.example/pub-g03057/pub/msgp.ErrRecursion", laid_loop_example_pub_g03057_pub_msgp_ErrRecursion)], narrowed := true }
def FnReadHeadsUptoSaid : Prop := fnReadHeadsUptoRow.holds Tryd.pinned (OpenSpec.upto fnReadHeadsSpec)

/-- 'laws.FnReadInt', WHERE WHAT IT READS IS OF BULK AT MOST 1048576: true; the input reads as it did. -/
def fnReadIntUptoRow : OpenClaim := { program := "ytmhilpnagpkkiaadoor", sum := "600e5369e26d0ecedc005774e22debd8ad5885c4a0ab09f4d372e4f9fb0a9302", func := "loop.example/pub-g03057/laws.FnReadInt", spec := "fnReadInt", inPlace := ["internal/reflectlite.TypeOf"], unfollowed := true, recurses := true, named := ["loop.example/pub-g03057/pub/msgp.ErrShortBytes", "encoding/binary.BigEndian", "loop.example/pub-g03057/pub/msgp.ErrRecursion"], ifaces := true, apart := false, laid := [("loop.example/pub-g03057/pub/msgp.ErrShortBytes", laid_loop_example_pub_g03057_pub_msgp_ErrShortBytes), ("loop.example/pub-g03057/pub/msgp.ErrRecursion", laid_loop_example_pub_g03057_pub_msgp_ErrRecursion)], narrowed := true }
def FnReadIntUptoSaid : Prop := fnReadIntUptoRow.holds Tryd.pinned (OpenSpec.upto fnReadIntSpec)

/-- 'laws.FnReadUint', WHERE WHAT IT READS IS OF BULK AT MOST 1048576: true; the input reads as it did. -/
def fnReadUintUptoRow : OpenClaim := { program := "ytmhilpnagpkkiaadoor", sum := "600e5369e26d0ecedc005774e22debd8ad5885c4a0ab09f4d372e4f9fb0a9302", func := "loop.example/pub-g03057/laws.FnReadUint", spec := "fnReadUint", inPlace := ["internal/reflectlite.TypeOf"], unfollowed := true, recurses := true, named := ["loop.example/pub-g03057/pub/msgp.ErrShortBytes", "encoding/binary.BigEndian", "loop.example/pub-g03057/pub/msgp.ErrRecursion"], ifaces := true, apart := false, laid := [("loop.example/pub-g03057/pub/msgp.ErrShortBytes", laid_loop_example_pub_g03057_pub_msgp_ErrShortBytes), ("loop.example/pub-g03057/pub/msgp.ErrRecursion", laid_loop_example_pub_g03057_pub_msgp_ErrRecursion)], narrowed := true }
def FnReadUintUptoSaid : Prop := fnReadUintUptoRow.holds Tryd.pinned (OpenSpec.upto fnReadUintSpec)

end Rows
end Go.Proofs.YtmhilpnagpkkiaaDoor
