/-
  NARROWER THAN 'FOR EVERY INPUT', by the rows' own cells (each row's printed sentence says how): FnIntText: ifaces, laid · FnSmall: ifaces, laid · FnNumbersMixed: ifaces, laid · FnComplex: ifaces, laid · FnFloats: ifaces, laid · FnText: ifaces, laid · FnBin: ifaces, laid · FnNumbersBelow: ifaces, laid · FnExt: ifaces, laid · FnHeads: ifaces, laid · FnUintText: ifaces, laid.
  DERIVED. THE GIVEN ROWS OF THIS SEAT. 11 by the template 'for every input the law returns true; each argument reads behind the call as it read before'; 0 by the template 'total and deterministic' (their statements: YtpmdlbbgljcloaaDoorTotals.lean).
  GIVEN WITH THE SEED: the statements are not yours to turn. If you find one false, say at which input.
  Laid BY PROGRAM, IN A SANDBOX (cutbox-rows.mjs): the forced cells as the released guide's own fill.sh prints them over the translation 72c61e896125db1c… (all of the seat's roots in one cut). By AI agents, Wed Nov 11 2026. No macro, syntax, notation, axiom, sorry.
-/
import Derived.Test.YtpmdlbbgljcloaaDoorChecked
import GoSem.Claim
import GoSem.ClaimJoined
import GoSem.ClaimMapViews
import Derived.JoinedTies
import Derived.KernelRfl
namespace Go.Proofs.YtpmdlbbgljcloaaDoor
/- THE CELL 'sum', in the pinned program and in every row, IS THE sha256 OF THE DUMP (.gsa) THAT YtpmdlbbgljcloaaDoorProg.lean LOADS. Nothing in Lean hashes anything: it is a label: what it is worth is what the hold of that sum in a sandbox is worth. -/
noncomputable def Tryd.pinned : Pinned := { name := "ytpmdlbbgljcloaadoor", sum := "72c61e896125db1cd369f2d5b6527589fde037fe4722f248bd1704a4acf9bf6d", checked := Tryd.checked }
namespace Rows
def none {H : Type} : Left H := { results := [], args := [] }

/- WHAT THE LISTED PACKAGE-LEVEL VARIABLES READ AS WHEN THE CALL BEGINS. Each datum BY PROGRAM (the guide's laid-datum.mjs) off the statement by which the dump's own 'gosem.cut.vars' lays the variable. In a bare row this is a premise. The card (YtpmdlbbgljcloaaDoorCards.lean) ties it to the program's text. -/
def laid_loop_example_pub_g03057_pub_msgp_ErrShortBytes {H : Type} : DataW H := .iface "loop.example/pub-g03057/pub/msgp.errShort" (.agg [])
def laid_loop_example_pub_g03057_pub_msgp_ErrRecursion {H : Type} : DataW H := .iface "loop.example/pub-g03057/pub/msgp.errRecursion" (.agg [])

/-- 'laws.FnIntText': WHATEVER THE INPUT: true; the input reads as it did. -/
def fnIntTextSpec : ChangeSpec := { name := "fnIntText", vars := ["loop.example/pub-g03057/pub/msgp.ErrShortBytes", "loop.example/pub-g03057/pub/msgp.ErrRecursion"], fn := fun _ => fun
  | [d1, d2, g1, g2] => { results := [.lit (.bool true)], args := [d1, d2], vars := [g1, g2] }
  | _ => none }
def fnIntTextRow : OpenClaim := { program := "ytpmdlbbgljcloaadoor", sum := "72c61e896125db1cd369f2d5b6527589fde037fe4722f248bd1704a4acf9bf6d", func := "loop.example/pub-g03057/laws.FnIntText", spec := "fnIntText", inPlace := ["internal/reflectlite.TypeOf"], unfollowed := true, recurses := true, named := ["loop.example/pub-g03057/pub/msgp.ErrShortBytes", "encoding/binary.BigEndian", "loop.example/pub-g03057/pub/msgp.ErrRecursion"], ifaces := true, apart := false, laid := [("loop.example/pub-g03057/pub/msgp.ErrShortBytes", laid_loop_example_pub_g03057_pub_msgp_ErrShortBytes), ("loop.example/pub-g03057/pub/msgp.ErrRecursion", laid_loop_example_pub_g03057_pub_msgp_ErrRecursion)] }
def FnIntTextSaid : Prop := fnIntTextRow.holds Tryd.pinned (OpenSpec.ofChange fnIntTextSpec)

/-- ITS FALSE NEIGHBOUR: 'it returns false'. Refute it at one input. -/
def fnIntTextWrong : ChangeSpec := { name := "fnIntText", vars := ["loop.example/pub-g03057/pub/msgp.ErrShortBytes", "loop.example/pub-g03057/pub/msgp.ErrRecursion"], fn := fun _ => fun
  | [d1, d2, g1, g2] => { results := [.lit (.bool false)], args := [d1, d2], vars := [g1, g2] }
  | _ => none }
def FnIntTextWrongFalsely : Prop := fnIntTextRow.holds Tryd.pinned (OpenSpec.ofChange fnIntTextWrong)

/-- 'laws.FnSmall': WHATEVER THE INPUT: true; the input reads as it did. -/
def fnSmallSpec : ChangeSpec := { name := "fnSmall", vars := ["loop.example/pub-g03057/pub/msgp.ErrShortBytes", "loop.example/pub-g03057/pub/msgp.ErrRecursion"], fn := fun _ => fun
  | [d1, d2, g1, g2] => { results := [.lit (.bool true)], args := [d1, d2], vars := [g1, g2] }
  | _ => none }
def fnSmallRow : OpenClaim := { program := "ytpmdlbbgljcloaadoor", sum := "72c61e896125db1cd369f2d5b6527589fde037fe4722f248bd1704a4acf9bf6d", func := "loop.example/pub-g03057/laws.FnSmall", spec := "fnSmall", inPlace := ["internal/reflectlite.TypeOf"], unfollowed := true, recurses := true, named := ["loop.example/pub-g03057/pub/msgp.ErrShortBytes", "loop.example/pub-g03057/pub/msgp.ErrRecursion"], ifaces := true, apart := false, laid := [("loop.example/pub-g03057/pub/msgp.ErrShortBytes", laid_loop_example_pub_g03057_pub_msgp_ErrShortBytes), ("loop.example/pub-g03057/pub/msgp.ErrRecursion", laid_loop_example_pub_g03057_pub_msgp_ErrRecursion)] }
def FnSmallSaid : Prop := fnSmallRow.holds Tryd.pinned (OpenSpec.ofChange fnSmallSpec)

/-- ITS FALSE NEIGHBOUR: 'it returns false'. Refute it at one input. -/
def fnSmallWrong : ChangeSpec := { name := "fnSmall", vars := ["loop.example/pub-g03057/pub/msgp.ErrShortBytes", "loop.example/pub-g03057/pub/msgp.ErrRecursion"], fn := fun _ => fun
  | [d1, d2, g1, g2] => { results := [.lit (.bool false)], args := [d1, d2], vars := [g1, g2] }
  | _ => none }
def FnSmallWrongFalsely : Prop := fnSmallRow.holds Tryd.pinned (OpenSpec.ofChange fnSmallWrong)

/-- 'laws.FnNumbersMixed': WHATEVER THE INPUT: true; the input reads as it did. -/
def fnNumbersMixedSpec : ChangeSpec := { name := "fnNumbersMixed", vars := ["loop.example/pub-g03057/pub/msgp.ErrShortBytes", "loop.example/pub-g03057/pub/msgp.ErrRecursion"], fn := fun _ => fun
  | [d, g1, g2] => { results := [.lit (.bool true)], args := [d], vars := [g1, g2] }
  | _ => none }
def fnNumbersMixedRow : OpenClaim := { program := "ytpmdlbbgljcloaadoor", sum := "72c61e896125db1cd369f2d5b6527589fde037fe4722f248bd1704a4acf9bf6d", func := "loop.example/pub-g03057/laws.FnNumbersMixed", spec := "fnNumbersMixed", inPlace := ["internal/reflectlite.TypeOf"], unfollowed := true, recurses := true, named := ["loop.example/pub-g03057/pub/msgp.ErrShortBytes", "encoding/binary.BigEndian", "loop.example/pub-g03057/pub/msgp.ErrRecursion"], ifaces := true, apart := false, laid := [("loop.example/pub-g03057/pub/msgp.ErrShortBytes", laid_loop_example_pub_g03057_pub_msgp_ErrShortBytes), ("loop.example/pub-g03057/pub/msgp.ErrRecursion", laid_loop_example_pub_g03057_pub_msgp_ErrRecursion)] }
def FnNumbersMixedSaid : Prop := fnNumbersMixedRow.holds Tryd.pinned (OpenSpec.ofChange fnNumbersMixedSpec)

/-- ITS FALSE NEIGHBOUR: 'it returns false'. Refute it at one input. -/
def fnNumbersMixedWrong : ChangeSpec := { name := "fnNumbersMixed", vars := ["loop.example/pub-g03057/pub/msgp.ErrShortBytes", "loop.example/pub-g03057/pub/msgp.ErrRecursion"], fn := fun _ => fun
  | [d, g1, g2] => { results := [.lit (.bool false)], args := [d], vars := [g1, g2] }
  | _ => none }
def FnNumbersMixedWrongFalsely : Prop := fnNumbersMixedRow.holds Tryd.pinned (OpenSpec.ofChange fnNumbersMixedWrong)

/-- 'laws.FnComplex': WHATEVER THE INPUT: true; the input reads as it did. -/
def fnComplexSpec : ChangeSpec := { name := "fnComplex", vars := ["loop.example/pub-g03057/pub/msgp.ErrShortBytes", "loop.example/pub-g03057/pub/msgp.ErrRecursion"], fn := fun _ => fun
  | [d1, d2, d3, d4, g1, g2] => { results := [.lit (.bool true)], args := [d1, d2, d3, d4], vars := [g1, g2] }
  | _ => none }
def fnComplexRow : OpenClaim := { program := "ytpmdlbbgljcloaadoor", sum := "72c61e896125db1cd369f2d5b6527589fde037fe4722f248bd1704a4acf9bf6d", func := "loop.example/pub-g03057/laws.FnComplex", spec := "fnComplex", inPlace := ["math.Float32frombits", "internal/reflectlite.TypeOf", "math.Float32bits", "math.Float64frombits", "math.Float64bits"], unfollowed := true, recurses := true, named := ["loop.example/pub-g03057/pub/msgp.ErrShortBytes", "encoding/binary.BigEndian", "loop.example/pub-g03057/pub/msgp.ErrRecursion"], ifaces := true, apart := false, laid := [("loop.example/pub-g03057/pub/msgp.ErrShortBytes", laid_loop_example_pub_g03057_pub_msgp_ErrShortBytes), ("loop.example/pub-g03057/pub/msgp.ErrRecursion", laid_loop_example_pub_g03057_pub_msgp_ErrRecursion)] }
def FnComplexSaid : Prop := fnComplexRow.holds Tryd.pinned (OpenSpec.ofChange fnComplexSpec)

/-- ITS FALSE NEIGHBOUR: 'it returns false'. Refute it at one input. -/
def fnComplexWrong : ChangeSpec := { name := "fnComplex", vars := ["loop.example/pub-g03057/pub/msgp.ErrShortBytes", "loop.example/pub-g03057/pub/msgp.ErrRecursion"], fn := fun _ => fun
  | [d1, d2, d3, d4, g1, g2] => { results := [.lit (.bool false)], args := [d1, d2, d3, d4], vars := [g1, g2] }
  | _ => none }
def FnComplexWrongFalsely : Prop := fnComplexRow.holds Tryd.pinned (OpenSpec.ofChange fnComplexWrong)

/-- 'laws.FnFloats': WHATEVER THE INPUT: true; the input reads as it did. -/
def fnFloatsSpec : ChangeSpec := { name := "fnFloats", vars := ["loop.example/pub-g03057/pub/msgp.ErrShortBytes", "loop.example/pub-g03057/pub/msgp.ErrRecursion"], fn := fun _ => fun
  | [d1, d2, d3, g1, g2] => { results := [.lit (.bool true)], args := [d1, d2, d3], vars := [g1, g2] }
  | _ => none }
def fnFloatsRow : OpenClaim := { program := "ytpmdlbbgljcloaadoor", sum := "72c61e896125db1cd369f2d5b6527589fde037fe4722f248bd1704a4acf9bf6d", func := "loop.example/pub-g03057/laws.FnFloats", spec := "fnFloats", inPlace := ["math.Float32frombits", "internal/reflectlite.TypeOf", "math.Float32bits", "math.Float64frombits", "math.Float64bits"], unfollowed := true, recurses := true, named := ["loop.example/pub-g03057/pub/msgp.ErrShortBytes", "loop.example/pub-g03057/pub/msgp.ErrRecursion"], ifaces := true, apart := false, laid := [("loop.example/pub-g03057/pub/msgp.ErrShortBytes", laid_loop_example_pub_g03057_pub_msgp_ErrShortBytes), ("loop.example/pub-g03057/pub/msgp.ErrRecursion", laid_loop_example_pub_g03057_pub_msgp_ErrRecursion)] }
def FnFloatsSaid : Prop := fnFloatsRow.holds Tryd.pinned (OpenSpec.ofChange fnFloatsSpec)

/-- ITS FALSE NEIGHBOUR: 'it returns false'. Refute it at one input. -/
def fnFloatsWrong : ChangeSpec := { name := "fnFloats", vars := ["loop.example/pub-g03057/pub/msgp.ErrShortBytes", "loop.example/pub-g03057/pub/msgp.ErrRecursion"], fn := fun _ => fun
  | [d1, d2, d3, g1, g2] => { results := [.lit (.bool false)], args := [d1, d2, d3], vars := [g1, g2] }
  | _ => none }
def FnFloatsWrongFalsely : Prop := fnFloatsRow.holds Tryd.pinned (OpenSpec.ofChange fnFloatsWrong)

/-- 'laws.FnText': WHATEVER THE INPUT: true; the input reads as it did. -/
def fnTextSpec : ChangeSpec := { name := "fnText", vars := ["loop.example/pub-g03057/pub/msgp.ErrShortBytes", "loop.example/pub-g03057/pub/msgp.ErrRecursion"], fn := fun _ => fun
  | [d1, d2, g1, g2] => { results := [.lit (.bool true)], args := [d1, d2], vars := [g1, g2] }
  | _ => none }
def fnTextRow : OpenClaim := { program := "ytpmdlbbgljcloaadoor", sum := "72c61e896125db1cd369f2d5b6527589fde037fe4722f248bd1704a4acf9bf6d", func := "loop.example/pub-g03057/laws.FnText", spec := "fnText", inPlace := ["internal/reflectlite.TypeOf"], unfollowed := true, recurses := true, named := ["loop.example/pub-g03057/pub/msgp.ErrShortBytes", "encoding/binary.BigEndian", "loop.example/pub-g03057/pub/msgp.ErrRecursion"], ifaces := true, apart := false, laid := [("loop.example/pub-g03057/pub/msgp.ErrShortBytes", laid_loop_example_pub_g03057_pub_msgp_ErrShortBytes), ("loop.example/pub-g03057/pub/msgp.ErrRecursion", laid_loop_example_pub_g03057_pub_msgp_ErrRecursion)] }
def FnTextSaid : Prop := fnTextRow.holds Tryd.pinned (OpenSpec.ofChange fnTextSpec)

/-- ITS FALSE NEIGHBOUR: 'it returns false'. Refute it at one input. -/
def fnTextWrong : ChangeSpec := { name := "fnText", vars := ["loop.example/pub-g03057/pub/msgp.ErrShortBytes", "loop.example/pub-g03057/pub/msgp.ErrRecursion"], fn := fun _ => fun
  | [d1, d2, g1, g2] => { results := [.lit (.bool false)], args := [d1, d2], vars := [g1, g2] }
  | _ => none }
def FnTextWrongFalsely : Prop := fnTextRow.holds Tryd.pinned (OpenSpec.ofChange fnTextWrong)

/-- 'laws.FnBin': WHATEVER THE INPUT: true; the input reads as it did. -/
def fnBinSpec : ChangeSpec := { name := "fnBin", vars := ["loop.example/pub-g03057/pub/msgp.ErrShortBytes", "loop.example/pub-g03057/pub/msgp.ErrRecursion"], fn := fun _ => fun
  | [d1, d2, g1, g2] => { results := [.lit (.bool true)], args := [d1, d2], vars := [g1, g2] }
  | _ => none }
def fnBinRow : OpenClaim := { program := "ytpmdlbbgljcloaadoor", sum := "72c61e896125db1cd369f2d5b6527589fde037fe4722f248bd1704a4acf9bf6d", func := "loop.example/pub-g03057/laws.FnBin", spec := "fnBin", inPlace := ["internal/reflectlite.TypeOf"], unfollowed := true, recurses := true, named := ["loop.example/pub-g03057/pub/msgp.ErrShortBytes", "encoding/binary.BigEndian", "loop.example/pub-g03057/pub/msgp.ErrRecursion"], ifaces := true, apart := false, laid := [("loop.example/pub-g03057/pub/msgp.ErrShortBytes", laid_loop_example_pub_g03057_pub_msgp_ErrShortBytes), ("loop.example/pub-g03057/pub/msgp.ErrRecursion", laid_loop_example_pub_g03057_pub_msgp_ErrRecursion)] }
def FnBinSaid : Prop := fnBinRow.holds Tryd.pinned (OpenSpec.ofChange fnBinSpec)

/-- ITS FALSE NEIGHBOUR: 'it returns false'. Refute it at one input. -/
def fnBinWrong : ChangeSpec := { name := "fnBin", vars := ["loop.example/pub-g03057/pub/msgp.ErrShortBytes", "loop.example/pub-g03057/pub/msgp.ErrRecursion"], fn := fun _ => fun
  | [d1, d2, g1, g2] => { results := [.lit (.bool false)], args := [d1, d2], vars := [g1, g2] }
  | _ => none }
def FnBinWrongFalsely : Prop := fnBinRow.holds Tryd.pinned (OpenSpec.ofChange fnBinWrong)

/-- 'laws.FnNumbersBelow': WHATEVER THE INPUT: true; the input reads as it did. -/
def fnNumbersBelowSpec : ChangeSpec := { name := "fnNumbersBelow", vars := ["loop.example/pub-g03057/pub/msgp.ErrShortBytes", "loop.example/pub-g03057/pub/msgp.ErrRecursion"], fn := fun _ => fun
  | [d1, d2, g1, g2] => { results := [.lit (.bool true)], args := [d1, d2], vars := [g1, g2] }
  | _ => none }
def fnNumbersBelowRow : OpenClaim := { program := "ytpmdlbbgljcloaadoor", sum := "72c61e896125db1cd369f2d5b6527589fde037fe4722f248bd1704a4acf9bf6d", func := "loop.example/pub-g03057/laws.FnNumbersBelow", spec := "fnNumbersBelow", inPlace := ["internal/reflectlite.TypeOf"], unfollowed := true, recurses := true, named := ["loop.example/pub-g03057/pub/msgp.ErrShortBytes", "encoding/binary.BigEndian", "loop.example/pub-g03057/pub/msgp.ErrRecursion"], ifaces := true, apart := false, laid := [("loop.example/pub-g03057/pub/msgp.ErrShortBytes", laid_loop_example_pub_g03057_pub_msgp_ErrShortBytes), ("loop.example/pub-g03057/pub/msgp.ErrRecursion", laid_loop_example_pub_g03057_pub_msgp_ErrRecursion)] }
def FnNumbersBelowSaid : Prop := fnNumbersBelowRow.holds Tryd.pinned (OpenSpec.ofChange fnNumbersBelowSpec)

/-- ITS FALSE NEIGHBOUR: 'it returns false'. Refute it at one input. -/
def fnNumbersBelowWrong : ChangeSpec := { name := "fnNumbersBelow", vars := ["loop.example/pub-g03057/pub/msgp.ErrShortBytes", "loop.example/pub-g03057/pub/msgp.ErrRecursion"], fn := fun _ => fun
  | [d1, d2, g1, g2] => { results := [.lit (.bool false)], args := [d1, d2], vars := [g1, g2] }
  | _ => none }
def FnNumbersBelowWrongFalsely : Prop := fnNumbersBelowRow.holds Tryd.pinned (OpenSpec.ofChange fnNumbersBelowWrong)

/-- 'laws.FnExt': WHATEVER THE INPUT: true; the input reads as it did. -/
def fnExtSpec : ChangeSpec := { name := "fnExt", vars := ["loop.example/pub-g03057/pub/msgp.ErrShortBytes", "loop.example/pub-g03057/pub/msgp.ErrRecursion"], fn := fun _ => fun
  | [d1, d2, d3, d4, g1, g2] => { results := [.lit (.bool true)], args := [d1, d2, d3, d4], vars := [g1, g2] }
  | _ => none }
def fnExtRow : OpenClaim := { program := "ytpmdlbbgljcloaadoor", sum := "72c61e896125db1cd369f2d5b6527589fde037fe4722f248bd1704a4acf9bf6d", func := "loop.example/pub-g03057/laws.FnExt", spec := "fnExt", inPlace := ["internal/reflectlite.TypeOf"], unfollowed := true, recurses := true, named := ["encoding/binary.BigEndian", "loop.example/pub-g03057/pub/msgp.ErrShortBytes", "loop.example/pub-g03057/pub/msgp.ErrRecursion"], ifaces := true, apart := false, laid := [("loop.example/pub-g03057/pub/msgp.ErrShortBytes", laid_loop_example_pub_g03057_pub_msgp_ErrShortBytes), ("loop.example/pub-g03057/pub/msgp.ErrRecursion", laid_loop_example_pub_g03057_pub_msgp_ErrRecursion)] }
def FnExtSaid : Prop := fnExtRow.holds Tryd.pinned (OpenSpec.ofChange fnExtSpec)

/-- ITS FALSE NEIGHBOUR: 'it returns false'. Refute it at one input. -/
def fnExtWrong : ChangeSpec := { name := "fnExt", vars := ["loop.example/pub-g03057/pub/msgp.ErrShortBytes", "loop.example/pub-g03057/pub/msgp.ErrRecursion"], fn := fun _ => fun
  | [d1, d2, d3, d4, g1, g2] => { results := [.lit (.bool false)], args := [d1, d2, d3, d4], vars := [g1, g2] }
  | _ => none }
def FnExtWrongFalsely : Prop := fnExtRow.holds Tryd.pinned (OpenSpec.ofChange fnExtWrong)

/-- 'laws.FnHeads': WHATEVER THE INPUT: true; the input reads as it did. -/
def fnHeadsSpec : ChangeSpec := { name := "fnHeads", vars := ["loop.example/pub-g03057/pub/msgp.ErrShortBytes", "loop.example/pub-g03057/pub/msgp.ErrRecursion"], fn := fun _ => fun
  | [d1, d2, g1, g2] => { results := [.lit (.bool true)], args := [d1, d2], vars := [g1, g2] }
  | _ => none }
def fnHeadsRow : OpenClaim := { program := "ytpmdlbbgljcloaadoor", sum := "72c61e896125db1cd369f2d5b6527589fde037fe4722f248bd1704a4acf9bf6d", func := "loop.example/pub-g03057/laws.FnHeads", spec := "fnHeads", inPlace := ["internal/reflectlite.TypeOf"], unfollowed := true, recurses := true, named := ["loop.example/pub-g03057/pub/msgp.ErrShortBytes", "encoding/binary.BigEndian", "loop.example/pub-g03057/pub/msgp.ErrRecursion"], ifaces := true, apart := false, laid := [("loop.example/pub-g03057/pub/msgp.ErrShortBytes", laid_loop_example_pub_g03057_pub_msgp_ErrShortBytes), ("loop.example/pub-g03057/pub/msgp.ErrRecursion", laid_loop_example_pub_g03057_pub_msgp_ErrRecursion)] }
def FnHeadsSaid : Prop := fnHeadsRow.holds Tryd.pinned (OpenSpec.ofChange fnHeadsSpec)

/-- ITS FALSE NEIGHBOUR: 'it returns false'. Refute it at one input. -/
def fnHeadsWrong : ChangeSpec := { name := "fnHeads", vars := ["loop.example/pub-g03057/pub/msgp.ErrShortBytes", "loop.example/pub-g03057/pub/msgp.ErrRecursion"], fn := fun _ => fun
  | [d1, d2, g1, g2] => { results := [.lit (.bool false)], args := [d1, d2], vars := [g1, g2] }
  | _ => none }
def FnHeadsWrongFalsely : Prop := fnHeadsRow.holds Tryd.pinned (OpenSpec.ofChange fnHeadsWrong)

/-- 'laws.FnUintText': WHATEVER THE INPUT: true; the input reads as it did. -/
def fnUintTextSpec : ChangeSpec := { name := "fnUintText", vars := ["loop.example/pub-g03057/pub/msgp.ErrShortBytes", "loop.example/pub-g03057/pub/msgp.ErrRecursion"], fn := fun _ => fun
  | [d1, d2, g1, g2] => { results := [.lit (.bool true)], args := [d1, d2], vars := [g1, g2] }
  | _ => none }
def fnUintTextRow : OpenClaim := { program := "ytpmdlbbgljcloaadoor", sum := "72c61e896125db1cd369f2d5b6527589fde037fe4722f248bd1704a4acf9bf6d", func := "loop.example/pub-g03057/laws.FnUintText", spec := "fnUintText", inPlace := ["internal/reflectlite.TypeOf"], unfollowed := true, recurses := true, named := ["loop.example/pub-g03057/pub/msgp.ErrShortBytes", "encoding/binary.BigEndian", "loop.example/pub-g03057/pub/msgp.ErrRecursion"], ifaces := true, apart := false, laid := [("loop.example/pub-g03057/pub/msgp.ErrShortBytes", laid_loop_example_pub_g03057_pub_msgp_ErrShortBytes), ("loop.example/pub-g03057/pub/msgp.ErrRecursion", laid_loop_example_pub_g03057_pub_msgp_ErrRecursion)] }
def FnUintTextSaid : Prop := fnUintTextRow.holds Tryd.pinned (OpenSpec.ofChange fnUintTextSpec)

/-- ITS FALSE NEIGHBOUR: 'it returns false'. Refute it at one input. -/
def fnUintTextWrong : ChangeSpec := { name := "fnUintText", vars := ["loop.example/pub-g03057/pub/msgp.ErrShortBytes", "loop.example/pub-g03057/pub/msgp.ErrRecursion"], fn := fun _ => fun
  | [d1, d2, g1, g2] => { results := [.lit (.bool false)], args := [d1, d2], vars := [g1, g2] }
  | _ => none }
def FnUintTextWrongFalsely : Prop := fnUintTextRow.holds Tryd.pinned (OpenSpec.ofChange fnUintTextWrong)

/- THE SECOND FORM. 'bulk': how many values and letters a reading holds, each counted each time it is reached (what is shared counts as often as it is met; a slice's spare places count too). A statement '..UptoSaid' is the law's where the arguments, and the package variables that the reading takes, are together of bulk at most 1048576: NARROWER than '..Said'. Prove '..Said' where nothing that the law and all that it calls make is longer than what came in: it says more and counts as full. Else prove '..UptoSaid'. A law counts once. -/
mutual
def uptoBulk {H : Type} : DataW H → Nat
  | .lit (.string bytes) => bytes.length + 1
  | .lit _ => 1
  | .nil => 1
  | .ptr d => uptoBulk d + 1
  | .slice elems spare => uptoBulkAll elems + uptoBulkAll spare + 1
  | .agg parts => uptoBulkAll parts + 1
  | .iface _ d => uptoBulk d + 1
  | .map entries => uptoBulkEntries entries + 1
  | .held _ => 1
def uptoBulkAll {H : Type} : List (DataW H) → Nat
  | [] => 0
  | d :: r => uptoBulk d + uptoBulkAll r
def uptoBulkEntries {H : Type} : List (Lit × DataW H) → Nat
  | [] => 0
  | x :: r => uptoBulkEntry x + uptoBulkEntries r
def uptoBulkEntry {H : Type} : Lit × DataW H → Nat
  | (.string bytes, d) => bytes.length + uptoBulk d + 1
  | (_, d) => uptoBulk d + 1
 end
def uptoSmall : (H : Type) → List (DataW H) → Bool := fun _ ds => decide (uptoBulkAll ds ≤ 1048576)
def OpenSpec.upto (s : _root_.Go.ChangeSpec) : _root_.Go.OpenSpec := { _root_.Go.OpenSpec.ofChange s with cond := some uptoSmall }

/-- 'laws.FnIntText', WHERE WHAT IT READS IS OF BULK AT MOST 1048576: true; the input reads as it did. -/
def fnIntTextUptoRow : OpenClaim := { program := "ytpmdlbbgljcloaadoor", sum := "72c61e896125db1cd369f2d5b6527589fde037fe4722f248bd1704a4acf9bf6d", func := "loop.example/pub-g03057/laws.FnIntText", spec := "fnIntText", inPlace := ["internal/reflectlite.TypeOf"], unfollowed := true, recurses := true, named := ["loop.example/pub-g03057/pub/msgp.ErrShortBytes", "encoding/binary.BigEndian", "loop.example/pub-g03057/pub/msgp.ErrRecursion"], ifaces := true, apart := false, laid := [("loop.example/pub-g03057/pub/msgp.ErrShortBytes", laid_loop_example_pub_g03057_pub_msgp_ErrShortBytes), ("loop.example/pub-g03057/pub/msgp.ErrRecursion", laid_loop_example_pub_g03057_pub_msgp_ErrRecursion)], narrowed := true }
def FnIntTextUptoSaid : Prop := fnIntTextUptoRow.holds Tryd.pinned (OpenSpec.upto fnIntTextSpec)

/-- 'laws.FnSmall', WHERE WHAT IT READS IS OF BULK AT MOST 1048576: true; the input reads as it did. -/
def fnSmallUptoRow : OpenClaim := { program := "ytpmdlbbgljcloaadoor", sum := "72c61e896125db1cd369f2d5b6527589fde037fe4722f248bd1704a4acf9bf6d", func := "loop.example/pub-g03057/laws.FnSmall", spec := "fnSmall", inPlace := ["internal/reflectlite.TypeOf"], unfollowed := true, recurses := true, named := ["loop.example/pub-g03057/pub/msgp.ErrShortBytes", "loop.example/pub-g03057/pub/msgp.ErrRecursion"], ifaces := true, apart := false, laid := [("loop.example/pub-g03057/pub/msgp.ErrShortBytes", laid_loop_example_pub_g03057_pub_msgp_ErrShortBytes), ("loop.example/pub-g03057/pub/msgp.ErrRecursion", laid_loop_example_pub_g03057_pub_msgp_ErrRecursion)], narrowed := true }
def FnSmallUptoSaid : Prop := fnSmallUptoRow.holds Tryd.pinned (OpenSpec.upto fnSmallSpec)

/-- 'laws.FnNumbersMixed', WHERE WHAT IT READS IS OF BULK AT MOST 1048576: true; the input reads as it did. -/
def fnNumbersMixedUptoRow : OpenClaim := { program := "ytpmdlbbgljcloaadoor", sum := "72c61e896125db1cd369f2d5b6527589fde037fe4722f248bd1704a4acf9bf6d", func := "loop.example/pub-g03057/laws.FnNumbersMixed", spec := "fnNumbersMixed", inPlace := ["internal/reflectlite.TypeOf"], unfollowed := true, recurses := true, named := ["loop.example/pub-g03057/pub/msgp.ErrShortBytes", "encoding/binary.BigEndian", "loop.example/pub-g03057/pub/msgp.ErrRecursion"], ifaces := true, apart := false, laid := [("loop.example/pub-g03057/pub/msgp.ErrShortBytes", laid_loop_example_pub_g03057_pub_msgp_ErrShortBytes), ("loop.example/pub-g03057/pub/msgp.ErrRecursion", laid_loop_example_pub_g03057_pub_msgp_ErrRecursion)], narrowed := true }
def FnNumbersMixedUptoSaid : Prop := fnNumbersMixedUptoRow.holds Tryd.pinned (OpenSpec.upto fnNumbersMixedSpec)

/-- 'laws.FnComplex', WHERE WHAT IT READS IS OF BULK AT MOST 1048576: true; the input reads as it did. -/
def fnComplexUptoRow : OpenClaim := { program := "ytpmdlbbgljcloaadoor", sum := "72c61e896125db1cd369f2d5b6527589fde037fe4722f248bd1704a4acf9bf6d", func := "loop.example/pub-g03057/laws.FnComplex", spec := "fnComplex", inPlace := ["math.Float32frombits", "internal/reflectlite.TypeOf", "math.Float32bits", "math.Float64frombits", "math.Float64bits"], unfollowed := true, recurses := true, named := ["loop.example/pub-g03057/pub/msgp.ErrShortBytes", "encoding/binary.BigEndian", "loop.example/pub-g03057/pub/msgp.ErrRecursion"], ifaces := true, apart := false, laid := [("loop.example/pub-g03057/pub/msgp.ErrShortBytes", laid_loop_example_pub_g03057_pub_msgp_ErrShortBytes), ("loop.example/pub-g03057/pub/msgp.ErrRecursion", laid_loop_example_pub_g03057_pub_msgp_ErrRecursion)], narrowed := true }
def FnComplexUptoSaid : Prop := fnComplexUptoRow.holds Tryd.pinned (OpenSpec.upto fnComplexSpec)

/-- 'laws.FnFloats', WHERE WHAT IT READS IS OF BULK AT MOST 1048576: true; the input reads as it did. -/
def fnFloatsUptoRow : OpenClaim := { program := "ytpmdlbbgljcloaadoor", sum := "72c61e896125db1cd369f2d5b6527589fde037fe4722f248bd1704a4acf9bf6d", func := "loop.example/pub-g03057/laws.FnFloats", spec := "fnFloats", inPlace := ["math.Float32frombits", "internal/reflectlite.TypeOf", "math.Float32bits", "math.Float64frombits", "math.Float64bits"], unfollowed := true, recurses := true, named := ["loop.example/pub-g03057/pub/msgp.ErrShortBytes", "loop.example/pub-g03057/pub/msgp.ErrRecursion"], ifaces := true, apart := false, laid := [("loop.example/pub-g03057/pub/msgp.ErrShortBytes", laid_loop_example_pub_g03057_pub_msgp_ErrShortBytes), ("loop.example/pub-g03057/pub/msgp.ErrRecursion", laid_loop_example_pub_g03057_pub_msgp_ErrRecursion)], narrowed := true }
def FnFloatsUptoSaid : Prop := fnFloatsUptoRow.holds Tryd.pinned (OpenSpec.upto fnFloatsSpec)

/-- 'laws.FnText', WHERE WHAT IT READS IS OF BULK AT MOST 1048576: true; the input reads as it did. -/
def fnTextUptoRow : OpenClaim := { program := "ytpmdlbbgljcloaadoor", sum := "72c61e896125db1cd369f2d5b6527589fde037fe4722f248bd1704a4acf9bf6d", func := "loop.example/pub-g03057/laws.FnText", spec := "fnText", inPlace := ["internal/reflectlite.TypeOf"], unfollowed := true, recurses := true, named := ["loop.example/pub-g03057/pub/msgp.ErrShortBytes", "encoding/binary.BigEndian", "loop.example/pub-g03057/pub/msgp.ErrRecursion"], ifaces := true, apart := false, laid := [("loop.example/pub-g03057/pub/msgp.ErrShortBytes", laid_loop_example_pub_g03057_pub_msgp_ErrShortBytes), ("loop.example/pub-g03057/pub/msgp.ErrRecursion", laid_loop_example_pub_g03057_pub_msgp_ErrRecursion)], narrowed := true }
def FnTextUptoSaid : Prop := fnTextUptoRow.holds Tryd.pinned (OpenSpec.upto fnTextSpec)

/-- 'laws.FnBin', WHERE WHAT IT READS IS OF BULK AT MOST 1048576: true; the input reads as it did. -/
def fnBinUptoRow : OpenClaim := { program := "ytpmdlbbgljcloaadoor", sum := "72c61e896125db1cd369f2d5b6527589fde037fe4722f248bd1704a4acf9bf6d", func := "loop.example/pub-g03057/laws.FnBin", spec := "fnBin", inPlace := ["internal/reflectlite.TypeOf"], unfollowed := true, recurses := true, named := ["loop.example/pub-g03057/pub/msgp.ErrShortBytes", "encoding/binary.BigEndian", "loop.example/pub-g03057/pub/msgp.ErrRecursion"], ifaces := true, apart := false, laid := [("loop.example/pub-g03057/pub/msgp.ErrShortBytes", laid_loop_example_pub_g03057_pub_msgp_ErrShortBytes), ("loop.example/pub-g03057/pub/msgp.ErrRecursion", laid_loop_example_pub_g03057_pub_msgp_ErrRecursion)], narrowed := true }
def FnBinUptoSaid : Prop := fnBinUptoRow.holds Tryd.pinned (OpenSpec.upto fnBinSpec)

/-- 'laws.FnNumbersBelow', WHERE WHAT IT READS IS OF BULK AT MOST 1048576: true; the input reads as it did. -/
def fnNumbersBelowUptoRow : OpenClaim := { program := "ytpmdlbbgljcloaadoor", sum := "72c61e896125db1cd369f2d5b6527589fde037fe4722f248bd1704a4acf9bf6d", func := "loop.example/pub-g03057/laws.FnNumbersBelow", spec := "fnNumbersBelow", inPlace := ["internal/reflectlite.TypeOf"], unfollowed := true, recurses := true, named := ["loop.example/pub-g03057/pub/msgp.ErrShortBytes", "encoding/binary.BigEndian", "loop.example/pub-g03057/pub/msgp.ErrRecursion"], ifaces := true, apart := false, laid := [("loop.example/pub-g03057/pub/msgp.ErrShortBytes", laid_loop_example_pub_g03057_pub_msgp_ErrShortBytes), ("loop.example/pub-g03057/pub/msgp.ErrRecursion", laid_loop_example_pub_g03057_pub_msgp_ErrRecursion)], narrowed := true }
def FnNumbersBelowUptoSaid : Prop := fnNumbersBelowUptoRow.holds Tryd.pinned (OpenSpec.upto fnNumbersBelowSpec)

/-- 'laws.FnExt', WHERE WHAT IT READS IS OF BULK AT MOST 1048576: true; the input reads as it did. -/
def fnExtUptoRow : OpenClaim := { program := "ytpmdlbbgljcloaadoor", sum := "72c61e896125db1cd369f2d5b6527589fde037fe4722f248bd1704a4acf9bf6d", func := "loop.example/pub-g03057/laws.FnExt", spec := "fnExt", inPlace := ["internal/reflectlite.TypeOf"], unfollowed := true, recurses := true, named := ["encoding/binary.BigEndian", "loop.example/pub-g03057/pub/msgp.ErrShortBytes", "loop.example/pub-g03057/pub/msgp.ErrRecursion"], ifaces := true, apart := false, laid := [("loop.example/pub-g03057/pub/msgp.ErrShortBytes", laid_loop_example_pub_g03057_pub_msgp_ErrShortBytes), ("loop.example/pub-g03057/pub/msgp.ErrRecursion", laid_loop_example_pub_g03057_pub_msgp_ErrRecursion)], narrowed := true }
def FnExtUptoSaid : Prop := fnExtUptoRow.holds Tryd.pinned (OpenSpec.upto fnExtSpec)

/-- 'laws.FnHeads', WHERE WHAT IT READS IS OF BULK AT MOST 1048576: true; the input reads as it did. -/
def fnHeadsUptoRow : OpenClaim := { program := "ytpmdlbbgljcloaadoor", sum := "72c61e896125db1cd369f2d5b6527589fde037fe4722f248bd1704a4acf9bf6d", func := "loop.example/pub-g03057/laws.FnHeads", spec := "fnHeads", inPlace := ["internal/reflectlite.TypeOf"], unfollowed := true, recurses := true, named := ["loop.example/pub-g03057/pub/msgp.ErrShortBytes", "encoding/binary.BigEndian", "loop.example/pub-g03057/pub/msgp.ErrRecursion"], ifaces := true, apart := false, laid := [("loop.example/pub-g03057/pub/msgp.ErrShortBytes", laid_loop_example_pub_g03057_pub_msgp_ErrShortBytes), ("loop.example/pub-g03057/pub/msgp.ErrRecursion", laid_loop_example_pub_g03057_pub_msgp_ErrRecursion)], narrowed := true }
def FnHeadsUptoSaid : Prop := fnHeadsUptoRow.holds Tryd.pinned (OpenSpec.upto fnHeadsSpec)

/-- 'laws.FnUintText', WHERE WHAT IT READS IS OF BULK AT MOST 1048576: true; the input reads as it did. -/
def fnUintTextUptoRow : OpenClaim := { program := "ytpmdlbbgljcloaadoor", sum := "72c61e896125db1cd369f2d5b6527589fde037fe4722f248bd1704a4acf9bf6d", func := "loop.example/pub-g03057/laws.FnUintText", spec := "fnUintText", inPlace := ["internal/reflectlite.TypeOf"], unfollowed := true, recurses := true, named := ["loop.example/pub-g03057/pub/msgp.ErrShortBytes", "encoding/binary.BigEndian", "loop.example/pub-g03057/pub/msgp.ErrRecursion"], ifaces := true, apart := false, laid := [("loop.example/pub-g03057/pub/msgp.ErrShortBytes", laid_loop_example_pub_g03057_pub_msgp_ErrShortBytes), ("loop.example/pub-g03057/pub/msgp.ErrRecursion", laid_loop_example_pub_g03057_pub_msgp_ErrRecursion)], narrowed := true }
def FnUintTextUptoSaid : Prop := fnUintTextUptoRow.holds Tryd.pinned (OpenSpec.upto fnUintTextSpec)

end Rows
end Go.Proofs.YtpmdlbbgljcloaaDoor
