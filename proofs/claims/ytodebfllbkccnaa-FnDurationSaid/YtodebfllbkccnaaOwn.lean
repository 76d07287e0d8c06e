/- Two closed facts on this seat's program that each row asks for. Conditions: none. -/
import Derived.Test.YtodebfllbkccnaaBase
import Derived.ProofKit
namespace Go.Proofs.Ytodebfllbkccnaa
theorem own : ownKnob Try.prog.godebug = none := by kernel_rfl
theorem laidOut : laidOutB Try.prog = true := by kernel_rfl
end Go.Proofs.Ytodebfllbkccnaa
