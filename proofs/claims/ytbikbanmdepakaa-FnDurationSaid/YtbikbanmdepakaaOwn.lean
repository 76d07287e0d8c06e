/- Two closed facts on this seat's program that each row asks for. Conditions: none. -/
import Derived.Test.YtbikbanmdepakaaBase
import Derived.ProofKit
namespace Go.Proofs.Ytbikbanmdepakaa
theorem own : ownKnob Try.prog.godebug = none := by kernel_rfl
theorem laidOut : laidOutB Try.prog = true := by kernel_rfl
end Go.Proofs.Ytbikbanmdepakaa
