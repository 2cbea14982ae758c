import Derived.Test.Qxb6003724aRows
import Derived.ProofKit
import Derived.OpenShut
import Derived.ChangeOld
import Derived.WalkLawsBesides
namespace Go.Proofs.Qxb6003724a
theorem own : ownKnob Try.prog.godebug = none := by kernel_rfl
theorem laidOut : laidOutB Try.prog = true := by kernel_rfl
end Go.Proofs.Qxb6003724a
