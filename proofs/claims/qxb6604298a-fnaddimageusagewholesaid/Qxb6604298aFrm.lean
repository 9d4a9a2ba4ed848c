import Derived.Test.Qxb6604298aRows
import Derived.WalkKit
import Derived.ProofKit
import Derived.OpenShut
import Derived.ShutString
import Derived.ChangeOld
import Derived.Below
import Derived.Test.Qxb6604298aOpen
/-! Two closed facts that every proof's frame wants. -/
namespace Go.Proofs.Qxb6604298a

theorem own : ownKnob Try.prog.godebug = none := by kernel_rfl
theorem laidOut : laidOutB Try.prog = true := by kernel_rfl

end Go.Proofs.Qxb6604298a
