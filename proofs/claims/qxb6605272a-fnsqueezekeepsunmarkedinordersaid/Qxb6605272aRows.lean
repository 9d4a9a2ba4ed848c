/-
  No cell of these rows narrows 'for every input' (looked for: loops, veiled, ifaces, maps, wideKeys, modest, calm, conditions, laid).
  DERIVED. THE GIVEN ROWS OF THIS SEAT. 6 by the template 'for every input the law returns true; each argument reads behind the call as it read before'; 0 by the template 'total and deterministic' (their statements: Qxb6605272aTotals.lean).
  GIVEN WITH THE SEED: the statements are not yours to turn. If you find one false, say at which input.
  Laid BY PROGRAM, IN A SANDBOX (cutbox-rows.mjs): the forced cells as the released guide's own fill.sh prints them over the translation 12db8bc73f064e64… (all of the seat's roots in one cut). By AI agents, Wed Nov 11 2026. No macro, syntax, notation, axiom, sorry.
-/
import Derived.Test.Qxb6605272aChecked
import GoSem.Claim
import GoSem.ClaimJoined
import GoSem.ClaimMapViews
import Derived.JoinedTies
import Derived.KernelRfl
namespace Go.Proofs.Qxb6605272a
/- THE CELL 'sum', in the pinned program and in every row, IS THE sha256 OF THE DUMP (.gsa) THAT Qxb6605272aProg.lean LOADS. Nothing in Lean hashes anything: it is a label: what it is worth is what the hold of that sum in a sandbox is worth. -/
noncomputable def Try.pinned : Pinned := { name := "qxb6605272a", sum := "12db8bc73f064e6478e25162935e61ad0c7e833bb2322fd18b1cd991283ca79e", checked := Try.checked }
namespace Rows
def none {H : Type} : Left H := { results := [], args := [] }

/-- 'zzlaws_root_b1.FnLastSharedIsFirstDivergenceBelowHigh': WHATEVER THE INPUT: true; the input reads as it did. -/
def fnLastSharedIsFirstDivergenceBelowHighSpec : ChangeSpec := { name := "fnLastSharedIsFirstDivergenceBelowHigh", fn := fun _ => fun
  | [d1, d2, d3] => { results := [.lit (.bool true)], args := [d1, d2, d3] }
  | _ => none }
def fnLastSharedIsFirstDivergenceBelowHighRow : OpenClaim := { program := "qxb6605272a", sum := "12db8bc73f064e6478e25162935e61ad0c7e833bb2322fd18b1cd991283ca79e", func := "example.com/highwater/highwater/zzlaws_root_b1.FnLastSharedIsFirstDivergenceBelowHigh", spec := "fnLastSharedIsFirstDivergenceBelowHigh", apart := false }
def FnLastSharedIsFirstDivergenceBelowHighSaid : Prop := fnLastSharedIsFirstDivergenceBelowHighRow.holds Try.pinned (OpenSpec.ofChange fnLastSharedIsFirstDivergenceBelowHighSpec)

/-- ITS FALSE NEIGHBOUR: 'it returns false'. Refute it at one input. -/
def fnLastSharedIsFirstDivergenceBelowHighWrong : ChangeSpec := { name := "fnLastSharedIsFirstDivergenceBelowHigh", fn := fun _ => fun
  | [d1, d2, d3] => { results := [.lit (.bool false)], args := [d1, d2, d3] }
  | _ => none }
def FnLastSharedIsFirstDivergenceBelowHighWrongFalsely : Prop := fnLastSharedIsFirstDivergenceBelowHighRow.holds Try.pinned (OpenSpec.ofChange fnLastSharedIsFirstDivergenceBelowHighWrong)

/-- 'zzlaws_root_b1.FnLastSharedForkedCopiesShareUpToFork': WHATEVER THE INPUT: true; the input reads as it did. -/
def fnLastSharedForkedCopiesShareUpToForkSpec : ChangeSpec := { name := "fnLastSharedForkedCopiesShareUpToFork", fn := fun _ => fun
  | [d1, d2, d3, d4, d5] => { results := [.lit (.bool true)], args := [d1, d2, d3, d4, d5] }
  | _ => none }
def fnLastSharedForkedCopiesShareUpToForkRow : OpenClaim := { program := "qxb6605272a", sum := "12db8bc73f064e6478e25162935e61ad0c7e833bb2322fd18b1cd991283ca79e", func := "example.com/highwater/highwater/zzlaws_root_b1.FnLastSharedForkedCopiesShareUpToFork", spec := "fnLastSharedForkedCopiesShareUpToFork", apart := false }
def FnLastSharedForkedCopiesShareUpToForkSaid : Prop := fnLastSharedForkedCopiesShareUpToForkRow.holds Try.pinned (OpenSpec.ofChange fnLastSharedForkedCopiesShareUpToForkSpec)

/-- ITS FALSE NEIGHBOUR: 'it returns false'. Refute it at one input. -/
def fnLastSharedForkedCopiesShareUpToForkWrong : ChangeSpec := { name := "fnLastSharedForkedCopiesShareUpToFork", fn := fun _ => fun
  | [d1, d2, d3, d4, d5] => { results := [.lit (.bool false)], args := [d1, d2, d3, d4, d5] }
  | _ => none }
def FnLastSharedForkedCopiesShareUpToForkWrongFalsely : Prop := fnLastSharedForkedCopiesShareUpToForkRow.holds Try.pinned (OpenSpec.ofChange fnLastSharedForkedCopiesShareUpToForkWrong)

/-- 'zzlaws_root_b1.FnTrimKeepsEveryWriteAfterFloorInPlace': WHATEVER THE INPUT: true; the input reads as it did. -/
def fnTrimKeepsEveryWriteAfterFloorInPlaceSpec : ChangeSpec := { name := "fnTrimKeepsEveryWriteAfterFloorInPlace", fn := fun _ => fun
  | [d1, d2, d3, d4] => { results := [.lit (.bool true)], args := [d1, d2, d3, d4] }
  | _ => none }
def fnTrimKeepsEveryWriteAfterFloorInPlaceRow : OpenClaim := { program := "qxb6605272a", sum := "12db8bc73f064e6478e25162935e61ad0c7e833bb2322fd18b1cd991283ca79e", func := "example.com/highwater/highwater/zzlaws_root_b1.FnTrimKeepsEveryWriteAfterFloorInPlace", spec := "fnTrimKeepsEveryWriteAfterFloorInPlace", apart := false }
def FnTrimKeepsEveryWriteAfterFloorInPlaceSaid : Prop := fnTrimKeepsEveryWriteAfterFloorInPlaceRow.holds Try.pinned (OpenSpec.ofChange fnTrimKeepsEveryWriteAfterFloorInPlaceSpec)

/-- ITS FALSE NEIGHBOUR: 'it returns false'. Refute it at one input. -/
def fnTrimKeepsEveryWriteAfterFloorInPlaceWrong : ChangeSpec := { name := "fnTrimKeepsEveryWriteAfterFloorInPlace", fn := fun _ => fun
  | [d1, d2, d3, d4] => { results := [.lit (.bool false)], args := [d1, d2, d3, d4] }
  | _ => none }
def FnTrimKeepsEveryWriteAfterFloorInPlaceWrongFalsely : Prop := fnTrimKeepsEveryWriteAfterFloorInPlaceRow.holds Try.pinned (OpenSpec.ofChange fnTrimKeepsEveryWriteAfterFloorInPlaceWrong)

/-- 'zzlaws_root_b1.FnTrimInStepsIsTrimAtOnce': WHATEVER THE INPUT: true; the input reads as it did. -/
def fnTrimInStepsIsTrimAtOnceSpec : ChangeSpec := { name := "fnTrimInStepsIsTrimAtOnce", fn := fun _ => fun
  | [d1, d2, d3, d4, d5] => { results := [.lit (.bool true)], args := [d1, d2, d3, d4, d5] }
  | _ => none }
def fnTrimInStepsIsTrimAtOnceRow : OpenClaim := { program := "qxb6605272a", sum := "12db8bc73f064e6478e25162935e61ad0c7e833bb2322fd18b1cd991283ca79e", func := "example.com/highwater/highwater/zzlaws_root_b1.FnTrimInStepsIsTrimAtOnce", spec := "fnTrimInStepsIsTrimAtOnce", apart := false }
def FnTrimInStepsIsTrimAtOnceSaid : Prop := fnTrimInStepsIsTrimAtOnceRow.holds Try.pinned (OpenSpec.ofChange fnTrimInStepsIsTrimAtOnceSpec)

/-- ITS FALSE NEIGHBOUR: 'it returns false'. Refute it at one input. -/
def fnTrimInStepsIsTrimAtOnceWrong : ChangeSpec := { name := "fnTrimInStepsIsTrimAtOnce", fn := fun _ => fun
  | [d1, d2, d3, d4, d5] => { results := [.lit (.bool false)], args := [d1, d2, d3, d4, d5] }
  | _ => none }
def FnTrimInStepsIsTrimAtOnceWrongFalsely : Prop := fnTrimInStepsIsTrimAtOnceRow.holds Try.pinned (OpenSpec.ofChange fnTrimInStepsIsTrimAtOnceWrong)

/-- 'zzlaws_root_b1.FnSqueezeKeepsUnmarkedInOrder': WHATEVER THE INPUT: true; the input reads as it did. -/
def fnSqueezeKeepsUnmarkedInOrderSpec : ChangeSpec := { name := "fnSqueezeKeepsUnmarkedInOrder", fn := fun _ => fun
  | [d1, d2, d3, d4, d5, d6, d7, d8] => { results := [.lit (.bool true)], args := [d1, d2, d3, d4, d5, d6, d7, d8] }
  | _ => none }
def fnSqueezeKeepsUnmarkedInOrderRow : OpenClaim := { program := "qxb6605272a", sum := "12db8bc73f064e6478e25162935e61ad0c7e833bb2322fd18b1cd991283ca79e", func := "example.com/highwater/highwater/zzlaws_root_b1.FnSqueezeKeepsUnmarkedInOrder", spec := "fnSqueezeKeepsUnmarkedInOrder", apart := false }
def FnSqueezeKeepsUnmarkedInOrderSaid : Prop := fnSqueezeKeepsUnmarkedInOrderRow.holds Try.pinned (OpenSpec.ofChange fnSqueezeKeepsUnmarkedInOrderSpec)

/-- ITS FALSE NEIGHBOUR: 'it returns false'. Refute it at one input. -/
def fnSqueezeKeepsUnmarkedInOrderWrong : ChangeSpec := { name := "fnSqueezeKeepsUnmarkedInOrder", fn := fun _ => fun
  | [d1, d2, d3, d4, d5, d6, d7, d8] => { results := [.lit (.bool false)], args := [d1, d2, d3, d4, d5, d6, d7, d8] }
  | _ => none }
def FnSqueezeKeepsUnmarkedInOrderWrongFalsely : Prop := fnSqueezeKeepsUnmarkedInOrderRow.holds Try.pinned (OpenSpec.ofChange fnSqueezeKeepsUnmarkedInOrderWrong)

/-- 'zzlaws_root_b1.FnSqueezeTwiceIsSqueezeOnce': WHATEVER THE INPUT: true; the input reads as it did. -/
def fnSqueezeTwiceIsSqueezeOnceSpec : ChangeSpec := { name := "fnSqueezeTwiceIsSqueezeOnce", fn := fun _ => fun
  | [d1, d2, d3, d4, d5, d6, d7, d8] => { results := [.lit (.bool true)], args := [d1, d2, d3, d4, d5, d6, d7, d8] }
  | _ => none }
def fnSqueezeTwiceIsSqueezeOnceRow : OpenClaim := { program := "qxb6605272a", sum := "12db8bc73f064e6478e25162935e61ad0c7e833bb2322fd18b1cd991283ca79e", func := "example.com/highwater/highwater/zzlaws_root_b1.FnSqueezeTwiceIsSqueezeOnce", spec := "fnSqueezeTwiceIsSqueezeOnce", apart := false }
def FnSqueezeTwiceIsSqueezeOnceSaid : Prop := fnSqueezeTwiceIsSqueezeOnceRow.holds Try.pinned (OpenSpec.ofChange fnSqueezeTwiceIsSqueezeOnceSpec)

/-- ITS FALSE NEIGHBOUR: 'it returns false'. Refute it at one input. -/
def fnSqueezeTwiceIsSqueezeOnceWrong : ChangeSpec := { name := "fnSqueezeTwiceIsSqueezeOnce", fn := fun _ => fun
  | [d1, d2, d3, d4, d5, d6, d7, d8] => { results := [.lit (.bool false)], args := [d1, d2, d3, d4, d5, d6, d7, d8] }
  | _ => none }
def FnSqueezeTwiceIsSqueezeOnceWrongFalsely : Prop := fnSqueezeTwiceIsSqueezeOnceRow.holds Try.pinned (OpenSpec.ofChange fnSqueezeTwiceIsSqueezeOnceWrong)

end Rows
end Go.Proofs.Qxb6605272a
