/-
  No cell of these rows narrows 'for every input' (looked for: loops, veiled, ifaces, maps, wideKeys, modest, calm, conditions, laid).
  DERIVED. THE GIVEN ROWS OF THIS SEAT. 4 by the template 'for every input the law returns true; each argument reads behind the call as it read before'; 0 by the template 'total and deterministic' (their statements: Qxb6604298aTotals.lean).
  GIVEN WITH THE SEED: the statements are not yours to turn. If you find one false, say at which input.
  Laid BY PROGRAM, IN A SANDBOX (cutbox-rows.mjs): the forced cells as the released guide's own fill.sh prints them over the translation 9eac4c5830cf1b07… (all of the seat's roots in one cut). By AI agents, Wed Nov 11 2026. No macro, syntax, notation, axiom, sorry.
-/
import Derived.Test.Qxb6604298aChecked
import GoSem.Claim
import GoSem.ClaimJoined
import GoSem.ClaimMapViews
import Derived.JoinedTies
import Derived.KernelRfl
namespace Go.Proofs.Qxb6604298a
/- THE CELL 'sum', in the pinned program and in every row, IS THE sha256 OF THE DUMP (.gsa) THAT Qxb6604298aProg.lean LOADS. Nothing in Lean hashes anything: it is a label: what it is worth is what the hold of that sum in a sandbox is worth. -/
noncomputable def Try.pinned : Pinned := { name := "qxb6604298a", sum := "9eac4c5830cf1b0756e87e4e3ad74a494693c7e9635f289fb17703f072746379", checked := Try.checked }
namespace Rows
def none {H : Type} : Left H := { results := [], args := [] }

/-- 'zzlaws_internal_provider_b1.FnUsageOfAgreesWithImageUsage': WHATEVER THE INPUT: true; the input reads as it did. -/
def fnUsageOfAgreesWithImageUsageSpec : ChangeSpec := { name := "fnUsageOfAgreesWithImageUsage", fn := fun _ => fun
  | [d] => { results := [.lit (.bool true)], args := [d] }
  | _ => none }
def fnUsageOfAgreesWithImageUsageRow : OpenClaim := { program := "qxb6604298a", sum := "9eac4c5830cf1b0756e87e4e3ad74a494693c7e9635f289fb17703f072746379", func := "example.com/model-gateway/model-gateway/zzlaws_internal_provider_b1.FnUsageOfAgreesWithImageUsage", spec := "fnUsageOfAgreesWithImageUsage", apart := false }
def FnUsageOfAgreesWithImageUsageSaid : Prop := fnUsageOfAgreesWithImageUsageRow.holds Try.pinned (OpenSpec.ofChange fnUsageOfAgreesWithImageUsageSpec)

/-- ITS FALSE NEIGHBOUR: 'it returns false'. Refute it at one input. -/
def fnUsageOfAgreesWithImageUsageWrong : ChangeSpec := { name := "fnUsageOfAgreesWithImageUsage", fn := fun _ => fun
  | [d] => { results := [.lit (.bool false)], args := [d] }
  | _ => none }
def FnUsageOfAgreesWithImageUsageWrongFalsely : Prop := fnUsageOfAgreesWithImageUsageRow.holds Try.pinned (OpenSpec.ofChange fnUsageOfAgreesWithImageUsageWrong)

/-- 'zzlaws_internal_provider_b1.FnAddImageUsageWhole': WHATEVER THE INPUT: true; the input reads as it did. -/
def fnAddImageUsageWholeSpec : ChangeSpec := { name := "fnAddImageUsageWhole", fn := fun _ => fun
  | [d1, d2] => { results := [.lit (.bool true)], args := [d1, d2] }
  | _ => none }
def fnAddImageUsageWholeRow : OpenClaim := { program := "qxb6604298a", sum := "9eac4c5830cf1b0756e87e4e3ad74a494693c7e9635f289fb17703f072746379", func := "example.com/model-gateway/model-gateway/zzlaws_internal_provider_b1.FnAddImageUsageWhole", spec := "fnAddImageUsageWhole", apart := false }
def FnAddImageUsageWholeSaid : Prop := fnAddImageUsageWholeRow.holds Try.pinned (OpenSpec.ofChange fnAddImageUsageWholeSpec)

/-- ITS FALSE NEIGHBOUR: 'it returns false'. Refute it at one input. -/
def fnAddImageUsageWholeWrong : ChangeSpec := { name := "fnAddImageUsageWhole", fn := fun _ => fun
  | [d1, d2] => { results := [.lit (.bool false)], args := [d1, d2] }
  | _ => none }
def FnAddImageUsageWholeWrongFalsely : Prop := fnAddImageUsageWholeRow.holds Try.pinned (OpenSpec.ofChange fnAddImageUsageWholeWrong)

/-- 'zzlaws_internal_provider_b1.FnAddImageUsageSplitAddsUp': WHATEVER THE INPUT: true; the input reads as it did. -/
def fnAddImageUsageSplitAddsUpSpec : ChangeSpec := { name := "fnAddImageUsageSplitAddsUp", fn := fun _ => fun
  | [d] => { results := [.lit (.bool true)], args := [d] }
  | _ => none }
def fnAddImageUsageSplitAddsUpRow : OpenClaim := { program := "qxb6604298a", sum := "9eac4c5830cf1b0756e87e4e3ad74a494693c7e9635f289fb17703f072746379", func := "example.com/model-gateway/model-gateway/zzlaws_internal_provider_b1.FnAddImageUsageSplitAddsUp", spec := "fnAddImageUsageSplitAddsUp", apart := false }
def FnAddImageUsageSplitAddsUpSaid : Prop := fnAddImageUsageSplitAddsUpRow.holds Try.pinned (OpenSpec.ofChange fnAddImageUsageSplitAddsUpSpec)

/-- ITS FALSE NEIGHBOUR: 'it returns false'. Refute it at one input. -/
def fnAddImageUsageSplitAddsUpWrong : ChangeSpec := { name := "fnAddImageUsageSplitAddsUp", fn := fun _ => fun
  | [d] => { results := [.lit (.bool false)], args := [d] }
  | _ => none }
def FnAddImageUsageSplitAddsUpWrongFalsely : Prop := fnAddImageUsageSplitAddsUpRow.holds Try.pinned (OpenSpec.ofChange fnAddImageUsageSplitAddsUpWrong)

/-- 'zzlaws_internal_provider_b1.FnAddImageUsageOrderFree': WHATEVER THE INPUT: true; the input reads as it did. -/
def fnAddImageUsageOrderFreeSpec : ChangeSpec := { name := "fnAddImageUsageOrderFree", fn := fun _ => fun
  | [d] => { results := [.lit (.bool true)], args := [d] }
  | _ => none }
def fnAddImageUsageOrderFreeRow : OpenClaim := { program := "qxb6604298a", sum := "9eac4c5830cf1b0756e87e4e3ad74a494693c7e9635f289fb17703f072746379", func := "example.com/model-gateway/model-gateway/zzlaws_internal_provider_b1.FnAddImageUsageOrderFree", spec := "fnAddImageUsageOrderFree", apart := false }
def FnAddImageUsageOrderFreeSaid : Prop := fnAddImageUsageOrderFreeRow.holds Try.pinned (OpenSpec.ofChange fnAddImageUsageOrderFreeSpec)

/-- ITS FALSE NEIGHBOUR: 'it returns false'. Refute it at one input. -/
def fnAddImageUsageOrderFreeWrong : ChangeSpec := { name := "fnAddImageUsageOrderFree", fn := fun _ => fun
  | [d] => { results := [.lit (.bool false)], args := [d] }
  | _ => none }
def FnAddImageUsageOrderFreeWrongFalsely : Prop := fnAddImageUsageOrderFreeRow.holds Try.pinned (OpenSpec.ofChange fnAddImageUsageOrderFreeWrong)

end Rows
end Go.Proofs.Qxb6604298a
