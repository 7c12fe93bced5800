/-
  No cell of these rows narrows 'for every input' (looked for: loops, veiled, ifaces, maps, wideKeys, modest, calm, conditions, laid).
  DERIVED. THE GIVEN ROWS OF THIS SEAT. 6 by the template 'for every input the law returns true; each argument reads behind the call as it read before'; 0 by the template 'total and deterministic' (their statements: Qxb6605516aTotals.lean).
  GIVEN WITH THE SEED: the statements are not yours to turn. If you find one false, say at which input.
  Laid BY PROGRAM, IN A SANDBOX (cutbox-rows.mjs): the forced cells as the released guide's own fill.sh prints them over the translation 48ce938b31aca925… (all of the seat's roots in one cut). By AI agents, Wed Nov 11 2026. No macro, syntax, notation, axiom, sorry.
-/
import Derived.Test.Qxb6605516aChecked
import GoSem.Claim
import GoSem.ClaimJoined
import GoSem.ClaimMapViews
import Derived.JoinedTies
import Derived.KernelRfl
namespace Go.Proofs.Qxb6605516a
/- THE CELL 'sum', in the pinned program and in every row, IS THE sha256 OF THE DUMP (.gsa) THAT Qxb6605516aProg.lean LOADS. Nothing in Lean hashes anything: it is a label: what it is worth is what the hold of that sum in a sandbox is worth. -/
noncomputable def Try.pinned : Pinned := { name := "qxb6605516a", sum := "48ce938b31aca9257cb7f40c813b669db04b8f59b5e41eee59ccacbe0ff4cf2e", checked := Try.checked }
namespace Rows
def none {H : Type} : Left H := { results := [], args := [] }

/-- 'zzlaws_twophase_b1.FnNewPlanMatchesModel': WHATEVER THE INPUT: true; the input reads as it did. -/
def fnNewPlanMatchesModelSpec : ChangeSpec := { name := "fnNewPlanMatchesModel", fn := fun _ => fun
  | [d1, d2, d3, d4, d5] => { results := [.lit (.bool true)], args := [d1, d2, d3, d4, d5] }
  | _ => none }
def fnNewPlanMatchesModelRow : OpenClaim := { program := "qxb6605516a", sum := "48ce938b31aca9257cb7f40c813b669db04b8f59b5e41eee59ccacbe0ff4cf2e", func := "example.com/serialix/serialix/zzlaws_twophase_b1.FnNewPlanMatchesModel", spec := "fnNewPlanMatchesModel", apart := false }
def FnNewPlanMatchesModelSaid : Prop := fnNewPlanMatchesModelRow.holds Try.pinned (OpenSpec.ofChange fnNewPlanMatchesModelSpec)

/-- ITS FALSE NEIGHBOUR: 'it returns false'. Refute it at one input. -/
def fnNewPlanMatchesModelWrong : ChangeSpec := { name := "fnNewPlanMatchesModel", fn := fun _ => fun
  | [d1, d2, d3, d4, d5] => { results := [.lit (.bool false)], args := [d1, d2, d3, d4, d5] }
  | _ => none }
def FnNewPlanMatchesModelWrongFalsely : Prop := fnNewPlanMatchesModelRow.holds Try.pinned (OpenSpec.ofChange fnNewPlanMatchesModelWrong)

/-- 'zzlaws_twophase_b1.FnNewPlanLocksHeldTwoPhase': WHATEVER THE INPUT: true; the input reads as it did. -/
def fnNewPlanLocksHeldTwoPhaseSpec : ChangeSpec := { name := "fnNewPlanLocksHeldTwoPhase", fn := fun _ => fun
  | [d1, d2, d3, d4, d5] => { results := [.lit (.bool true)], args := [d1, d2, d3, d4, d5] }
  | _ => none }
def fnNewPlanLocksHeldTwoPhaseRow : OpenClaim := { program := "qxb6605516a", sum := "48ce938b31aca9257cb7f40c813b669db04b8f59b5e41eee59ccacbe0ff4cf2e", func := "example.com/serialix/serialix/zzlaws_twophase_b1.FnNewPlanLocksHeldTwoPhase", spec := "fnNewPlanLocksHeldTwoPhase", apart := false }
def FnNewPlanLocksHeldTwoPhaseSaid : Prop := fnNewPlanLocksHeldTwoPhaseRow.holds Try.pinned (OpenSpec.ofChange fnNewPlanLocksHeldTwoPhaseSpec)

/-- ITS FALSE NEIGHBOUR: 'it returns false'. Refute it at one input. -/
def fnNewPlanLocksHeldTwoPhaseWrong : ChangeSpec := { name := "fnNewPlanLocksHeldTwoPhase", fn := fun _ => fun
  | [d1, d2, d3, d4, d5] => { results := [.lit (.bool false)], args := [d1, d2, d3, d4, d5] }
  | _ => none }
def FnNewPlanLocksHeldTwoPhaseWrongFalsely : Prop := fnNewPlanLocksHeldTwoPhaseRow.holds Try.pinned (OpenSpec.ofChange fnNewPlanLocksHeldTwoPhaseWrong)

/-- 'zzlaws_twophase_b1.FnHolderWaitsStepMatchesModel': WHATEVER THE INPUT: true; the input reads as it did. -/
def fnHolderWaitsStepMatchesModelSpec : ChangeSpec := { name := "fnHolderWaitsStepMatchesModel", fn := fun _ => fun
  | [d1, d2, d3, d4, d5, d6, d7, d8, d9] => { results := [.lit (.bool true)], args := [d1, d2, d3, d4, d5, d6, d7, d8, d9] }
  | _ => none }
def fnHolderWaitsStepMatchesModelRow : OpenClaim := { program := "qxb6605516a", sum := "48ce938b31aca9257cb7f40c813b669db04b8f59b5e41eee59ccacbe0ff4cf2e", func := "example.com/serialix/serialix/zzlaws_twophase_b1.FnHolderWaitsStepMatchesModel", spec := "fnHolderWaitsStepMatchesModel", apart := false }
def FnHolderWaitsStepMatchesModelSaid : Prop := fnHolderWaitsStepMatchesModelRow.holds Try.pinned (OpenSpec.ofChange fnHolderWaitsStepMatchesModelSpec)

/-- ITS FALSE NEIGHBOUR: 'it returns false'. Refute it at one input. -/
def fnHolderWaitsStepMatchesModelWrong : ChangeSpec := { name := "fnHolderWaitsStepMatchesModel", fn := fun _ => fun
  | [d1, d2, d3, d4, d5, d6, d7, d8, d9] => { results := [.lit (.bool false)], args := [d1, d2, d3, d4, d5, d6, d7, d8, d9] }
  | _ => none }
def FnHolderWaitsStepMatchesModelWrongFalsely : Prop := fnHolderWaitsStepMatchesModelRow.holds Try.pinned (OpenSpec.ofChange fnHolderWaitsStepMatchesModelWrong)

/-- 'zzlaws_twophase_b1.FnHolderWaitsStepsCommuteOnItems': WHATEVER THE INPUT: true; the input reads as it did. -/
def fnHolderWaitsStepsCommuteOnItemsSpec : ChangeSpec := { name := "fnHolderWaitsStepsCommuteOnItems", fn := fun _ => fun
  | [d1, d2, d3, d4, d5, d6, d7] => { results := [.lit (.bool true)], args := [d1, d2, d3, d4, d5, d6, d7] }
  | _ => none }
def fnHolderWaitsStepsCommuteOnItemsRow : OpenClaim := { program := "qxb6605516a", sum := "48ce938b31aca9257cb7f40c813b669db04b8f59b5e41eee59ccacbe0ff4cf2e", func := "example.com/serialix/serialix/zzlaws_twophase_b1.FnHolderWaitsStepsCommuteOnItems", spec := "fnHolderWaitsStepsCommuteOnItems", apart := false }
def FnHolderWaitsStepsCommuteOnItemsSaid : Prop := fnHolderWaitsStepsCommuteOnItemsRow.holds Try.pinned (OpenSpec.ofChange fnHolderWaitsStepsCommuteOnItemsSpec)

/-- ITS FALSE NEIGHBOUR: 'it returns false'. Refute it at one input. -/
def fnHolderWaitsStepsCommuteOnItemsWrong : ChangeSpec := { name := "fnHolderWaitsStepsCommuteOnItems", fn := fun _ => fun
  | [d1, d2, d3, d4, d5, d6, d7] => { results := [.lit (.bool false)], args := [d1, d2, d3, d4, d5, d6, d7] }
  | _ => none }
def FnHolderWaitsStepsCommuteOnItemsWrongFalsely : Prop := fnHolderWaitsStepsCommuteOnItemsRow.holds Try.pinned (OpenSpec.ofChange fnHolderWaitsStepsCommuteOnItemsWrong)

/-- 'zzlaws_twophase_b1.FnSumMergeMatchesModel': WHATEVER THE INPUT: true; the input reads as it did. -/
def fnSumMergeMatchesModelSpec : ChangeSpec := { name := "fnSumMergeMatchesModel", fn := fun _ => fun
  | [d1, d2, d3, d4, d5, d6, d7, d8, d9, d10] => { results := [.lit (.bool true)], args := [d1, d2, d3, d4, d5, d6, d7, d8, d9, d10] }
  | _ => none }
def fnSumMergeMatchesModelRow : OpenClaim := { program := "qxb6605516a", sum := "48ce938b31aca9257cb7f40c813b669db04b8f59b5e41eee59ccacbe0ff4cf2e", func := "example.com/serialix/serialix/zzlaws_twophase_b1.FnSumMergeMatchesModel", spec := "fnSumMergeMatchesModel", apart := false }
def FnSumMergeMatchesModelSaid : Prop := fnSumMergeMatchesModelRow.holds Try.pinned (OpenSpec.ofChange fnSumMergeMatchesModelSpec)

/-- ITS FALSE NEIGHBOUR: 'it returns false'. Refute it at one input. -/
def fnSumMergeMatchesModelWrong : ChangeSpec := { name := "fnSumMergeMatchesModel", fn := fun _ => fun
  | [d1, d2, d3, d4, d5, d6, d7, d8, d9, d10] => { results := [.lit (.bool false)], args := [d1, d2, d3, d4, d5, d6, d7, d8, d9, d10] }
  | _ => none }
def FnSumMergeMatchesModelWrongFalsely : Prop := fnSumMergeMatchesModelRow.holds Try.pinned (OpenSpec.ofChange fnSumMergeMatchesModelWrong)

/-- 'zzlaws_twophase_b1.FnSumMergeAssociative': WHATEVER THE INPUT: true; the input reads as it did. -/
def fnSumMergeAssociativeSpec : ChangeSpec := { name := "fnSumMergeAssociative", fn := fun _ => fun
  | [d1, d2, d3, d4, d5, d6, d7, d8, d9, d10, d11, d12] => { results := [.lit (.bool true)], args := [d1, d2, d3, d4, d5, d6, d7, d8, d9, d10, d11, d12] }
  | _ => none }
def fnSumMergeAssociativeRow : OpenClaim := { program := "qxb6605516a", sum := "48ce938b31aca9257cb7f40c813b669db04b8f59b5e41eee59ccacbe0ff4cf2e", func := "example.com/serialix/serialix/zzlaws_twophase_b1.FnSumMergeAssociative", spec := "fnSumMergeAssociative", apart := false }
def FnSumMergeAssociativeSaid : Prop := fnSumMergeAssociativeRow.holds Try.pinned (OpenSpec.ofChange fnSumMergeAssociativeSpec)

/-- ITS FALSE NEIGHBOUR: 'it returns false'. Refute it at one input. -/
def fnSumMergeAssociativeWrong : ChangeSpec := { name := "fnSumMergeAssociative", fn := fun _ => fun
  | [d1, d2, d3, d4, d5, d6, d7, d8, d9, d10, d11, d12] => { results := [.lit (.bool false)], args := [d1, d2, d3, d4, d5, d6, d7, d8, d9, d10, d11, d12] }
  | _ => none }
def FnSumMergeAssociativeWrongFalsely : Prop := fnSumMergeAssociativeRow.holds Try.pinned (OpenSpec.ofChange fnSumMergeAssociativeWrong)

end Rows
end Go.Proofs.Qxb6605516a
