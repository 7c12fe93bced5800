/-
  No cell of these rows narrows 'for every input' (looked for: loops, veiled, ifaces, maps, wideKeys, modest, calm, conditions, laid).
  DERIVED. THE GIVEN ROWS OF THIS SEAT. 2 by the template 'for every input the law returns true; each argument reads behind the call as it read before'; 0 by the template 'total and deterministic' (their statements: Qxb6605524aTotals.lean).
  GIVEN WITH THE SEED: the statements are not yours to turn. If you find one false, say at which input.
  Laid BY PROGRAM, IN A SANDBOX (cutbox-rows.mjs): the forced cells as the released guide's own fill.sh prints them over the translation 7a66b3507c439841… (all of the seat's roots in one cut). By AI agents, Wed Nov 11 2026. No macro, syntax, notation, axiom, sorry.
-/
import Derived.Test.Qxb6605524aChecked
import GoSem.Claim
import GoSem.ClaimJoined
import GoSem.ClaimMapViews
import Derived.JoinedTies
import Derived.KernelRfl
namespace Go.Proofs.Qxb6605524a
/- THE CELL 'sum', in the pinned program and in every row, IS THE sha256 OF THE DUMP (.gsa) THAT Qxb6605524aProg.lean LOADS. Nothing in Lean hashes anything: it is a label: what it is worth is what the hold of that sum in a sandbox is worth. -/
noncomputable def Try.pinned : Pinned := { name := "qxb6605524a", sum := "7a66b3507c439841beb9d48d03d6bea58266e7c87c1f20958577a3fce2e83e68", checked := Try.checked }
namespace Rows
def none {H : Type} : Left H := { results := [], args := [] }

/-- 'zzlaws_physical_b1.FnDecNatAddExact': WHATEVER THE INPUT: true; the input reads as it did. -/
def fnDecNatAddExactSpec : ChangeSpec := { name := "fnDecNatAddExact", fn := fun _ => fun
  | [d1, d2] => { results := [.lit (.bool true)], args := [d1, d2] }
  | _ => none }
def fnDecNatAddExactRow : OpenClaim := { program := "qxb6605524a", sum := "7a66b3507c439841beb9d48d03d6bea58266e7c87c1f20958577a3fce2e83e68", func := "example.com/nearring/nearring/zzlaws_physical_b1.FnDecNatAddExact", spec := "fnDecNatAddExact", apart := false }
def FnDecNatAddExactSaid : Prop := fnDecNatAddExactRow.holds Try.pinned (OpenSpec.ofChange fnDecNatAddExactSpec)

/-- ITS FALSE NEIGHBOUR: 'it returns false'. Refute it at one input. -/
def fnDecNatAddExactWrong : ChangeSpec := { name := "fnDecNatAddExact", fn := fun _ => fun
  | [d1, d2] => { results := [.lit (.bool false)], args := [d1, d2] }
  | _ => none }
def FnDecNatAddExactWrongFalsely : Prop := fnDecNatAddExactRow.holds Try.pinned (OpenSpec.ofChange fnDecNatAddExactWrong)

/-- 'zzlaws_physical_b1.FnDecNatAddSizeOrderInverse': WHATEVER THE INPUT: true; the input reads as it did. -/
def fnDecNatAddSizeOrderInverseSpec : ChangeSpec := { name := "fnDecNatAddSizeOrderInverse", fn := fun _ => fun
  | [d1, d2] => { results := [.lit (.bool true)], args := [d1, d2] }
  | _ => none }
def fnDecNatAddSizeOrderInverseRow : OpenClaim := { program := "qxb6605524a", sum := "7a66b3507c439841beb9d48d03d6bea58266e7c87c1f20958577a3fce2e83e68", func := "example.com/nearring/nearring/zzlaws_physical_b1.FnDecNatAddSizeOrderInverse", spec := "fnDecNatAddSizeOrderInverse", apart := false }
def FnDecNatAddSizeOrderInverseSaid : Prop := fnDecNatAddSizeOrderInverseRow.holds Try.pinned (OpenSpec.ofChange fnDecNatAddSizeOrderInverseSpec)

/-- ITS FALSE NEIGHBOUR: 'it returns false'. Refute it at one input. -/
def fnDecNatAddSizeOrderInverseWrong : ChangeSpec := { name := "fnDecNatAddSizeOrderInverse", fn := fun _ => fun
  | [d1, d2] => { results := [.lit (.bool false)], args := [d1, d2] }
  | _ => none }
def FnDecNatAddSizeOrderInverseWrongFalsely : Prop := fnDecNatAddSizeOrderInverseRow.holds Try.pinned (OpenSpec.ofChange fnDecNatAddSizeOrderInverseWrong)

end Rows
end Go.Proofs.Qxb6605524a
