import Derived.Test.Qxb6605516aPlanO
import Derived.StillTailTactics
namespace Go.Proofs.Qxb6605516a
open Go.RowKit
/-- The bodies of a code's loops, in the order of the text. -/
def loopsOf : Code → List Code
  | .loop c => c :: loopsOf c
  | .seq a b => loopsOf a ++ loopsOf b
  | .block _ c => loopsOf c
  | .scope c => loopsOf c
  | .cond _ a b => loopsOf a ++ loopsOf b
  | _ => []
noncomputable def lp38_1 : Code := ((loopsOf (Try.f38.body.getD .skip))[0]?).getD .skip
noncomputable def lp38_2 : Code := ((loopsOf (Try.f38.body.getD .skip))[1]?).getD .skip
noncomputable def lp38_3 : Code := ((loopsOf (Try.f38.body.getD .skip))[2]?).getD .skip
noncomputable def lp38_4 : Code := ((loopsOf (Try.f38.body.getD .skip))[3]?).getD .skip
end Go.Proofs.Qxb6605516a
