import Derived.Test.Qxb6601200aCState
import Derived.Deep.DeepCutAuto
import Derived.Deep.RegionHeld3
import Derived.Deep.RegionLaw
import Derived.Deep.CutBlock
import Derived.BigRegion
set_option linter.unusedSimpArgs false
set_option linter.unusedVariables false
namespace Go.Proofs.Qxb6601200a
open Go.RowKit

def isRegion (n : Nat) : Code → Bool
  | .region k _ _ => k == n
  | _ => false
/-- What follows the region of a number, out of a function's own text. -/
def afterRegion (n : Nat) : Code → Option Code
  | .seq a b => if isRegion n a then some b else match afterRegion n a with
    | some c => some c
    | none => afterRegion n b
  | .block _ c => afterRegion n c
  | .loop c => afterRegion n c
  | .scope c => afterRegion n c
  | _ => none
noncomputable def afterRegion7 : Code := (Try.f37.body.bind (afterRegion 7)).getD .skip

end Go.Proofs.Qxb6601200a
