/- The code of FindFromNoSort's inner loop. -/
import Derived.Test.YtgeimklpcfepaaaDoorFindMem
import Derived.Deep.DeepCutAuto
import Derived.Deep.CutBlock
import Derived.Deep.CutRange
namespace Go.Proofs.YtgeimklpcfepaaaDoor
open Go.RowKit Go.Lib Go.Proofs.YtgeimklpcfepaaaDoorW.PrintWords Go.Proofs.YtgeimklpcfepaaaDoorW.PrintLast Go.Proofs.YtgeimklpcfepaaaDoorW.PrintMore
open P
set_option linter.unusedVariables false
set_option linter.unusedSimpArgs false

def firstLoop : Code → Option Code
  | .loop c => some c
  | .seq a b => match firstLoop a with
    | some c => some c
    | none => firstLoop b
  | .block _ c => firstLoop c
  | .scope c => firstLoop c
  | .cond _ a b => match firstLoop a with
    | some c => some c
    | none => firstLoop b
  | _ => none
def condAt (n : Nat) : Code → Option Code
  | .seq a b => match condAt n a with
    | some c => some c
    | none => condAt n b
  | .block _ c => condAt n c
  | .scope c => condAt n c
  | .cond (.tmp m) a b => if m = n then some (.cond (.tmp m) a b) else match condAt n a with
    | some c => some c
    | none => condAt n b
  | _ => none
noncomputable def outerBody : Code := (Tryd.f27.body.bind firstLoop).getD .skip
noncomputable def innerBody : Code := (firstLoop outerBody).getD .skip
noncomputable def candCode : Code := (condAt 86 innerBody).getD .skip
noncomputable def takeCode : Code := (condAt 177 innerBody).getD .skip
theorem info3 : (Tryd.prog.info? 3).map (fun i => (i.zero, i.size, i.bytes)) = some (some (.int .i64 0), 1, 8) := by kernel_rfl
end Go.Proofs.YtgeimklpcfepaaaDoor
