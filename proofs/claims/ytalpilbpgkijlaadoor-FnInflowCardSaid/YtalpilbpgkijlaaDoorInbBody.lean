/- spec.Inbound's loop: its body, taken out of the translation. No condition. -/
import Derived.Test.YtalpilbpgkijlaaDoorInbDefs
namespace Go.Proofs.YtalpilbpgkijlaaDoor
open Go.RowKit
def firstLoop : Code → Option Code
  | .loop c => some c
  | .seq a b => match firstLoop a with
    | some c => some c
    | none => firstLoop b
  | .block _ c => firstLoop c
  | .scope c => firstLoop c
  | .cond _ a b => match firstLoop a with
    | some c => some c
    | none => firstLoop b
  | _ => none
noncomputable def inbBody : Code := ((Tryd.f16.body.bind firstLoop).getD .skip)
end Go.Proofs.YtalpilbpgkijlaaDoor
