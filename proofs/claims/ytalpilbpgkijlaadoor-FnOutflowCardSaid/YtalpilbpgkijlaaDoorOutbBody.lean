/- spec.Outbound's loop: its body, taken out of the translation. No condition. -/
import Derived.Test.YtalpilbpgkijlaaDoorOutbDefs
import Derived.Test.YtalpilbpgkijlaaDoorInbBody
namespace Go.Proofs.YtalpilbpgkijlaaDoor
open Go.RowKit
noncomputable def outbBody : Code := ((Tryd.f17.body.bind firstLoop).getD .skip)
end Go.Proofs.YtalpilbpgkijlaaDoor
