/- A start that fits the rows: the package's one variable holds what its initialiser lays. No condition. -/
import Derived.Test.YtalpilbpgkijlaaDoorOpens
namespace Go.Proofs.YtalpilbpgkijlaaDoor
open Go.ChangeShapes Go.WideShapes Go.ChangeAt Go.RowKit
/-- The settled world with the sentinel's block, the variable pointing to it. -/
noncomputable def laidWorld (os : Os) : World :=
  let N := (World.settled Tryd.prog os).heap.size
  let w0 := World.holding Tryd.prog os ⟨#[.cells #[.string ⟨#[114, 101, 97, 100, 32, 102, 114, 111, 109, 32, 101, 109, 112, 116, 121, 32, 100, 97, 116, 97, 66, 117, 102, 102, 101, 114]⟩] 124], #[], []⟩
  { w0 with heap := w0.heap.modify 0 fun
      | .cells _ t frozen => .cells #[.iface 108 (.pointer (some ⟨N, 0, none⟩))] t frozen
      | o => o }
theorem laid_met (os : Os) (args : Array Value) : laidMet Tryd.prog [("http2flow/pub/http2frames.errReadEmpty", Rows.laid_http2flow_pub_http2frames_errReadEmpty)] ((laidWorld os).forCall (fun _ _ => 0) ⟨#[], args, []⟩).memory :=
  laidMet_of_run' 8 (by kernel_rfl) (by kernel_rfl)
theorem reads22 : Tryd.prog.readableRec 22 = true := by kernel_rfl
theorem reads43 : Tryd.prog.readableRec 43 = true := by kernel_rfl
theorem reads2 : Tryd.prog.readableRec 2 = true := by kernel_rfl
theorem laidOut : laidOutB Tryd.prog = true := by kernel_rfl
theorem typesLt (t : Nat) (h : t < 127) : t < Tryd.prog.types.size := by
  have : Tryd.prog.types.size = 127 := by kernel_rfl
  omega
end Go.Proofs.YtalpilbpgkijlaaDoor
