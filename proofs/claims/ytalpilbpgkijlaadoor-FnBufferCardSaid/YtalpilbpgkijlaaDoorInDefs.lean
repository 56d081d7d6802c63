/- What the closure of impl.Inflow does at one step, case by case (the walks). No condition. -/
import Derived.Test.YtalpilbpgkijlaaDoorLeafIn
namespace Go.Proofs.YtalpilbpgkijlaaDoor
open Go.RowKit
set_option maxRecDepth 100000
set_option maxHeartbeats 1000000

/-- What a step leaves: the four numbers, and nothing else that was there has turned. -/
def InPost (b : Nat) (w : World) (r : ResV) (a0 u0 a1 u1 : Int) (e : Ending) (w' : World) : Prop :=
  e = .returned r.agg ∧ Blk w' b #[.int .i32 a0, .int .i32 u0, .int .i32 a1, .int .i32 u1] 52 ∧ Same (fun k => k = b) w w'
/-- A step that dies. -/
def InDies (b : Nat) (w : World) (e : Ending) (w' : World) : Prop :=
  (∃ s, e = .panicked [{ v := .iface 9 s, recovered := false }]) ∧ Same (fun k => k = b) w w'
end Go.Proofs.YtalpilbpgkijlaaDoor
