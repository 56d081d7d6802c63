/- What the closure of impl.Outflow does at one step, case by case (the walks). Condition: the numbers in memory are of their kind. -/
import Derived.Test.YtalpilbpgkijlaaDoorLeafOut
namespace Go.Proofs.YtalpilbpgkijlaaDoor
open Go.RowKit
set_option maxRecDepth 100000
set_option maxHeartbeats 1000000

/-- What a step leaves: the connection's numbers, the stream's, and nothing else that was there has turned. -/
def OutPost (z p : Nat) (w : World) (r : ResV) (ini cn : Int) (err : Bool) (sv : Value) (d : Int) (e : Ending) (w' : World) : Prop :=
  e = .returned r.agg ∧ Blk w' z #[.int .i32 ini, .int .i32 cn, .bool err, sv] 96 ∧ Blk w' p #[.int .i32 d, .pointer (some ⟨z, 0, none⟩)] 102 ∧ Same (fun k => k = z ∨ k = p) w w'
/-- A step that dies. -/
def OutDies (z p : Nat) (w : World) (e : Ending) (w' : World) : Prop :=
  (∃ s, e = .panicked [{ v := .iface 9 s, recovered := false }]) ∧ Same (fun k => k = z ∨ k = p) w w'
theorem wrap32_i32 (x : Int) : I32 (wrap32 x) := by
  unfold I32 wrap32
  omega
end Go.Proofs.YtalpilbpgkijlaaDoor
