/- spec.Inbound answers al the model runs (the walk). Condition: at most 1,000 steps. -/
import Derived.Test.YtalpilbpgkijlaaDoorInbDefs
import Derived.Test.YtalpilbpgkijlaaDoorInbCaseA
import Derived.Test.YtalpilbpgkijlaaDoorInbCaseB
import Derived.Test.YtalpilbpgkijlaaDoorInbCaseC
import Derived.Test.YtalpilbpgkijlaaDoorInbCaseD
namespace Go.Proofs.YtalpilbpgkijlaaDoor
open Go.RowKit
set_option maxRecDepth 1000000
set_option maxHeartbeats 8000000

theorem inbound_any (w : World) (v : Value) (al : List StepA) (hv : StepsR (fun _ => True) w v al) (hlen : al.length ≤ 1000) : Calls Tryd.prog 16 #[v] w (InbPost al w) := by
  obtain ⟨ad, cp, rfl, hmax, hform⟩ := RowR.form hv
  have HV := Lib.hid hv
  have HF := Lib.hid hform
  clear hv hform
  go_enter Tryd.func16, Tryd.ntmps16
  go_wp2
  generalize hB : w.heap.size = B
  go_loopg [2, 11] al.length (fun k v i wr => InbRel al w B k v i wr)
  case atStart =>
    subst hB
    exact ⟨0, ⟨0, 0, 0, 0⟩, [], rfl, rfl, Nat.zero_le _, rfl, rfl, by simp, Blk.new _ _ _, (Same.refl _ _).alloc _, World.ownsRow_nil _ _ _ _, fun r h => by simp at h, fun rest h => by simpa using h⟩
  case round =>
    obtain ⟨j, s, rs, hk, rfl, hjl, hC⟩ := hrel
    have A := Lib.hid hC
    by_cases hj : j < al.length
    · rcases (show (al[j].which < 0 ∨ 1 < al[j].which ∨ al[j].what < 0 ∨ 3 < al[j].what) ∨ (al[j].which = 0 ∧ (al[j].what = 0 ∨ al[j].what = 2)) ∨ (al[j].which = 0 ∧ al[j].what = 1) ∨ (al[j].which = 0 ∧ al[j].what = 3) ∨ (al[j].which = 1 ∧ (al[j].what = 0 ∨ al[j].what = 2)) ∨ (al[j].which = 1 ∧ al[j].what = 1) ∨ (al[j].which = 1 ∧ al[j].what = 3) by omega) with h | h | h | h | h | h | h
      · exact inb_a w al B j gk s rs ad cp wr _ _ _ _ _ _ _ _ _ _ _ _ _ _ _ _ _ _ _ _ _ _ _ _ _ _ _ _ _ _ _ _ _ _ _ _ _ _ _ _ _ _ _ _ _ _ _ _ _ _ _ _ _ _ _ _ _ _ _ _ _ _ _ _ _ _ _ _ _ _ _ _ _ _ _ _ _ _ _ _ _ _ _ _ _ _ _ _ _ _ _ _ _ _ _ _ _ _ _ _ _ _ _ _ _ _ _ _ _ _ _ _ _ _ _ _ _ _ _ _ _ _ _ _ _ _ _ _ _ _ _ _ _ _ _ _ _ _ _ _ _ _ _ _ _ _ _ _ _ _ _ _ _ _ _ _ _ _ _ _ _ _ _ _ _ _ _ _ _ _ _ _ _ _ _ _ _ _ _ _ _ _ _ _ _ _ _ _ _ _ _ _ _ _ _ _ _ _ _ _ _ _ _ hlen HV.out HF.out hk hjl hC hj h (by assumption) (by assumption)
      · exact inb_b0 w al B j gk s rs ad cp wr _ _ _ _ _ _ _ _ _ _ _ _ _ _ _ _ _ _ _ _ _ _ _ _ _ _ _ _ _ _ _ _ _ _ _ _ _ _ _ _ _ _ _ _ _ _ _ _ _ _ _ _ _ _ _ _ _ _ _ _ _ _ _ _ _ _ _ _ _ _ _ _ _ _ _ _ _ _ _ _ _ _ _ _ _ _ _ _ _ _ _ _ _ _ _ _ _ _ _ _ _ _ _ _ _ _ _ _ _ _ _ _ _ _ _ _ _ _ _ _ _ _ _ _ _ _ _ _ _ _ _ _ _ _ _ _ _ _ _ _ _ _ _ _ _ _ _ _ _ _ _ _ _ _ _ _ _ _ _ _ _ _ _ _ _ _ _ _ _ _ _ _ _ _ _ _ _ _ _ _ _ _ _ _ _ _ _ _ _ _ _ _ _ _ _ _ _ _ _ _ _ _ _ hlen HV.out HF.out hk hjl hC hj h (by assumption) (by assumption)
      · exact inb_c0 w al B j gk s rs ad cp wr _ _ _ _ _ _ _ _ _ _ _ _ _ _ _ _ _ _ _ _ _ _ _ _ _ _ _ _ _ _ _ _ _ _ _ _ _ _ _ _ _ _ _ _ _ _ _ _ _ _ _ _ _ _ _ _ _ _ _ _ _ _ _ _ _ _ _ _ _ _ _ _ _ _ _ _ _ _ _ _ _ _ _ _ _ _ _ _ _ _ _ _ _ _ _ _ _ _ _ _ _ _ _ _ _ _ _ _ _ _ _ _ _ _ _ _ _ _ _ _ _ _ _ _ _ _ _ _ _ _ _ _ _ _ _ _ _ _ _ _ _ _ _ _ _ _ _ _ _ _ _ _ _ _ _ _ _ _ _ _ _ _ _ _ _ _ _ _ _ _ _ _ _ _ _ _ _ _ _ _ _ _ _ _ _ _ _ _ _ _ _ _ _ _ _ _ _ _ _ _ _ _ _ hlen HV.out HF.out hk hjl hC hj h (by assumption) (by assumption)
      · exact inb_d0 w al B j gk s rs ad cp wr _ _ _ _ _ _ _ _ _ _ _ _ _ _ _ _ _ _ _ _ _ _ _ _ _ _ _ _ _ _ _ _ _ _ _ _ _ _ _ _ _ _ _ _ _ _ _ _ _ _ _ _ _ _ _ _ _ _ _ _ _ _ _ _ _ _ _ _ _ _ _ _ _ _ _ _ _ _ _ _ _ _ _ _ _ _ _ _ _ _ _ _ _ _ _ _ _ _ _ _ _ _ _ _ _ _ _ _ _ _ _ _ _ _ _ _ _ _ _ _ _ _ _ _ _ _ _ _ _ _ _ _ _ _ _ _ _ _ _ _ _ _ _ _ _ _ _ _ _ _ _ _ _ _ _ _ _ _ _ _ _ _ _ _ _ _ _ _ _ _ _ _ _ _ _ _ _ _ _ _ _ _ _ _ _ _ _ _ _ _ _ _ _ _ _ _ _ _ _ _ _ _ _ hlen HV.out HF.out hk hjl hC hj h (by assumption) (by assumption)
      · exact inb_b1 w al B j gk s rs ad cp wr _ _ _ _ _ _ _ _ _ _ _ _ _ _ _ _ _ _ _ _ _ _ _ _ _ _ _ _ _ _ _ _ _ _ _ _ _ _ _ _ _ _ _ _ _ _ _ _ _ _ _ _ _ _ _ _ _ _ _ _ _ _ _ _ _ _ _ _ _ _ _ _ _ _ _ _ _ _ _ _ _ _ _ _ _ _ _ _ _ _ _ _ _ _ _ _ _ _ _ _ _ _ _ _ _ _ _ _ _ _ _ _ _ _ _ _ _ _ _ _ _ _ _ _ _ _ _ _ _ _ _ _ _ _ _ _ _ _ _ _ _ _ _ _ _ _ _ _ _ _ _ _ _ _ _ _ _ _ _ _ _ _ _ _ _ _ _ _ _ _ _ _ _ _ _ _ _ _ _ _ _ _ _ _ _ _ _ _ _ _ _ _ _ _ _ _ _ _ _ _ _ _ _ hlen HV.out HF.out hk hjl hC hj h (by assumption) (by assumption)
      · exact inb_c1 w al B j gk s rs ad cp wr _ _ _ _ _ _ _ _ _ _ _ _ _ _ _ _ _ _ _ _ _ _ _ _ _ _ _ _ _ _ _ _ _ _ _ _ _ _ _ _ _ _ _ _ _ _ _ _ _ _ _ _ _ _ _ _ _ _ _ _ _ _ _ _ _ _ _ _ _ _ _ _ _ _ _ _ _ _ _ _ _ _ _ _ _ _ _ _ _ _ _ _ _ _ _ _ _ _ _ _ _ _ _ _ _ _ _ _ _ _ _ _ _ _ _ _ _ _ _ _ _ _ _ _ _ _ _ _ _ _ _ _ _ _ _ _ _ _ _ _ _ _ _ _ _ _ _ _ _ _ _ _ _ _ _ _ _ _ _ _ _ _ _ _ _ _ _ _ _ _ _ _ _ _ _ _ _ _ _ _ _ _ _ _ _ _ _ _ _ _ _ _ _ _ _ _ _ _ _ _ _ _ _ hlen HV.out HF.out hk hjl hC hj h (by assumption) (by assumption)
      · exact inb_d1 w al B j gk s rs ad cp wr _ _ _ _ _ _ _ _ _ _ _ _ _ _ _ _ _ _ _ _ _ _ _ _ _ _ _ _ _ _ _ _ _ _ _ _ _ _ _ _ _ _ _ _ _ _ _ _ _ _ _ _ _ _ _ _ _ _ _ _ _ _ _ _ _ _ _ _ _ _ _ _ _ _ _ _ _ _ _ _ _ _ _ _ _ _ _ _ _ _ _ _ _ _ _ _ _ _ _ _ _ _ _ _ _ _ _ _ _ _ _ _ _ _ _ _ _ _ _ _ _ _ _ _ _ _ _ _ _ _ _ _ _ _ _ _ _ _ _ _ _ _ _ _ _ _ _ _ _ _ _ _ _ _ _ _ _ _ _ _ _ _ _ _ _ _ _ _ _ _ _ _ _ _ _ _ _ _ _ _ _ _ _ _ _ _ _ _ _ _ _ _ _ _ _ _ _ _ _ _ _ _ _ hlen HV.out HF.out hk hjl hC hj h (by assumption) (by assumption)
    · have D := Lib.hid (hC.done hj hjl)
      clear hC A
      go_wp2
      go_ret2
      exact D.out
end Go.Proofs.YtalpilbpgkijlaaDoor
