/- spec.Outbound answers al the model runs, as far as it looks (the walk). Condition: at most 1,000 steps. -/
import Derived.Test.YtalpilbpgkijlaaDoorOutbDefs
import Derived.Test.YtalpilbpgkijlaaDoorOutbCaseA
import Derived.Test.YtalpilbpgkijlaaDoorOutbCaseB
import Derived.Test.YtalpilbpgkijlaaDoorOutbCaseC
import Derived.Test.YtalpilbpgkijlaaDoorOutbCaseD
import Derived.Test.YtalpilbpgkijlaaDoorOutbCaseE
namespace Go.Proofs.YtalpilbpgkijlaaDoor
open Go.RowKit
set_option maxRecDepth 1000000
set_option maxHeartbeats 8000000

theorem outbound_any (w : World) (v : Value) (al : List StepA) (hv : StepsR (fun _ => True) w v al) (hlen : al.length ≤ 1000) : Calls Tryd.prog 17 #[v] w (OutbPost al w) := by
  obtain ⟨ad, cp, rfl, hmax, hform⟩ := RowR.form hv
  have HV := Lib.hid hv
  have HF := Lib.hid hform
  clear hv hform
  go_enter Tryd.func17, Tryd.ntmps17
  go_wp2
  generalize hB : w.heap.size = B
  go_loopg [2, 4, 5, 15] al.length (fun k v vc vi i wr => OutbRel al w B k v vc vi i wr)
  case atStart =>
    subst hB
    exact ⟨0, out0, [], rfl, rfl, Nat.zero_le _, rfl, rfl, rfl, rfl, ⟨rfl, by decide, by decide, by decide, by decide, fun k _ => ⟨by show (-1073741824 : Int) ≤ 0; omega, by show (65535 : Int) + 0 ≤ 2147483647; omega⟩⟩, Blk.new _ _ _, (Same.refl _ _).alloc _, World.ownsRow_nil _ _ _ _, fun r h => by simp at h, fun rest h => by simpa using h⟩
  case round =>
    obtain ⟨j, s, rs, hk, rfl, hjl, rfl, rfl, hC⟩ := hrel
    have A := Lib.hid hC
    by_cases hj : j < al.length
    · rcases (show (al[j].which < 0 ∨ 3 < al[j].which ∨ al[j].what < 0 ∨ 4 < al[j].what) ∨ (0 ≤ al[j].which ∧ al[j].which ≤ 3 ∧ al[j].what = 0) ∨ (0 ≤ al[j].which ∧ al[j].which ≤ 3 ∧ al[j].what = 1) ∨ (0 ≤ al[j].which ∧ al[j].which ≤ 3 ∧ al[j].what = 2) ∨ (0 ≤ al[j].which ∧ al[j].which ≤ 3 ∧ al[j].what = 3) ∨ (0 ≤ al[j].which ∧ al[j].which ≤ 3 ∧ al[j].what = 4) by omega) with h | h | h | h | h | h
      · exact outb_a w al B j gk s rs ad cp wr _ _ _ _ _ _ _ _ _ _ _ _ _ _ _ _ _ _ _ _ _ _ _ _ _ _ _ _ _ _ _ _ _ _ _ _ _ _ _ _ _ _ _ _ _ _ _ _ _ _ _ _ _ _ _ _ _ _ _ _ _ _ _ _ _ _ _ _ _ _ _ _ _ _ _ _ _ _ _ _ _ _ _ _ _ _ _ _ _ _ _ _ _ _ _ _ _ _ _ _ _ _ _ _ _ _ _ _ _ _ _ _ _ _ _ _ _ _ _ _ _ _ _ _ _ _ _ _ _ _ _ _ _ _ _ _ _ _ _ _ _ _ _ _ _ _ _ _ _ _ _ _ _ _ _ _ _ _ _ _ _ _ _ _ _ _ _ _ _ _ _ _ _ _ _ _ _ _ _ _ _ _ _ _ _ _ _ _ _ _ _ hlen HV.out HF.out hk hjl hC hj h (by assumption) (by assumption)
      · exact outb_b w al B j gk s rs ad cp wr _ _ _ _ _ _ _ _ _ _ _ _ _ _ _ _ _ _ _ _ _ _ _ _ _ _ _ _ _ _ _ _ _ _ _ _ _ _ _ _ _ _ _ _ _ _ _ _ _ _ _ _ _ _ _ _ _ _ _ _ _ _ _ _ _ _ _ _ _ _ _ _ _ _ _ _ _ _ _ _ _ _ _ _ _ _ _ _ _ _ _ _ _ _ _ _ _ _ _ _ _ _ _ _ _ _ _ _ _ _ _ _ _ _ _ _ _ _ _ _ _ _ _ _ _ _ _ _ _ _ _ _ _ _ _ _ _ _ _ _ _ _ _ _ _ _ _ _ _ _ _ _ _ _ _ _ _ _ _ _ _ _ _ _ _ _ _ _ _ _ _ _ _ _ _ _ _ _ _ _ _ _ _ _ _ _ _ _ _ _ _ hlen HV.out HF.out hk hjl hC hj h (by assumption) (by assumption)
      · exact outb_c w al B j gk s rs ad cp wr _ _ _ _ _ _ _ _ _ _ _ _ _ _ _ _ _ _ _ _ _ _ _ _ _ _ _ _ _ _ _ _ _ _ _ _ _ _ _ _ _ _ _ _ _ _ _ _ _ _ _ _ _ _ _ _ _ _ _ _ _ _ _ _ _ _ _ _ _ _ _ _ _ _ _ _ _ _ _ _ _ _ _ _ _ _ _ _ _ _ _ _ _ _ _ _ _ _ _ _ _ _ _ _ _ _ _ _ _ _ _ _ _ _ _ _ _ _ _ _ _ _ _ _ _ _ _ _ _ _ _ _ _ _ _ _ _ _ _ _ _ _ _ _ _ _ _ _ _ _ _ _ _ _ _ _ _ _ _ _ _ _ _ _ _ _ _ _ _ _ _ _ _ _ _ _ _ _ _ _ _ _ _ _ _ _ _ _ _ _ _ hlen HV.out HF.out hk hjl hC hj h (by assumption) (by assumption)
      · exact outb_d w al B j gk s rs ad cp wr _ _ _ _ _ _ _ _ _ _ _ _ _ _ _ _ _ _ _ _ _ _ _ _ _ _ _ _ _ _ _ _ _ _ _ _ _ _ _ _ _ _ _ _ _ _ _ _ _ _ _ _ _ _ _ _ _ _ _ _ _ _ _ _ _ _ _ _ _ _ _ _ _ _ _ _ _ _ _ _ _ _ _ _ _ _ _ _ _ _ _ _ _ _ _ _ _ _ _ _ _ _ _ _ _ _ _ _ _ _ _ _ _ _ _ _ _ _ _ _ _ _ _ _ _ _ _ _ _ _ _ _ _ _ _ _ _ _ _ _ _ _ _ _ _ _ _ _ _ _ _ _ _ _ _ _ _ _ _ _ _ _ _ _ _ _ _ _ _ _ _ _ _ _ _ _ _ _ _ _ _ _ _ _ _ _ _ _ _ _ _ hlen HV.out HF.out hk hjl hC hj h (by assumption) (by assumption)
      · exact outb_e w al B j gk s rs ad cp wr _ _ _ _ _ _ _ _ _ _ _ _ _ _ _ _ _ _ _ _ _ _ _ _ _ _ _ _ _ _ _ _ _ _ _ _ _ _ _ _ _ _ _ _ _ _ _ _ _ _ _ _ _ _ _ _ _ _ _ _ _ _ _ _ _ _ _ _ _ _ _ _ _ _ _ _ _ _ _ _ _ _ _ _ _ _ _ _ _ _ _ _ _ _ _ _ _ _ _ _ _ _ _ _ _ _ _ _ _ _ _ _ _ _ _ _ _ _ _ _ _ _ _ _ _ _ _ _ _ _ _ _ _ _ _ _ _ _ _ _ _ _ _ _ _ _ _ _ _ _ _ _ _ _ _ _ _ _ _ _ _ _ _ _ _ _ _ _ _ _ _ _ _ _ _ _ _ _ _ _ _ _ _ _ _ _ _ _ _ _ _ hlen HV.out HF.out hk hjl hC hj h (by assumption) (by assumption)
      · exact outb_f w al B j gk s rs ad cp wr _ _ _ _ _ _ _ _ _ _ _ _ _ _ _ _ _ _ _ _ _ _ _ _ _ _ _ _ _ _ _ _ _ _ _ _ _ _ _ _ _ _ _ _ _ _ _ _ _ _ _ _ _ _ _ _ _ _ _ _ _ _ _ _ _ _ _ _ _ _ _ _ _ _ _ _ _ _ _ _ _ _ _ _ _ _ _ _ _ _ _ _ _ _ _ _ _ _ _ _ _ _ _ _ _ _ _ _ _ _ _ _ _ _ _ _ _ _ _ _ _ _ _ _ _ _ _ _ _ _ _ _ _ _ _ _ _ _ _ _ _ _ _ _ _ _ _ _ _ _ _ _ _ _ _ _ _ _ _ _ _ _ _ _ _ _ _ _ _ _ _ _ _ _ _ _ _ _ _ _ _ _ _ _ _ _ _ _ _ _ _ hlen HV.out HF.out hk hjl hC hj h (by assumption) (by assumption)
    · have D := Lib.hid (hC.done hj hjl)
      clear hC A
      go_wp2
      go_ret2
      exact D.out
end Go.Proofs.YtalpilbpgkijlaaDoor
