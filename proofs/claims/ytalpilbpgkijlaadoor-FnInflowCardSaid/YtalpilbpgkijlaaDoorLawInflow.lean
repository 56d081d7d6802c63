/- laws.FnInflow answers true (the walk). Condition: the list reads as steps. -/
import Derived.Test.YtalpilbpgkijlaaDoorInbound
import Derived.Test.YtalpilbpgkijlaaDoorMatches
import Derived.Test.YtalpilbpgkijlaaDoorRuns
namespace Go.Proofs.YtalpilbpgkijlaaDoor
open Go.RowKit
set_option maxRecDepth 100000
set_option maxHeartbeats 4000000

theorem fninflow_any (w : World) (v : Value) (al : List StepA) (hv : StepsR (fun _ => True) w v al) : Calls Tryd.prog 5 #[v] w fun e w' => e = .returned (.bool true) ∧ Same (fun _ => False) w w' := by
  obtain ⟨ad, cp, rfl, hmax, hform⟩ := RowR.form hv
  have HV := Lib.hid hv
  clear hv hform
  go_enter Tryd.func5, Tryd.ntmps5
  go_wp2_with fail
  refine (fits_any w _ al HV.out).mono ?_
  rintro e w1 ⟨b, rfl, hb, hS1⟩
  have H1 := Lib.hid hS1
  clear hb hS1
  cases b with
  | false =>
    go_wp2
    go_ret
    exact ⟨rfl, H1.out⟩
  | true =>
    by_cases hlen : 1000 < al.length
    · have h1 : 1000 < (al.length : Int) := by omega
      go_wp2
      go_ret
      exact ⟨rfl, H1.out⟩
    have hlen1 : ¬ 1000 < (al.length : Int) := by omega
    have hv1 : StepsR (fun _ => True) w1 (.slice ad al.length cp) al := HV.out.same H1.out (fun _ _ h => ⟨fun h => h, h⟩)
    have HV1 := Lib.hid hv1
    clear hv1
    go_wp2_with fail
    refine (inbound_any w1 _ al HV1.out (by omega)).mono ?_
    rintro e w2 ⟨v2, ok, rfl, hS2, hok⟩
    have H2 := Lib.hid (H1.out.trans hS2 (fun _ _ h => h))
    have HV2 := Lib.hid (HV1.out.same hS2 (H := fun _ => True) (fun _ _ h => ⟨fun h => h, h⟩))
    have HK := Lib.hid hok
    clear hS2 hok
    cases ok with
    | false =>
      go_wp2
      go_ret
      exact ⟨rfl, H2.out⟩
    | true =>
      obtain ⟨rs, hr, hrl, hR2⟩ := HK.out rfl
      have HR := Lib.hid (And.intro hr hR2)
      clear hr hR2 HK
      go_wp2_with fail
      refine (given_any w2 _ al HV2.out (by omega)).mono ?_
      rintro e w3 ⟨v3, rfl, hS3, hR3⟩
      have H3 := Lib.hid (And.intro hS3 hR3)
      clear hS3 hR3
      go_wp2_with fail
      refine (inflow_any _ _ _ _ H3.out.2 HR.out.1 (by omega)).mono ?_
      rintro e w4 ⟨v4, rfl, hS4, hR4⟩
      have H4 := Lib.hid (And.intro hS4 hR4)
      clear hS4 hR4
      go_wp2_with fail
      refine (plain_any w4 _ rs H4.out.2 (by omega)).mono ?_
      rintro e w5 ⟨v5, rfl, hS5, hR5⟩
      have hS25 := (H3.out.1.trans H4.out.1 (fun _ _ h => h)).trans hS5 (fun _ _ h => h)
      have H5 := Lib.hid (And.intro hS25 (And.intro hR5 (HR.out.2.same (H := fun _ => True) hS25 (fun _ _ h => ⟨fun h => h, h⟩))))
      clear hS5 hR5 hS25
      go_wp2_with fail
      refine (matches_true w5 _ _ rs rs true H5.out.2.2 H5.out.2.1 (Nat.le_refl _) (fun _ => rfl) (fun j h => List.getElem?_eq_getElem h)).mono ?_
      rintro e w6 ⟨rfl, hS6⟩
      have H6 := Lib.hid hS6
      clear hS6
      go_wp2_with fail
      refine (runs_any _).mono ?_
      rintro e w7 ⟨rfl, hS7⟩
      have H7 := Lib.hid hS7
      clear hS7
      go_wp2
      go_ret
      exact ⟨rfl, ((H2.out.trans H5.out.1 (fun _ _ h => h)).trans H6.out (fun _ _ h => h)).trans H7.out (fun _ _ h => h)⟩
end Go.Proofs.YtalpilbpgkijlaaDoor
