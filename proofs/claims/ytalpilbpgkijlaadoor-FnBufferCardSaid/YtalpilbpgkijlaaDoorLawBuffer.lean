/- laws.FnBuffer answers true (the walk). Condition: the list reads as steps; the package's error lies in its variable. -/
import Derived.Test.YtalpilbpgkijlaaDoorQueue
import Derived.Test.YtalpilbpgkijlaaDoorMatches
import Derived.Test.YtalpilbpgkijlaaDoorRuns
namespace Go.Proofs.YtalpilbpgkijlaaDoor
open Go.RowKit
set_option maxRecDepth 100000
set_option maxHeartbeats 4000000

theorem total_bound : ∀ (al : List StepA), (∀ a ∈ al, a.bytes.length ≤ 2147483647) → total al ≤ 2147483647 * al.length := by
  intro al
  induction al with
  | nil => intro _; exact Nat.zero_le _
  | cons a al ih =>
    intro h
    have h1 := ih (fun b hb => h b (List.mem_cons_of_mem _ hb))
    have h2 := h a (List.mem_cons_self ..)
    unfold total at h1 ⊢
    simp only [List.map_cons, List.sum_cons, List.length_cons]
    omega
def SumRel (al : List StepA) (w : World) (k : Nat) (n i : Value) (wr : World) : Prop :=
  ∃ j : Nat, k + j = al.length ∧ i = .int .i64 j ∧ j ≤ al.length ∧ n = .int .i64 (total (al.take j)) ∧ Same (fun _ => False) w wr

theorem fnbuffer_any (w : World) (ex : Int) (hex : Bd ex) (v : Value) (al : List StepA) (hv : StepsR (fun _ => True) w v al) (p : Addr) (hg : w.cell? ⟨0, 0, none⟩ = some (.iface 108 (.pointer (some p)))) :
    Calls Tryd.prog 4 #[.int .i64 ex, v] w fun e w' => e = .returned (.bool true) ∧ Same (fun _ => False) w w' := by
  obtain ⟨ad, cp, rfl, hmax, hform⟩ := RowR.form hv
  have HV := Lib.hid hv
  have HF := Lib.hid hform
  have HG := Lib.hid (And.intro hg hex)
  clear hv hform hg hex
  go_enter Tryd.func4, Tryd.ntmps4
  go_wp2_with fail
  refine (fits_any w _ al HV.out).mono ?_
  rintro e w1 ⟨b, rfl, hb, hS1⟩
  have H1 := Lib.hid hS1
  cases b with
  | false =>
    clear hb hS1
    go_wp2
    go_ret
    exact ⟨rfl, H1.out⟩
  | true =>
    obtain ⟨hal, hby⟩ := hb rfl
    have HBy := Lib.hid hby
    clear hb hS1 hby
    have hv1 : StepsR (fun _ => True) w1 (.slice ad al.length cp) al := HV.out.same H1.out (fun _ _ h => ⟨fun h => h, h⟩)
    have HV1 := Lib.hid hv1
    clear hv1
    go_wp2_with fail
    go_loopg [5, 13] al.length (fun k n i wr => SumRel al w1 k n i wr)
    case atStart => exact ⟨0, rfl, rfl, Nat.zero_le _, rfl, Same.refl _ _⟩
    case round =>
      obtain ⟨j, hk, rfl, hjl, rfl, hS⟩ := hrel
      by_cases hj : j < al.length
      · obtain ⟨pb, po, ps, rfl⟩ := HF.out j hj
        obtain ⟨rfl, x, hx, q0, q1, q2, q3⟩ := HV1.out.at hS hj
        have hcl := World.block_lt_of_cell? _ _ q0
        simp only at hcl
        have hnb : ¬ pb = wr.heap.size := by omega
        have hln := hx.2.2.2.2.2.2.1
        have htj := (total_take al hj).1
        have hbd := total_bound (al.take j) (fun a ha => HBy.out a (List.mem_of_mem_take ha))
        have hby1 := HBy.out al[j] (List.getElem_mem _)
        rw [List.length_take] at hbd
        obtain ⟨T, hT⟩ : ∃ T, total (al.take j) = T := ⟨_, rfl⟩
        rw [hT] at hbd ⊢
        have hTb : T ≤ 4611686014132420609 := by omega
        have hlb : x.ln ≤ 2147483647 := by omega
        have A := Lib.hid (And.intro hk (And.intro hS (And.intro hln (And.intro htj hT))))
        clear hk hS hx hln htj hT hbd hby1
        go_wp2
        go_roundg (gk - 1)
        case measure => have := A.out.1; omega
        case rel =>
          obtain ⟨hk, hS, hln, htj, hT⟩ := A.out
          refine ⟨j + 1, by omega, rfl, by omega, ?_, hS.alloc _⟩
          congr 1
          omega
      · have hje : j = al.length := by omega
        obtain ⟨T, hT⟩ : ∃ T, total al = T := ⟨_, rfl⟩
        have hbd := total_bound al HBy.out
        rw [hje, List.take_length, hT]
        rw [hT] at hbd
        have hTb : T ≤ 4611686014132420609 := by omega
        have H2 := Lib.hid (And.intro (H1.out.trans hS (fun _ _ h => h)) hT)
        clear hk hje hS hT hbd
        by_cases hlen : 1000 < al.length
        · have h1 : 1000 < (al.length : Int) := by omega
          go_wp2
          go_ret
          exact ⟨rfl, H2.out.1⟩
        have hlen1 : ¬ 1000 < (al.length : Int) := by omega
        by_cases htot : 1048576 < T
        · have h1 : 1048576 < (T : Int) := by omega
          go_wp2
          go_ret
          exact ⟨rfl, H2.out.1⟩
        have htot1 : ¬ 1048576 < (T : Int) := by omega
        have HV2 := Lib.hid (HV.out.same H2.out.1 (H := fun _ => True) (fun _ _ h => ⟨fun h => h, h⟩))
        go_wp2_with fail
        refine (queue_any wr _ al HV2.out (by omega) (by rw [H2.out.2]; omega)).mono ?_
        rintro e w2 ⟨v2, rs, q, rfl, hS2, hrun, hR2⟩
        have hrl := hrun.length
        have hruns : Runs StpB (fun _ _ => False) [] al rs := by simpa using hrun.runs [] [] .nil
        have HR := Lib.hid (And.intro hruns hR2)
        have H3 := Lib.hid (H2.out.1.trans hS2 (fun _ _ h => h))
        have HV3 := Lib.hid (HV2.out.same hS2 (H := fun _ => True) (fun _ _ h => ⟨fun h => h, h⟩))
        clear hS2 hrun hruns hR2
        go_wp2_with fail
        refine (given_any w2 _ al HV3.out (by omega)).mono ?_
        rintro e w3 ⟨v3, rfl, hS3, hR3⟩
        have H4 := Lib.hid (And.intro hS3 hR3)
        clear hS3 hR3
        go_wp2_with fail
        refine (buffer_any _ ex HG.out.2 _ al rs H4.out.2 HR.out.1 (by omega) p ((H3.out.trans H4.out.1 (fun _ _ h => h)).cell (p := ⟨0, 0, none⟩) (fun h => h) HG.out.1)).mono ?_
        rintro e w4 ⟨v4, rfl, hS4, hR4⟩
        have H5 := Lib.hid (And.intro hS4 hR4)
        clear hS4 hR4
        go_wp2_with fail
        refine (plain_any w4 _ rs H5.out.2 (by omega)).mono ?_
        rintro e w5 ⟨v5, rfl, hS5, hR5⟩
        have hS25 := (H4.out.1.trans H5.out.1 (fun _ _ h => h)).trans hS5 (fun _ _ h => h)
        have H6 := Lib.hid (And.intro hS25 (And.intro hR5 (HR.out.2.same (H := fun _ => True) hS25 (fun _ _ h => ⟨fun h => h, h⟩))))
        clear hS5 hR5 hS25
        go_wp2_with fail
        refine (matches_true w5 _ _ rs rs true H6.out.2.2 H6.out.2.1 (Nat.le_refl _) (fun _ => rfl) (fun j h => List.getElem?_eq_getElem h)).mono ?_
        rintro e w6 ⟨rfl, hS6⟩
        have H7 := Lib.hid hS6
        clear hS6
        go_wp2_with fail
        refine (runs_any _).mono ?_
        rintro e w7 ⟨rfl, hS7⟩
        have H8 := Lib.hid hS7
        clear hS7
        go_wp2
        go_ret
        exact ⟨rfl, ((H3.out.trans H6.out.1 (fun _ _ h => h)).trans H7.out (fun _ _ h => h)).trans H8.out (fun _ _ h => h)⟩
end Go.Proofs.YtalpilbpgkijlaaDoor
