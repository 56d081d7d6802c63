/- laws.last: the last result (the walk). Condition: there is one. -/
import Derived.Test.YtalpilbpgkijlaaDoorCopies
namespace Go.Proofs.YtalpilbpgkijlaaDoor
open Go.RowKit
set_option maxRecDepth 100000
set_option maxHeartbeats 1000000
theorem last_any (w : World) (v : Value) (rs : List ResA) (r : ResA) (hv : ResultsR (fun _ => True) w v (rs ++ [r])) :
    Calls Tryd.prog 19 #[v] w fun e w' => ∃ x : ResV, e = .returned x.agg ∧ ResR (fun _ => True) w' x r ∧ Same (fun _ => False) w w' := by
  obtain ⟨ad, cp, rfl, hmax, hform⟩ := RowR.form hv
  have hl : (rs ++ [r]).length = rs.length + 1 := by simp
  rw [hl] at hv hmax hform ⊢
  obtain ⟨pb, po, ps, rfl⟩ := hform rs.length (by omega)
  obtain ⟨rfl, x, hx, q0, q1, q2, q3⟩ := ResultsR.at hv (Same.refl _ w) (j := rs.length) (by omega)
  rw [List.getElem_append_right (Nat.le_refl _)] at hx
  simp only [Nat.sub_self, List.getElem_cons_zero] at hx
  have hcl := World.block_lt_of_cell? _ _ q0
  simp only at hcl
  have hne : ¬ pb = w.heap.size := by omega
  have hz : (((rs.length : Int) + 1) == 0) = false := beq_eq_false_iff_ne.2 (by omega)
  have hz' : ¬ ((rs.length : Int) + 1 = 0) := by omega
  have H := Lib.hid hx
  clear hx hv hform
  go_enter Tryd.func19, Tryd.ntmps19
  go_wp2
  refine bodyPost_ret (v := x.agg) (by simp [results, Tryd.results19, go_sem, ResV.agg]) rfl ?_
  have hs : Same (fun _ => False) w (w.alloc (.cells #[.int .i64 x.n, .bool x.ok, .slice x.ad x.ln x.cp, .bool x.pn] 32)) := (Same.refl _ _).alloc _
  exact ⟨x, rfl, H.out.same hs (fun _ _ h => ⟨fun h => h, h⟩), hs⟩
end Go.Proofs.YtalpilbpgkijlaaDoor
