/- What the row's listed variable gives a walk: the package's error is a pointer that is not nil. No condition. -/
import Derived.Test.YtalpilbpgkijlaaDoorOpens
import Derived.Stop.LaidErr
namespace Go.Proofs.YtalpilbpgkijlaaDoor
open Go.ChangeShapes Go.WideShapes Go.ChangeAt Go.RowKit

theorem err_star : "*" ++ "errors.errorString" = "*errors.errorString" := by decide
theorem err_row (u : TypeId) (h : Tryd.prog.typeName? 3 u = some "*errors.errorString") : u = 108 :=
  typeName_ptr_named (nm := "errors.errorString") (by rw [err_star]; kernel_rfl) (by kernel_rfl) (by decide) u (by rw [err_star]; exact h)
theorem err_global : Tryd.prog.globalNamed "http2flow/pub/http2frames.errReadEmpty" = some 0 := by kernel_rfl
theorem err_gtype : (Tryd.prog.globals[0]?).map (·.type) = some 65 := by kernel_rfl
theorem cells124 : Tryd.prog.cellsOf 124 = 1 := by kernel_rfl
theorem cells9 : Tryd.prog.cellsOf 9 = 1 := by kernel_rfl
theorem err_laid {W : World} (hL : laidMet Tryd.prog [("http2flow/pub/http2frames.errReadEmpty", Rows.laid_http2flow_pub_http2frames_errReadEmpty)] W) :
    ∃ p, W.cell? ⟨0, 0, none⟩ = some (.iface 108 (.pointer (some p))) := by
  obtain ⟨p, s, hv, _, _, _⟩ := laid_sentinel hL err_global err_gtype Tryd.underlying65 err_row Tryd.underlying108 Tryd.underlying124 rfl rfl Tryd.underlying9 cells124 cells9
  exact ⟨p, by simpa using World.var?_cell err_global hv 0⟩
end Go.Proofs.YtalpilbpgkijlaaDoor
