/- What laws.FnTransfer keeps: the sender's windows are what the receiver may still take, and nothing is lost (plain). Condition: the window is from 1 to the greatest one. -/
import Derived.Test.YtalpilbpgkijlaaDoorInModel
import Derived.Test.YtalpilbpgkijlaaDoorOutbDefs
namespace Go.Proofs.YtalpilbpgkijlaaDoor
open Go.RowKit
set_option maxRecDepth 100000
set_option maxHeartbeats 1000000
/-- A run in which no step dies, up to a state. -/
inductive RunTo {σ : Type} (stp : σ → StepA → ResA → σ → Prop) : σ → List StepA → List ResA → σ → Prop
  | nil {s} : RunTo stp s [] [] s
  | step {s a r s' al rs t} : stp s a r s' → r.pn = false → RunTo stp s' al rs t → RunTo stp s (a :: al) (r :: rs) t
theorem RunTo.snoc {σ : Type} {stp : σ → StepA → ResA → σ → Prop} {s t t' : σ} {al : List StepA} {rs : List ResA} {a : StepA} {r : ResA} (h : RunTo stp s al rs t) (hs : stp t a r t') (hp : r.pn = false) : RunTo stp s (al ++ [a]) (rs ++ [r]) t' := by
  induction h with
  | nil => exact .step hs hp .nil
  | step h1 h2 _ ih => exact .step h1 h2 (ih hs)
theorem RunTo.runs {σ : Type} {stp : σ → StepA → ResA → σ → Prop} {die : σ → StepA → Prop} {s t : σ} {al : List StepA} {rs : List ResA} (h : RunTo stp s al rs t) : Runs stp die s al rs := by
  induction h with
  | nil => exact .nil
  | step h1 h2 _ ih => exact .step h1 h2 ih
theorem RunTo.length {σ : Type} {stp : σ → StepA → ResA → σ → Prop} {s t : σ} {al : List StepA} {rs : List ResA} (h : RunTo stp s al rs t) : rs.length = al.length := by
  induction h with
  | nil => rfl
  | step _ _ _ ih => simp [ih]

def in0 : InS := ⟨0, 0, 0, 0⟩
structure Tr (W : Int) (ao ai : List StepA) (ro ri : List ResA) (so : OutS) (si : InS) (p0 p1 : Int) : Prop where
  ro : RunTo StpOut out0 ao ro so
  ri : RunTo StpIn in0 ai ri si
  hW : 1 ≤ W ∧ W ≤ 2147483647
  ini : so.ini = W
  err : so.err = false
  cn : so.cn = si.a0
  d : W + so.d 0 = si.a1
  t0 : si.a0 + si.u0 + p0 = 65535
  t1 : si.a1 + si.u1 + p1 = W
  pos : 0 ≤ si.a0 ∧ 0 ≤ si.u0 ∧ 0 ≤ si.a1 ∧ 0 ≤ si.u1 ∧ 0 ≤ p0 ∧ 0 ≤ p1
  f0 : p0 = 0 → si.u0 = 0 ∨ si.u0 < si.a0
  f1 : p1 = 0 → si.u1 = 0 ∨ si.u1 < si.a1
theorem Tr.start {W : Int} (h1 : 1 ≤ W) (h2 : W ≤ 2147483647) : Tr W [⟨0, 0, W, []⟩] [⟨0, 0, 65535, []⟩, ⟨0, 1, W, []⟩] [⟨0, true, [], false⟩] [⟨0, false, [], false⟩, ⟨0, false, [], false⟩] ⟨W, 65535, false, fun _ => 0⟩ ⟨65535, 0, W, 0⟩ 0 0 := by
  have e : wrap32 W = W := wrap32_in ⟨by omega, by omega⟩
  refine ⟨?_, ?_, ⟨h1, h2⟩, rfl, rfl, rfl, ?_, ?_, ?_, ?_, fun _ => .inl rfl, fun _ => .inl rfl⟩
  · have h := StpOut.chg (s := out0) (x := ⟨0, 0, W, []⟩) rfl (by simp) (by simp) h2
    simp only [e] at h
    exact .step h rfl .nil
  · refine .step (.init0 rfl rfl (by simp) (by simp)) rfl (.step (.init1 rfl rfl ?_ h2) rfl .nil)
    show 0 ≤ W
    omega
  · show W + 0 = W
    omega
  · show (65535 : Int) + 0 + 0 = 65535
    omega
  · show W + 0 + 0 = W
    omega
  · exact ⟨by show (0 : Int) ≤ 65535; omega, Int.le_refl _, by show 0 ≤ W; omega, Int.le_refl _, by decide, by decide⟩
section
variable {W : Int} {ao ai : List StepA} {ro ri : List ResA} {so : OutS} {si : InS} {p0 p1 : Int}
def Tr.room (so : OutS) : Int := min (so.ini + so.d 0) so.cn
theorem Tr.room_pos (h : Tr W ao ai ro ri so si 0 0) : 1 ≤ Tr.room so ∧ Tr.room so ≤ si.a0 ∧ Tr.room so ≤ si.a1 := by
  obtain ⟨_, _, hW, e1, _, e2, e3, t0, t1, ps, f0, f1⟩ := h
  unfold Tr.room
  rw [e1, e2, e3]
  have := f0 rfl
  have := f1 rfl
  omega
theorem Tr.avail (h : Tr W ao ai ro ri so si 0 0) : Tr W (ao ++ [⟨3, 0, 0, []⟩]) ai (ro ++ [⟨Tr.room so, true, [], false⟩]) ri so si 0 0 := by
  have hh := h
  obtain ⟨hro, hri, hW, e1, er, e2, e3, t0, t1, ps, f0, f1⟩ := h
  refine ⟨hro.snoc ?_ rfl, hri, hW, e1, er, e2, e3, t0, t1, ps, f0, f1⟩
  have e : wrap32 (so.ini + so.d 0) = so.ini + so.d 0 := wrap32_in ⟨by omega, by omega⟩
  have hs := StpOut.avail (s := so) (x := ⟨3, 0, 0, []⟩) rfl 0 (by omega) rfl er (by omega)
  rw [e] at hs
  exact hs
theorem Tr.send (h : Tr W ao ai ro ri so si 0 0) {n : Int} (h1 : 1 ≤ n) (hn : n ≤ Tr.room so) :
    ∃ so' si', Tr W (ao ++ [⟨4, 0, n, []⟩]) (ai ++ [⟨3, 0, n, []⟩]) (ro ++ [⟨0, false, [], false⟩]) (ri ++ [⟨0, true, [], false⟩]) so' si' n n := by
  obtain ⟨_, r0, r1⟩ := h.room_pos
  obtain ⟨hro, hri, hW, e1, er, e2, e3, t0, t1, ps, f0, f1⟩ := h
  have e : wrap32 (so.ini + so.d 0) = so.ini + so.d 0 := wrap32_in ⟨by omega, by omega⟩
  have en : wrap32 n = n := wrap32_in ⟨by omega, by omega⟩
  have ec : wrap32 (so.cn - n) = so.cn - n := wrap32_in ⟨by omega, by omega⟩
  have ed : wrap32 (so.d 0 - n) = so.d 0 - n := wrap32_in ⟨by omega, by omega⟩
  have hs := StpOut.take (s := so) (x := ⟨4, 0, n, []⟩) rfl 0 (by omega) rfl er (by omega) (by simp only [e, en]; exact hn)
  simp only [en, ec, ed] at hs
  refine ⟨_, ⟨si.a0 - n, si.u0, si.a1 - n, si.u1⟩, hro.snoc hs rfl, hri.snoc (.both rfl (by omega) (by omega) (by omega) (by omega) (by simp) (by simp) ?_ ?_ ?_) rfl, hW, e1, er, ?_, ?_, ?_, ?_, ?_, fun h => by omega, fun h => by omega⟩
  · show 0 ≤ n; omega
  · show n ≤ si.a0; omega
  · show n ≤ si.a1; omega
  · show so.cn - n = si.a0 - n; omega
  · show W + upd so.d 0 (so.d 0 - n) 0 = si.a1 - n
    simp only [upd, if_pos]
    omega
  · show si.a0 - n + si.u0 + n = 65535; omega
  · show si.a1 - n + si.u1 + n = W; omega
  · exact ⟨by show 0 ≤ si.a0 - n; omega, ps.2.1, by show 0 ≤ si.a1 - n; omega, ps.2.2.2.1, by omega, by omega⟩
theorem Tr.recv0 (h : Tr W ao ai ro ri so si p0 p1) (hp : 1 ≤ p0) :
    (∃ si', Tr W ao (ai ++ [⟨1, 0, p0, []⟩]) ro (ri ++ [⟨0, false, [], false⟩]) so si' 0 p1) ∨
    (∃ N so' si', 1 ≤ N ∧ N ≤ 2147483647 ∧ Tr W (ao ++ [⟨1, 0, N, []⟩]) (ai ++ [⟨1, 0, p0, []⟩]) (ro ++ [⟨0, true, [], false⟩]) (ri ++ [⟨N, false, [], false⟩]) so' si' 0 p1) := by
  obtain ⟨hro, hri, hW, e1, er, e2, e3, t0, t1, ps, f0, f1⟩ := h
  by_cases hf : si.u0 + p0 < 4096 ∧ si.u0 + p0 < si.a0
  · refine .inl ⟨⟨si.a0, si.u0 + p0, si.a1, si.u1⟩, hro, hri.snoc (.wait0 rfl rfl (by omega) (by omega) (by omega) (by omega) ?_ ?_ ?_ ?_) rfl, hW, e1, er, e2, e3, ?_, t1, ⟨ps.1, ?_, ps.2.2.1, ps.2.2.2.1, by omega, ps.2.2.2.2.2⟩, fun _ => .inr hf.2, f1⟩
    · show 0 ≤ p0; omega
    · show si.u0 + p0 + si.a0 ≤ 2147483647; omega
    · exact hf.1
    · exact hf.2
    · show si.a0 + (si.u0 + p0) + 0 = 65535; omega
    · show 0 ≤ si.u0 + p0; omega
  · have eN : wrap32 (si.u0 + p0) = si.u0 + p0 := wrap32_in ⟨by omega, by omega⟩
    have eC : wrap32 (so.cn + (si.u0 + p0)) = so.cn + (si.u0 + p0) := wrap32_in ⟨by omega, by omega⟩
    have hs := StpOut.addc (s := so) (x := ⟨1, 0, si.u0 + p0, []⟩) rfl (by simp) (by simp) (by simp only [eN]; omega)
    simp only [eN, eC] at hs
    refine .inr ⟨si.u0 + p0, _, ⟨si.a0 + (si.u0 + p0), 0, si.a1, si.u1⟩, by omega, by omega, hro.snoc hs rfl, hri.snoc (.flush0 rfl rfl (by omega) (by omega) (by omega) (by omega) ?_ ?_ ?_) rfl, hW, e1, er, ?_, e3, ?_, t1, ⟨?_, Int.le_refl _, ps.2.2.1, ps.2.2.2.1, by omega, ps.2.2.2.2.2⟩, fun _ => .inl rfl, f1⟩
    · show 0 ≤ p0; omega
    · show si.u0 + p0 + si.a0 ≤ 2147483647; omega
    · show 4096 ≤ si.u0 + p0 ∨ si.a0 ≤ si.u0 + p0; omega
    · show so.cn + (si.u0 + p0) = si.a0 + (si.u0 + p0); omega
    · show si.a0 + (si.u0 + p0) + 0 + 0 = 65535; omega
    · show 0 ≤ si.a0 + (si.u0 + p0); omega
theorem Tr.recv1 (h : Tr W ao ai ro ri so si p0 p1) (hp : 1 ≤ p1) :
    (∃ si', Tr W ao (ai ++ [⟨1, 1, p1, []⟩]) ro (ri ++ [⟨0, false, [], false⟩]) so si' p0 0) ∨
    (∃ N so' si', 1 ≤ N ∧ N ≤ 2147483647 ∧ Tr W (ao ++ [⟨2, 0, N, []⟩]) (ai ++ [⟨1, 1, p1, []⟩]) (ro ++ [⟨0, true, [], false⟩]) (ri ++ [⟨N, false, [], false⟩]) so' si' p0 0) := by
  obtain ⟨hro, hri, hW, e1, er, e2, e3, t0, t1, ps, f0, f1⟩ := h
  by_cases hf : si.u1 + p1 < 4096 ∧ si.u1 + p1 < si.a1
  · refine .inl ⟨⟨si.a0, si.u0, si.a1, si.u1 + p1⟩, hro, hri.snoc (.wait1 rfl rfl (by omega) (by omega) (by omega) (by omega) ?_ ?_ ?_ ?_) rfl, hW, e1, er, e2, e3, t0, ?_, ⟨ps.1, ps.2.1, ps.2.2.1, ?_, ps.2.2.2.2.1, by omega⟩, f0, fun _ => .inr hf.2⟩
    · show 0 ≤ p1; omega
    · show si.u1 + p1 + si.a1 ≤ 2147483647; omega
    · exact hf.1
    · exact hf.2
    · show si.a1 + (si.u1 + p1) + 0 = W; omega
    · show 0 ≤ si.u1 + p1; omega
  · have eN : wrap32 (si.u1 + p1) = si.u1 + p1 := wrap32_in ⟨by omega, by omega⟩
    have eD : wrap32 (so.d 0 + (si.u1 + p1)) = so.d 0 + (si.u1 + p1) := wrap32_in ⟨by omega, by omega⟩
    have hs := StpOut.adds (s := so) (x := ⟨2, 0, si.u1 + p1, []⟩) rfl 0 (by omega) rfl (by omega) (by simp only [eN]; omega)
    simp only [eN, eD] at hs
    refine .inr ⟨si.u1 + p1, _, ⟨si.a0, si.u0, si.a1 + (si.u1 + p1), 0⟩, by omega, by omega, hro.snoc hs rfl, hri.snoc (.flush1 rfl rfl (by omega) (by omega) (by omega) (by omega) ?_ ?_ ?_) rfl, hW, e1, er, e2, ?_, t0, ?_, ⟨ps.1, ps.2.1, ?_, Int.le_refl _, ps.2.2.2.2.1, by omega⟩, f0, fun _ => .inl rfl⟩
    · show 0 ≤ p1; omega
    · show si.u1 + p1 + si.a1 ≤ 2147483647; omega
    · show 4096 ≤ si.u1 + p1 ∨ si.a1 ≤ si.u1 + p1; omega
    · show W + upd so.d 0 (so.d 0 + (si.u1 + p1)) 0 = si.a1 + (si.u1 + p1)
      simp only [upd, if_pos]
      omega
    · show si.a1 + (si.u1 + p1) + 0 + 0 = W; omega
    · show 0 ≤ si.a1 + (si.u1 + p1); omega
end
end Go.Proofs.YtalpilbpgkijlaaDoor
