/- FnBalance's law over the model of the inbound windows, plain: what a step can answer, and that every list of its steps has a run. No condition. -/
import Derived.Test.YtalpilbpgkijlaaDoorInModel
namespace Go.Proofs.YtalpilbpgkijlaaDoor
/-- A step that FnBalance looks at. -/
def Val (a : StepA) : Prop := (a.what = 1 ∨ a.what = 2) ∧ 0 ≤ a.n ∧ a.n ≤ 2147483647
def stp0 (a : StepA) : StepA := ⟨a.what, 0, a.n, []⟩
/-- The windows are within their bounds. -/
structure OkIn (s : InS) : Prop where
  a0 : 0 ≤ s.a0
  u0 : 0 ≤ s.u0
  t0 : s.a0 + s.u0 ≤ 2147483647
  a1 : 0 ≤ s.a1
  u1 : 0 ≤ s.u1
  t1 : s.a1 + s.u1 ≤ 2147483647
  h0 : s.u0 < 4096
  h1 : s.u1 < 4096

inductive BalStep (s : InS) (a : StepA) : ResA → InS → Prop
  | wait (h : a.what = 1) (h1 : s.u0 + a.n + s.a0 ≤ 2147483647) (h2 : s.u0 + a.n < 4096) (h3 : s.u0 + a.n < s.a0) : BalStep s a ⟨0, false, [], false⟩ ⟨s.a0, s.u0 + a.n, s.a1, s.u1⟩
  | flush (h : a.what = 1) (h1 : s.u0 + a.n + s.a0 ≤ 2147483647) (h2 : 4096 ≤ s.u0 + a.n ∨ s.a0 ≤ s.u0 + a.n) : BalStep s a ⟨s.u0 + a.n, false, [], false⟩ ⟨s.a0 + (s.u0 + a.n), 0, s.a1, s.u1⟩
  | take (h : a.what = 2) (h1 : a.n ≤ s.a0) : BalStep s a ⟨0, true, [], false⟩ ⟨s.a0 - a.n, s.u0, s.a1, s.u1⟩
  | takeno (h : a.what = 2) (h1 : s.a0 < a.n) : BalStep s a ⟨0, false, [], false⟩ s

theorem bal_inv {s s' : InS} {a : StepA} {r : ResA} (hv : Val a) (h : StpIn s (stp0 a) r s') : BalStep s a r s' := by
  obtain ⟨hw, h0, h1⟩ := hv
  cases h with
  | init0 hx => have : a.what = 0 := hx; omega
  | init1 hx => have : a.what = 0 := hx; omega
  | wait0 hx hy a1 a2 a3 a4 b0 b1 b2 b3 => exact .wait hx b1 b2 b3
  | flush0 hx hy a1 a2 a3 a4 b0 b1 b2 => exact .flush hx b1 b2
  | takeno0 hx hy a1 a2 a3 a4 b0 b1 b2 => exact .takeno hx b2
  | take0 hx hy a1 a2 a3 a4 b0 b1 => exact .take hx b1
  | wait1 hx hy => have : (0 : Int) = 1 := hy; omega
  | flush1 hx hy => have : (0 : Int) = 1 := hy; omega
  | takeno1 hx hy => have : (0 : Int) = 1 := hy; omega
  | take1 hx hy => have : (0 : Int) = 1 := hy; omega
  | bothno hx => have : a.what = 3 := hx; omega
  | both hx => have : a.what = 3 := hx; omega
  | whichlo h => have : (0 : Int) < 0 := h; omega
  | whichhi h => have : (1 : Int) < 0 := h; omega
  | whatlo _ _ h => have : a.what < 0 := h; omega
  | whathi _ _ h => have : 3 < a.what := h; omega

theorem bal_die {s : InS} {a : StepA} (hv : Val a) (h : DieIn s (stp0 a)) : a.what = 1 ∧ 2147483647 < s.u0 + a.n + s.a0 := by
  obtain ⟨hw, h0, h1⟩ := hv
  cases h with
  | neg0 _ _ h => have : a.n < 0 := h; omega
  | neg1 _ _ h => have : a.n < 0 := h; omega
  | over0 hx _ _ _ _ _ _ _ b => exact ⟨hx, b⟩
  | over1 _ hy => have : (0 : Int) = 1 := hy; omega

theorem BalStep.ok {s s' : InS} {a : StepA} {r : ResA} (hv : Val a) (hs : OkIn s) (h : BalStep s a r s') : OkIn s' := by
  obtain ⟨_, h0, h1⟩ := hv
  obtain ⟨p1, p2, p3, p4, p5, p6, p7, p8⟩ := hs
  cases h with
  | wait h h1 h2 h3 => exact ⟨p1, by show (0 : Int) ≤ s.u0 + a.n; omega, by show s.a0 + (s.u0 + a.n) ≤ 2147483647; omega, p4, p5, p6, h2, p8⟩
  | flush h h1 h2 => exact ⟨by show (0 : Int) ≤ s.a0 + (s.u0 + a.n); omega, by show (0 : Int) ≤ 0; omega, by show s.a0 + (s.u0 + a.n) + 0 ≤ 2147483647; omega, p4, p5, p6, by show (0 : Int) < 4096; omega, p8⟩
  | take h h1 => exact ⟨by show 0 ≤ s.a0 - a.n; omega, p2, by show s.a0 - a.n + s.u0 ≤ 2147483647; omega, p4, p5, p6, p7, p8⟩
  | takeno h h1 => exact ⟨p1, p2, p3, p4, p5, p6, p7, p8⟩

theorem bal_runs : ∀ (al : List StepA) (s : InS), OkIn s → (∀ a ∈ al, Val a) → ∃ rs, Runs StpIn DieIn s (al.map stp0) rs := by
  intro al
  induction al with
  | nil => intro s _ _; exact ⟨[], .nil⟩
  | cons a al ih =>
    intro s hs hall
    have hv := hall a (List.mem_cons_self ..)
    have hrest := fun b hb => hall b (List.mem_cons_of_mem _ hb)
    have go : ∀ r s', StpIn s (stp0 a) r s' → r.pn = false → ∃ rs, Runs StpIn DieIn s ((a :: al).map stp0) rs := by
      intro r s' h hp
      obtain ⟨rs, hr⟩ := ih s' ((bal_inv hv h).ok hv hs) hrest
      exact ⟨r :: rs, .step h hp hr⟩
    obtain ⟨hw, h0, h1⟩ := hv
    obtain ⟨p1, p2, p3, p4, p5, p6, p7, p8⟩ := hs
    rcases hw with hw | hw
    · by_cases hov : 2147483647 < s.u0 + a.n + s.a0
      · exact ⟨_, .dead (.over0 hw rfl p2 (by omega) p1 (by omega) h0 h1 hov)⟩
      · by_cases hwt : s.u0 + a.n < 4096 ∧ s.u0 + a.n < s.a0
        · exact go _ _ (.wait0 hw rfl p2 (by omega) p1 (by omega) h0 (by show s.u0 + a.n + s.a0 ≤ 2147483647; omega) hwt.1 hwt.2) rfl
        · exact go _ _ (.flush0 hw rfl p2 (by omega) p1 (by omega) h0 (by show s.u0 + a.n + s.a0 ≤ 2147483647; omega) (by show 4096 ≤ s.u0 + a.n ∨ s.a0 ≤ s.u0 + a.n; omega)) rfl
    · by_cases hn : a.n ≤ s.a0
      · exact go _ _ (.take0 hw rfl p2 (by omega) p1 (by omega) h0 hn) rfl
      · exact go _ _ (.takeno0 hw rfl p2 (by omega) p1 (by omega) h0 h1 (by show s.a0 < a.n; omega)) rfl

/-- The run of FnBalance's list: the window is set, then its steps. -/
theorem bal_start (window : Int) (al : List StepA) (h0 : 0 ≤ window) (h1 : window ≤ 2147483647) (hall : ∀ a ∈ al, Val a) :
    ∃ rs, Runs StpIn DieIn ⟨0, 0, 0, 0⟩ (⟨0, 0, window, []⟩ :: al.map stp0) (⟨0, false, [], false⟩ :: rs) ∧ Runs StpIn DieIn ⟨window, 0, 0, 0⟩ (al.map stp0) rs ∧ OkIn ⟨window, 0, 0, 0⟩ := by
  have hok : OkIn ⟨window, 0, 0, 0⟩ := ⟨h0, by show (0 : Int) ≤ 0; omega, by show window + 0 ≤ 2147483647; omega, by show (0 : Int) ≤ 0; omega, by show (0 : Int) ≤ 0; omega, by show (0 : Int) + 0 ≤ 2147483647; omega, by show (0 : Int) < 4096; omega, by show (0 : Int) < 4096; omega⟩
  obtain ⟨rs, hr⟩ := bal_runs al _ hok hall
  exact ⟨rs, .step (.init0 rfl rfl h0 h1) rfl hr, hr, hok⟩

theorem runs_length {σ : Type} {stp : σ → StepA → ResA → σ → Prop} {die : σ → StepA → Prop} {s : σ} {al : List StepA} {rs : List ResA} (h : Runs stp die s al rs) : rs.length ≤ al.length := by
  induction h with
  | nil => exact Nat.le_refl _
  | step _ _ _ ih => simp; omega
  | dead _ => simp
end Go.Proofs.YtalpilbpgkijlaaDoor
