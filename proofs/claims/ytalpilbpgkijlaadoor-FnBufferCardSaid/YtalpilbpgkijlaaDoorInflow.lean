/- The closure of impl.Inflow keeps its contract; impl.Inflow as data. Condition: at most 1,000,000 steps, and the run is one of the model's. -/
import Derived.Test.YtalpilbpgkijlaaDoorInModel
import Derived.Test.YtalpilbpgkijlaaDoorRun
import Derived.Test.YtalpilbpgkijlaaDoorClosInA
import Derived.Test.YtalpilbpgkijlaaDoorClosInB
import Derived.Test.YtalpilbpgkijlaaDoorClosInC
namespace Go.Proofs.YtalpilbpgkijlaaDoor
open Go.RowKit
set_option maxRecDepth 100000
set_option maxHeartbeats 1000000

def InvIn (b : Nat) (s : InS) (F : Nat → Prop) (w : World) : Prop := F = (fun k => k = b) ∧ Blk w b #[.int .i32 s.a0, .int .i32 s.u0, .int .i32 s.a1, .int .i32 s.u1] 52

theorem in_post {b : Nat} {w : World} {n : Int} {ok : Bool} {s' : InS} {e : Ending} {w' : World} (hn : Bd n) (h : InPost b w (.plain n ok false) s'.a0 s'.u0 s'.a1 s'.u1 e w') :
    Ends (StepPost (InvIn b) (fun k => k = b) w s' ⟨n, ok, [], false⟩) (fun _ => False) e w' := by
  obtain ⟨h1, h2, h3⟩ := h
  exact .inl ⟨_, h1, fun k => k = b, h3, ⟨rfl, h2⟩, fun k hk => .inl hk, rfl, rfl, rfl, hn, BytesAt.nil _ _⟩
theorem in_dies {b : Nat} {w : World} {e : Ending} {w' : World} (h : InDies b w e w') : Ends (fun _ _ => False) (fun w' => Same (fun k => k = b) w w') e w' := by
  obtain ⟨⟨s, h1⟩, h2⟩ := h
  exact .inr ⟨⟨9, s, h1⟩, h2⟩
theorem bd_small {n : Int} (h : -2147483648 ≤ n) (h' : n ≤ 2147483647) : Bd n := ⟨by omega, by omega⟩

theorem clos_in (b : Nat) : Clos 22 (.pointer (some ⟨b, 0, none⟩)) (InvIn b) StpIn DieIn where
  enter := enter_of Tryd.func22 (by kernel_rfl) (by kernel_rfl)
  lt := fun s F w h k hk => by
    obtain ⟨rfl, hB⟩ := h
    subst hk
    exact hB.lt
  keep := fun s F G w w' h hs hG => by
    obtain ⟨rfl, hB⟩ := h
    exact ⟨rfl, hB.same hs (hG b rfl)⟩
  step := by
    intro s F w v x r s' hI hv hst
    obtain ⟨rfl, hS⟩ := hI
    obtain ⟨e1, e2, e3, _, _, _, _⟩ := hv
    cases v with | mk what which n ad ln cp =>
    simp only at e1 e2 e3
    subst e1 e2 e3
    cases hst with
    | init0 hx hy h0 h1 =>
      refine Calls.mono (R := _) ?_ (fun e w' h => in_post (by exact bd_small (by omega) (by omega)) h)
      simp only [StepV.agg]
      rw [hx, hy]
      exact clos_init0 b s.a0 s.u0 s.a1 s.u1 ad ln cp w hS x.n h0 h1
    | wait0 hx hy hu hu' ha ha' h0 h1 h2 h3 =>
      refine Calls.mono (R := _) ?_ (fun e w' h => in_post (by exact bd_small (by omega) (by omega)) h)
      simp only [StepV.agg]
      rw [hx, hy]
      exact clos_wait0 b s.a0 s.u0 s.a1 s.u1 ad ln cp w hS hu hu' ha ha' x.n h0 h1 h2 h3
    | flush0 hx hy hu hu' ha ha' h0 h1 h2 =>
      refine Calls.mono (R := _) ?_ (fun e w' h => in_post (by exact bd_small (by omega) (by omega)) h)
      simp only [StepV.agg]
      rw [hx, hy]
      exact clos_flush0 b s.a0 s.u0 s.a1 s.u1 ad ln cp w hS hu hu' ha ha' x.n h0 h1 h2
    | takeno0 hx hy hu hu' ha ha' h0 h1 h2 =>
      refine Calls.mono (R := _) ?_ (fun e w' h => in_post (by exact bd_small (by omega) (by omega)) h)
      simp only [StepV.agg]
      rw [hx, hy]
      exact clos_takeno0 b s.a0 s.u0 s.a1 s.u1 ad ln cp w hS hu hu' ha ha' x.n h0 h1 h2
    | take0 hx hy hu hu' ha ha' h0 h1 =>
      refine Calls.mono (R := _) ?_ (fun e w' h => in_post (by exact bd_small (by omega) (by omega)) h)
      simp only [StepV.agg]
      rw [hx, hy]
      exact clos_take0 b s.a0 s.u0 s.a1 s.u1 ad ln cp w hS hu hu' ha ha' x.n h0 h1
    | init1 hx hy h0 h1 =>
      refine Calls.mono (R := _) ?_ (fun e w' h => in_post (by exact bd_small (by omega) (by omega)) h)
      simp only [StepV.agg]
      rw [hx, hy]
      exact clos_init1 b s.a0 s.u0 s.a1 s.u1 ad ln cp w hS x.n h0 h1
    | wait1 hx hy hu hu' ha ha' h0 h1 h2 h3 =>
      refine Calls.mono (R := _) ?_ (fun e w' h => in_post (by exact bd_small (by omega) (by omega)) h)
      simp only [StepV.agg]
      rw [hx, hy]
      exact clos_wait1 b s.a0 s.u0 s.a1 s.u1 ad ln cp w hS hu hu' ha ha' x.n h0 h1 h2 h3
    | flush1 hx hy hu hu' ha ha' h0 h1 h2 =>
      refine Calls.mono (R := _) ?_ (fun e w' h => in_post (by exact bd_small (by omega) (by omega)) h)
      simp only [StepV.agg]
      rw [hx, hy]
      exact clos_flush1 b s.a0 s.u0 s.a1 s.u1 ad ln cp w hS hu hu' ha ha' x.n h0 h1 h2
    | takeno1 hx hy hu hu' ha ha' h0 h1 h2 =>
      refine Calls.mono (R := _) ?_ (fun e w' h => in_post (by exact bd_small (by omega) (by omega)) h)
      simp only [StepV.agg]
      rw [hx, hy]
      exact clos_takeno1 b s.a0 s.u0 s.a1 s.u1 ad ln cp w hS hu hu' ha ha' x.n h0 h1 h2
    | take1 hx hy hu hu' ha ha' h0 h1 =>
      refine Calls.mono (R := _) ?_ (fun e w' h => in_post (by exact bd_small (by omega) (by omega)) h)
      simp only [StepV.agg]
      rw [hx, hy]
      exact clos_take1 b s.a0 s.u0 s.a1 s.u1 ad ln cp w hS hu hu' ha ha' x.n h0 h1
    | bothno hx ha ha' hc hc' hw0 hw1 h0 h1 h2 =>
      refine Calls.mono (R := _) ?_ (fun e w' h => in_post (by exact bd_small (by omega) (by omega)) h)
      simp only [StepV.agg]
      rw [hx]
      exact clos_bothno b s.a0 s.u0 s.a1 s.u1 ad ln cp w hS ha ha' hc hc' x.which x.n hw0 hw1 h0 h1 h2
    | both hx ha ha' hc hc' hw0 hw1 h0 h1 h2 =>
      refine Calls.mono (R := _) ?_ (fun e w' h => in_post (by exact bd_small (by omega) (by omega)) h)
      simp only [StepV.agg]
      rw [hx]
      exact clos_both b s.a0 s.u0 s.a1 s.u1 ad ln cp w hS ha ha' hc hc' x.which x.n hw0 hw1 h0 h1 h2
    | whichlo h =>
      refine Calls.mono (R := _) ?_ (fun e w' h => in_post (by exact bd_small (by omega) (by omega)) h)
      exact clos_whichlo b s.a0 s.u0 s.a1 s.u1 ad ln cp w hS x.what x.which x.n h
    | whichhi h =>
      refine Calls.mono (R := _) ?_ (fun e w' h => in_post (by exact bd_small (by omega) (by omega)) h)
      exact clos_whichhi b s.a0 s.u0 s.a1 s.u1 ad ln cp w hS x.what x.which x.n h
    | whatlo hw0 hw1 h =>
      refine Calls.mono (R := _) ?_ (fun e w' h => in_post (by exact bd_small (by omega) (by omega)) h)
      exact clos_whatlo b s.a0 s.u0 s.a1 s.u1 ad ln cp w hS x.what x.which x.n hw0 hw1 h
    | whathi hw0 hw1 h =>
      refine Calls.mono (R := _) ?_ (fun e w' h => in_post (by exact bd_small (by omega) (by omega)) h)
      exact clos_whathi b s.a0 s.u0 s.a1 s.u1 ad ln cp w hS x.what x.which x.n hw0 hw1 h
  dead := by
    intro s F w v x hI hv hst
    obtain ⟨rfl, hS⟩ := hI
    obtain ⟨e1, e2, e3, _, _, _, _⟩ := hv
    cases v with | mk what which n ad ln cp =>
    simp only at e1 e2 e3
    subst e1 e2 e3
    cases hst with
    | neg0 hx hy h =>
      refine Calls.mono (R := _) ?_ (fun e w' h => in_dies h)
      simp only [StepV.agg]
      rw [hx, hy]
      exact clos_neg0 b s.a0 s.u0 s.a1 s.u1 ad ln cp w hS x.n h
    | over0 hx hy hu hu' ha ha' h0 h1 h2 =>
      refine Calls.mono (R := _) ?_ (fun e w' h => in_dies h)
      simp only [StepV.agg]
      rw [hx, hy]
      exact clos_over0 b s.a0 s.u0 s.a1 s.u1 ad ln cp w hS hu hu' ha ha' x.n h0 h1 h2
    | neg1 hx hy h =>
      refine Calls.mono (R := _) ?_ (fun e w' h => in_dies h)
      simp only [StepV.agg]
      rw [hx, hy]
      exact clos_neg1 b s.a0 s.u0 s.a1 s.u1 ad ln cp w hS x.n h
    | over1 hx hy hu hu' ha ha' h0 h1 h2 =>
      refine Calls.mono (R := _) ?_ (fun e w' h => in_dies h)
      simp only [StepV.agg]
      rw [hx, hy]
      exact clos_over1 b s.a0 s.u0 s.a1 s.u1 ad ln cp w hS hu hu' ha ha' x.n h0 h1 h2

/-- impl.Inflow: a run from two empty windows. -/
theorem inflow_any (w : World) (v : Value) (al : List StepA) (rs : List ResA) (hv : StepsR (fun _ => True) w v al) (hruns : Runs StpIn DieIn ⟨0, 0, 0, 0⟩ al rs) (hlen : al.length ≤ 1000000) :
    Calls Tryd.prog 9 #[v] w (RunPost (fun _ => False) w rs) := by
  obtain ⟨ad, n, cp, rfl⟩ : ∃ ad n cp, v = .slice ad n cp := by
    obtain ⟨ad, cp, h, _⟩ := hv
    exact ⟨ad, _, cp, h⟩
  have hB := Blk.new w #[.int .i32 0, .int .i32 0, .int .i32 0, .int .i32 0] 52
  have s1 : Same (fun _ => False) w (w.alloc (.cells #[.int .i32 0, .int .i32 0, .int .i32 0, .int .i32 0] 52)) := (Same.refl _ _).alloc _
  have hv1 : StepsR (fun k => ¬ k = w.heap.size) (w.alloc (.cells #[.int .i32 0, .int .i32 0, .int .i32 0, .int .i32 0] 52)) (.slice ad n cp) al := hv.same s1 (fun k hk _ => ⟨fun h => h, by omega⟩)
  have hr := run_any (clos_in w.heap.size) _ ⟨0, 0, 0, 0⟩ (fun k => k = w.heap.size) ad n cp al rs ⟨rfl, hB⟩ hv1 hruns hlen
  have HR := Lib.hid hr
  clear hv hruns hlen hB s1 hv1 hr
  have hmf : ∀ (fn : Fn) (first cap : Array Value) (w : World), (Instr.makeFunc fn first cap).run Tryd.prog w = .ok (.func fn first cap) w := fun _ _ _ _ => rfl
  go_enter Tryd.func9, Tryd.ntmps9
  go_wp2_with fail
  refine HR.out.mono ?_
  rintro e w' ⟨v', rfl, hS, hR⟩
  have H := Lib.hid (And.intro hS hR)
  clear hS hR HR
  go_wp2
  go_ret
  exact ⟨v', rfl, (((Same.refl (fun _ => False) w).alloc _).trans (H.out.1.mono (G := fun k => k = w.heap.size) (fun _ _ h => h)) (fun k hk h => by omega)), H.out.2⟩
end Go.Proofs.YtalpilbpgkijlaaDoor
