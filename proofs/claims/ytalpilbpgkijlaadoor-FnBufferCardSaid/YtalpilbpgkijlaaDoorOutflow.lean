/- The closure of impl.Outflow keeps its contract; impl.Outflow as data. Condition: at most 1,000,000 steps, and the run is one of the model's. -/
import Derived.Test.YtalpilbpgkijlaaDoorOutModel
import Derived.Test.YtalpilbpgkijlaaDoorRun
import Derived.Test.YtalpilbpgkijlaaDoorNewOut
import Derived.Test.YtalpilbpgkijlaaDoorClosOutA
import Derived.Test.YtalpilbpgkijlaaDoorClosOutB
import Derived.Test.YtalpilbpgkijlaaDoorClosOutC
namespace Go.Proofs.YtalpilbpgkijlaaDoor
open Go.RowKit
set_option maxRecDepth 100000
set_option maxHeartbeats 1000000

/-- Where the windows lie. -/
structure OutM where
  bv : Nat
  z : Nat
  sb : Nat
  p : Nat → Nat
  sc : Nat
  cur : Array Value
def OutM.foot (m : OutM) (k : Nat) : Prop := k = m.bv ∨ k = m.z ∨ k = m.sb ∨ ∃ i, i < 4 ∧ k = m.p i
def OutM.sv (m : OutM) : Value := .slice (some ⟨m.sb, 0, none⟩) 4 m.sc
structure OutM.Apart (m : OutM) : Prop where
  bz : ¬ m.bv = m.z
  sz : ¬ m.sb = m.z
  pz : ∀ i, i < 4 → ¬ m.p i = m.z
  pb : ∀ i, i < 4 → ¬ m.p i = m.bv
  ps : ∀ i, i < 4 → ¬ m.p i = m.sb
  pp : ∀ i j, i < 4 → j < 4 → m.p i = m.p j → i = j
  at_ : ∀ i, i < 4 → m.cur[i]? = some (.pointer (some ⟨m.p i, 0, none⟩))
structure InvOut (m : OutM) (s : OutS) (F : Nat → Prop) (w : World) : Prop where
  foot : F = m.foot
  bv : Blk w m.bv #[.pointer (some ⟨m.z, 0, none⟩)] 75
  z : Blk w m.z #[.int .i32 s.ini, .int .i32 s.cn, .bool s.err, .slice (some ⟨m.sb, 0, none⟩) 4 m.sc] 96
  sb : Blk w m.sb m.cur 97
  p : ∀ i, i < 4 → Blk w (m.p i) #[.int .i32 (s.d i), .pointer (some ⟨m.z, 0, none⟩)] 102
  ini : I32 s.ini
  cn : I32 s.cn
  d : ∀ i, i < 4 → I32 (s.d i)

theorem out_post {m : OutM} (ha : m.Apart) {s s' : OutS} {w : World} (hI : InvOut m s m.foot w) {k : Nat} (hk : k < 4) {n : Int} {ok : Bool} {ini cn d : Int} {err : Bool} {e : Ending} {w' : World}
    (hn : Bd n) (h : OutPost m.z (m.p k) w (.plain n ok false) ini cn err (.slice (some ⟨m.sb, 0, none⟩) 4 m.sc) d e w') (h1 : s'.ini = ini) (h2 : s'.cn = cn) (h3 : s'.err = err) (h4 : s'.d k = d)
    (h5 : ∀ i, i < 4 → i ≠ k → s'.d i = s.d i) (hi : I32 ini) (hc : I32 cn) (hd : I32 d) :
    Ends (StepPost (InvOut m) m.foot w s' ⟨n, ok, [], false⟩) (fun _ => False) e w' := by
  obtain ⟨g1, g2, g3, g4⟩ := h
  refine .inl ⟨_, g1, m.foot, g4.mono (fun i _ h => ?_), ?_, fun k hk => .inl hk, rfl, rfl, rfl, hn, BytesAt.nil _ _⟩
  · rcases h with h | h
    · exact .inr (.inl h)
    · exact .inr (.inr (.inr ⟨k, hk, h⟩))
  · refine ⟨rfl, hI.bv.same g4 (fun h => ?_), ?_, hI.sb.same g4 (fun h => ?_), fun i hi4 => ?_, by rw [h1]; exact hi, by rw [h2]; exact hc, fun i hi4 => ?_⟩
    · rcases h with h | h
      · exact ha.bz h
      · exact ha.pb k hk h.symm
    · rw [h1, h2, h3]; exact g2
    · rcases h with h | h
      · exact ha.sz h
      · exact ha.ps k hk h.symm
    · by_cases hik : i = k
      · subst hik; rw [h4]; exact g3
      · rw [h5 i hi4 hik]
        refine (hI.p i hi4).same g4 (fun h => ?_)
        rcases h with h | h
        · exact ha.pz i hi4 h
        · exact hik (ha.pp i k hi4 hk h)
    · by_cases hik : i = k
      · subst hik; rw [h4]; exact hd
      · rw [h5 i hi4 hik]; exact hI.d i hi4
theorem out_dies {m : OutM} {w : World} {k : Nat} (hk : k < 4) {e : Ending} {w' : World} (h : OutDies m.z (m.p k) w e w') : Ends (fun _ _ => False) (fun w' => Same m.foot w w') e w' := by
  obtain ⟨⟨s, h1⟩, h2⟩ := h
  refine .inr ⟨⟨9, s, h1⟩, h2.mono (fun i _ h => ?_)⟩
  rcases h with h | h
  · exact .inr (.inl h)
  · exact .inr (.inr (.inr ⟨k, hk, h⟩))
theorem bd_small2 {n : Int} (h : I32 n) : Bd n := ⟨by have := h.1; omega, by have := h.2; omega⟩
theorem min_i32 {x n : Int} (h : I32 n) : I32 (min (wrap32 x) n) := by
  have := wrap32_i32 x
  unfold I32 at *
  omega
theorem upd_same (d : Nat → Int) (k : Nat) (v : Int) : upd d k v k = v := by simp [upd]
theorem upd_other (d : Nat → Int) (k : Nat) (v : Int) {i : Nat} (h : i ≠ k) : upd d k v i = d i := by simp [upd, h]

theorem clos_out (m : OutM) (ha : m.Apart) : Clos 34 (.pointer (some ⟨m.bv, 0, none⟩)) (InvOut m) StpOut DieOut where
  enter := enter_of Tryd.func34 (by kernel_rfl) (by kernel_rfl)
  lt := fun s F w h k hk => by
    rw [h.foot] at hk
    rcases hk with rfl | rfl | rfl | ⟨i, hi, rfl⟩
    · exact h.bv.lt
    · exact h.z.lt
    · exact h.sb.lt
    · exact (h.p i hi).lt
  keep := fun s F G w w' h hs hG => by
    have hf := h.foot
    subst hf
    exact ⟨rfl, h.bv.same hs (hG _ (.inl rfl)), h.z.same hs (hG _ (.inr (.inl rfl))), h.sb.same hs (hG _ (.inr (.inr (.inl rfl)))), fun i hi => (h.p i hi).same hs (hG _ (.inr (.inr (.inr ⟨i, hi, rfl⟩)))), h.ini, h.cn, h.d⟩
  step := by
    intro s F w v x r s' hI hv hst
    have hf := hI.foot
    subst hf
    obtain ⟨e1, e2, e3, _, _, _, _⟩ := hv
    cases v with | mk what which n ad ln cp =>
    simp only at e1 e2 e3
    subst e1 e2 e3
    have hat := fun (i : Nat) (hi : i < 4) => (hI.sb.cell i).trans (ha.at_ i hi)
    cases hst with
    | chgBig hx hw0 hw3 h =>
      have hz := hI.z
      refine Calls.mono (R := _) ?_ (fun e w' h => out_post ha hI (k := 0) (by omega) (bd_small2 (n := 0) (by unfold I32; omega)) h rfl rfl (rfl) (rfl) (fun _ _ _ => rfl) hI.ini hI.cn (hI.d 0 (by omega)))
      simp only [StepV.agg]
      rw [hx]
      exact cout_chgbig m.bv m.z m.sb (m.p 0) 0 m.sc s.ini s.cn (s.d 0) s.err ad ln cp w hI.bv hz (hat 0 (by omega)) (hI.p 0 (by omega)) (ha.pz 0 (by omega)) (by omega) hI.ini hI.cn (hI.d 0 (by omega)) x.which x.n hw0 hw3 h
    | chg hx hw0 hw3 h =>
      have hz := hI.z
      refine Calls.mono (R := _) ?_ (fun e w' h => out_post ha hI (k := 0) (by omega) (bd_small2 (n := 0) (by unfold I32; omega)) h rfl rfl (rfl) (rfl) (fun _ _ _ => rfl) (wrap32_i32 _) hI.cn (hI.d 0 (by omega)))
      simp only [StepV.agg]
      rw [hx]
      exact cout_chg m.bv m.z m.sb (m.p 0) 0 m.sc s.ini s.cn (s.d 0) s.err ad ln cp w hI.bv hz (hat 0 (by omega)) (hI.p 0 (by omega)) (ha.pz 0 (by omega)) (by omega) hI.ini hI.cn (hI.d 0 (by omega)) x.which x.n hw0 hw3 h
    | addcBig hx hw0 hw3 h =>
      have hz := hI.z
      refine Calls.mono (R := _) ?_ (fun e w' h => out_post ha hI (k := 0) (by omega) (bd_small2 (n := 0) (by unfold I32; omega)) h rfl rfl (rfl) (rfl) (fun _ _ _ => rfl) hI.ini hI.cn (hI.d 0 (by omega)))
      simp only [StepV.agg]
      rw [hx]
      exact cout_addcbig m.bv m.z m.sb (m.p 0) 0 m.sc s.ini s.cn (s.d 0) s.err ad ln cp w hI.bv hz (hat 0 (by omega)) (hI.p 0 (by omega)) (ha.pz 0 (by omega)) (by omega) hI.ini hI.cn (hI.d 0 (by omega)) x.which x.n hw0 hw3 h
    | addc hx hw0 hw3 h =>
      have hz := hI.z
      refine Calls.mono (R := _) ?_ (fun e w' h => out_post ha hI (k := 0) (by omega) (bd_small2 (n := 0) (by unfold I32; omega)) h rfl rfl (rfl) (rfl) (fun _ _ _ => rfl) hI.ini (wrap32_i32 _) (hI.d 0 (by omega)))
      simp only [StepV.agg]
      rw [hx]
      exact cout_addc m.bv m.z m.sb (m.p 0) 0 m.sc s.ini s.cn (s.d 0) s.err ad ln cp w hI.bv hz (hat 0 (by omega)) (hI.p 0 (by omega)) (ha.pz 0 (by omega)) (by omega) hI.ini hI.cn (hI.d 0 (by omega)) x.which x.n hw0 hw3 h
    | addsBig hx k hk hy h =>
      have hz := hI.z
      refine Calls.mono (R := _) ?_ (fun e w' h => out_post ha hI (k := k) hk (bd_small2 (n := 0) (by unfold I32; omega)) h rfl rfl (rfl) (rfl) (fun _ _ _ => rfl) hI.ini hI.cn (hI.d k hk))
      simp only [StepV.agg]
      rw [hx, hy]
      exact cout_addsbig m.bv m.z m.sb (m.p k) k m.sc s.ini s.cn (s.d k) s.err ad ln cp w hI.bv hz (hat k hk) (hI.p k hk) (ha.pz k hk) hk hI.ini hI.cn (hI.d k hk) x.n h
    | addsNo hx k hk hy h h' =>
      have hz := hI.z
      refine Calls.mono (R := _) ?_ (fun e w' h => out_post ha hI (k := k) hk (bd_small2 (n := 0) (by unfold I32; omega)) h rfl rfl (rfl) (rfl) (fun _ _ _ => rfl) hI.ini hI.cn (hI.d k hk))
      simp only [StepV.agg]
      rw [hx, hy]
      exact cout_addsno m.bv m.z m.sb (m.p k) k m.sc s.ini s.cn (s.d k) s.err ad ln cp w hI.bv hz (hat k hk) (hI.p k hk) (ha.pz k hk) hk hI.ini hI.cn (hI.d k hk) x.n h h'
    | adds hx k hk hy h h' =>
      have hz := hI.z
      refine Calls.mono (R := _) ?_ (fun e w' h => out_post ha hI (k := k) hk (bd_small2 (n := 0) (by unfold I32; omega)) h rfl rfl (rfl) (upd_same _ _ _) (fun i _ h => upd_other _ _ _ h) hI.ini hI.cn (wrap32_i32 _))
      simp only [StepV.agg]
      rw [hx, hy]
      exact cout_adds m.bv m.z m.sb (m.p k) k m.sc s.ini s.cn (s.d k) s.err ad ln cp w hI.bv hz (hat k hk) (hI.p k hk) (ha.pz k hk) hk hI.ini hI.cn (hI.d k hk) x.n h h'
    | availErr hx k hk hy he =>
      have hz := hI.z
      rw [he] at hz
      refine Calls.mono (R := _) ?_ (fun e w' h => out_post ha hI (k := k) hk (bd_small2 (n := 0) (by unfold I32; omega)) h rfl rfl (he) (rfl) (fun _ _ _ => rfl) hI.ini hI.cn (hI.d k hk))
      simp only [StepV.agg]
      rw [hx, hy]
      exact cout_availerr m.bv m.z m.sb (m.p k) k m.sc s.ini s.cn (s.d k) s.err ad ln cp w hI.bv hz (hat k hk) (hI.p k hk) (ha.pz k hk) hk hI.ini hI.cn (hI.d k hk) x.n
    | availBig hx k hk hy he h =>
      have hz := hI.z
      rw [he] at hz
      refine Calls.mono (R := _) ?_ (fun e w' h => out_post ha hI (k := k) hk (bd_small2 (n := 0) (by unfold I32; omega)) h rfl rfl (rfl) (rfl) (fun _ _ _ => rfl) hI.ini hI.cn (hI.d k hk))
      simp only [StepV.agg]
      rw [hx, hy]
      exact cout_availbig m.bv m.z m.sb (m.p k) k m.sc s.ini s.cn (s.d k) s.err ad ln cp w hI.bv hz (hat k hk) (hI.p k hk) (ha.pz k hk) hk hI.ini hI.cn (hI.d k hk) x.n h
    | avail hx k hk hy he h =>
      have hz := hI.z
      rw [he] at hz
      refine Calls.mono (R := _) ?_ (fun e w' h => out_post ha hI (k := k) hk (bd_small2 (min_i32 hI.cn)) h rfl rfl (he) (rfl) (fun _ _ _ => rfl) hI.ini hI.cn (hI.d k hk))
      simp only [StepV.agg]
      rw [hx, hy]
      exact cout_avail m.bv m.z m.sb (m.p k) k m.sc s.ini s.cn (s.d k) s.err ad ln cp w hI.bv hz (hat k hk) (hI.p k hk) (ha.pz k hk) hk hI.ini hI.cn (hI.d k hk) x.n h
    | takeErr hx k hk hy he h =>
      have hz := hI.z
      rw [he] at hz
      refine Calls.mono (R := _) ?_ (fun e w' h => out_post ha hI (k := k) hk (bd_small2 (n := 0) (by unfold I32; omega)) h rfl rfl (he) (upd_same _ _ _) (fun i _ h => upd_other _ _ _ h) hI.ini (wrap32_i32 _) (wrap32_i32 _))
      simp only [StepV.agg]
      rw [hx, hy]
      exact cout_takeerr m.bv m.z m.sb (m.p k) k m.sc s.ini s.cn (s.d k) s.err ad ln cp w hI.bv hz (hat k hk) (hI.p k hk) (ha.pz k hk) hk hI.ini hI.cn (hI.d k hk) x.n h
    | takeBig hx k hk hy he h0 h =>
      have hz := hI.z
      rw [he] at hz
      refine Calls.mono (R := _) ?_ (fun e w' h => out_post ha hI (k := k) hk (bd_small2 (n := 0) (by unfold I32; omega)) h rfl rfl (rfl) (upd_same _ _ _) (fun i _ h => upd_other _ _ _ h) hI.ini (wrap32_i32 _) (wrap32_i32 _))
      simp only [StepV.agg]
      rw [hx, hy]
      exact cout_takebig m.bv m.z m.sb (m.p k) k m.sc s.ini s.cn (s.d k) s.err ad ln cp w hI.bv hz (hat k hk) (hI.p k hk) (ha.pz k hk) hk hI.ini hI.cn (hI.d k hk) x.n h0 h
    | take hx k hk hy he h0 h =>
      have hz := hI.z
      rw [he] at hz
      refine Calls.mono (R := _) ?_ (fun e w' h => out_post ha hI (k := k) hk (bd_small2 (n := 0) (by unfold I32; omega)) h rfl rfl (he) (upd_same _ _ _) (fun i _ h => upd_other _ _ _ h) hI.ini (wrap32_i32 _) (wrap32_i32 _))
      simp only [StepV.agg]
      rw [hx, hy]
      exact cout_takeany m.bv m.z m.sb (m.p k) k m.sc s.ini s.cn (s.d k) s.err ad ln cp w hI.bv hz (hat k hk) (hI.p k hk) (ha.pz k hk) hk hI.ini hI.cn (hI.d k hk) x.n h0 h
    | whichlo h =>
      have hz := hI.z
      refine Calls.mono (R := _) ?_ (fun e w' h => out_post ha hI (k := 0) (by omega) (bd_small2 (n := 0) (by unfold I32; omega)) h rfl rfl rfl rfl (fun _ _ _ => rfl) hI.ini hI.cn (hI.d 0 (by omega)))
      exact cout_whichlo m.bv m.z m.sb (m.p 0) 0 m.sc s.ini s.cn (s.d 0) s.err ad ln cp w hI.bv hz (hat 0 (by omega)) (hI.p 0 (by omega)) (ha.pz 0 (by omega)) (by omega) hI.ini hI.cn (hI.d 0 (by omega)) x.what x.which x.n h
    | whichhi h =>
      have hz := hI.z
      refine Calls.mono (R := _) ?_ (fun e w' h => out_post ha hI (k := 0) (by omega) (bd_small2 (n := 0) (by unfold I32; omega)) h rfl rfl rfl rfl (fun _ _ _ => rfl) hI.ini hI.cn (hI.d 0 (by omega)))
      exact cout_whichhi m.bv m.z m.sb (m.p 0) 0 m.sc s.ini s.cn (s.d 0) s.err ad ln cp w hI.bv hz (hat 0 (by omega)) (hI.p 0 (by omega)) (ha.pz 0 (by omega)) (by omega) hI.ini hI.cn (hI.d 0 (by omega)) x.what x.which x.n h
    | whatlo hw0 hw3 h =>
      have hz := hI.z
      refine Calls.mono (R := _) ?_ (fun e w' h => out_post ha hI (k := 0) (by omega) (bd_small2 (n := 0) (by unfold I32; omega)) h rfl rfl rfl rfl (fun _ _ _ => rfl) hI.ini hI.cn (hI.d 0 (by omega)))
      exact cout_whatlo m.bv m.z m.sb (m.p 0) 0 m.sc s.ini s.cn (s.d 0) s.err ad ln cp w hI.bv hz (hat 0 (by omega)) (hI.p 0 (by omega)) (ha.pz 0 (by omega)) (by omega) hI.ini hI.cn (hI.d 0 (by omega)) x.what x.which x.n hw0 hw3 h
    | whathi hw0 hw3 h =>
      have hz := hI.z
      refine Calls.mono (R := _) ?_ (fun e w' h => out_post ha hI (k := 0) (by omega) (bd_small2 (n := 0) (by unfold I32; omega)) h rfl rfl rfl rfl (fun _ _ _ => rfl) hI.ini hI.cn (hI.d 0 (by omega)))
      exact cout_whathi m.bv m.z m.sb (m.p 0) 0 m.sc s.ini s.cn (s.d 0) s.err ad ln cp w hI.bv hz (hat 0 (by omega)) (hI.p 0 (by omega)) (ha.pz 0 (by omega)) (by omega) hI.ini hI.cn (hI.d 0 (by omega)) x.what x.which x.n hw0 hw3 h
  dead := by
    intro s F w v x hI hv hst
    have hf := hI.foot
    subst hf
    obtain ⟨e1, e2, e3, _, _, _, _⟩ := hv
    cases v with | mk what which n ad ln cp =>
    simp only at e1 e2 e3
    subst e1 e2 e3
    have hat := fun (i : Nat) (hi : i < 4) => (hI.sb.cell i).trans (ha.at_ i hi)
    cases hst with
    | dieErr hx k hk hy he h =>
      have hz := hI.z
      rw [he] at hz
      refine Calls.mono (R := _) ?_ (fun e w' h => out_dies hk h)
      simp only [StepV.agg]
      rw [hx, hy]
      exact cout_takedieerr m.bv m.z m.sb (m.p k) k m.sc s.ini s.cn (s.d k) s.err ad ln cp w hI.bv hz (hat k hk) (hI.p k hk) (ha.pz k hk) hk hI.ini hI.cn (hI.d k hk) x.n h
    | dieBig hx k hk hy he h0 h =>
      have hz := hI.z
      rw [he] at hz
      refine Calls.mono (R := _) ?_ (fun e w' h => out_dies hk h)
      simp only [StepV.agg]
      rw [hx, hy]
      exact cout_takediebig m.bv m.z m.sb (m.p k) k m.sc s.ini s.cn (s.d k) s.err ad ln cp w hI.bv hz (hat k hk) (hI.p k hk) (ha.pz k hk) hk hI.ini hI.cn (hI.d k hk) x.n h0 h
    | die hx k hk hy he h0 h =>
      have hz := hI.z
      rw [he] at hz
      refine Calls.mono (R := _) ?_ (fun e w' h => out_dies hk h)
      simp only [StepV.agg]
      rw [hx, hy]
      exact cout_takedieany m.bv m.z m.sb (m.p k) k m.sc s.ini s.cn (s.d k) s.err ad ln cp w hI.bv hz (hat k hk) (hI.p k hk) (ha.pz k hk) hk hI.ini hI.cn (hI.d k hk) x.n h0 h

/-- impl.Outflow: a run from the windows' start. -/
theorem outflow_any (w : World) (v : Value) (al : List StepA) (rs : List ResA) (hv : StepsR (fun _ => True) w v al) (hruns : Runs StpOut DieOut ⟨65535, 65535, false, fun _ => 0⟩ al rs) (hlen : al.length ≤ 1000000) :
    Calls Tryd.prog 18 #[v] w (RunPost (fun _ => False) w rs) := by
  obtain ⟨ad, n, cp, rfl⟩ : ∃ ad n cp, v = .slice ad n cp := by
    obtain ⟨ad, cp, h, _⟩ := hv
    exact ⟨ad, _, cp, h⟩
  have hmf : ∀ (fn : Fn) (first cap : Array Value) (w : World), (Instr.makeFunc fn first cap).run Tryd.prog w = .ok (.func fn first cap) w := fun _ _ _ _ => rfl
  have HV := Lib.hid hv
  have HR := Lib.hid hruns
  clear hv hruns
  go_enter Tryd.func18, Tryd.ntmps18
  go_wp2_with fail
  refine (new_out w).mono ?_
  rintro e w1 ⟨rfl, ps, sv, hl, hS, hz, hOwn, hNd, hps⟩
  have A := Lib.hid (And.intro hl (And.intro hS (And.intro hz (And.intro hOwn (And.intro hNd hps)))))
  clear hl hS hz hOwn hNd hps
  go_wp2_with fail
  have H : Calls Tryd.prog 21 #[.slice ad n cp, .func (.func 34) #[] #[.pointer (some ⟨w1.heap.size, 0, none⟩)]] (w1.alloc (.cells #[.pointer (some ⟨w.heap.size, 0, none⟩)] 75)) (RunPost (fun k => w.heap.size ≤ k) (w1.alloc (.cells #[.pointer (some ⟨w.heap.size, 0, none⟩)] 75)) rs) := by
    obtain ⟨hl, hS, hz, hOwn, hNd, hps⟩ := A.out
    rcases hOwn.2 with ⟨_, h0⟩ | ⟨g, cap, cur, hsv, hbg, hg, hnc, hcm, hcs, htake⟩
    · omega
    have hzl := hz.lt
    have hgl : g < w1.heap.size := (Array.getElem?_eq_some_iff.1 hg).1
    have hlt := fun (i : Nat) (hi : i < 4) => (hps (ps.getD i 0) (by
      have : ps.getD i 0 = ps[i]'(by omega) := by simp [List.getD, List.getElem?_eq_getElem (show i < ps.length by omega)]
      rw [this]
      exact List.getElem_mem _))
    have hcap : 4 ≤ cap := by omega
    have hps4 : ps.length = 4 := hl
    rw [hps4] at hsv
    subst hsv
    let m : OutM := ⟨w1.heap.size, w.heap.size, g, fun i => ps.getD i 0, cap, cur⟩
    have ha : m.Apart := by
      refine ⟨?_, ?_, ?_, ?_, ?_, ?_, ?_⟩
      · show ¬ w1.heap.size = w.heap.size; omega
      · show ¬ g = w.heap.size; omega
      · intro i hi; show ¬ ps.getD i 0 = w.heap.size; have := (hlt i hi).1; omega
      · intro i hi; show ¬ ps.getD i 0 = w1.heap.size; have := (hlt i hi).2.2.lt; omega
      · intro i hi h
        have h' : ps.getD i 0 = g := h
        exact (hlt i hi).2.1 (by rw [h']; rfl)
      · intro i j hi hj h
        have h' : ps.getD i 0 = ps.getD j 0 := h
        simp only [List.getD, List.getElem?_eq_getElem (show i < ps.length by omega), List.getElem?_eq_getElem (show j < ps.length by omega), Option.getD_some] at h'
        have hpw := List.pairwise_iff_getElem.1 hNd
        rcases Nat.lt_trichotomy i j with h | h | h
        · exact (hpw i j (by omega) (by omega) h h').elim
        · exact h
        · exact (hpw j i (by omega) (by omega) h h'.symm).elim
      · intro i hi
        show cur[i]? = some (.pointer (some ⟨ps.getD i 0, 0, none⟩))
        have h1 : (cur.toList.take (ps.length * 1))[i]? = cur[i]? := by
          rw [List.getElem?_take, if_pos (by omega)]
          simp
        rw [← h1, htake]
        simp [List.getD, List.getElem?_eq_getElem (show i < ps.length by omega)]
    have hal : ∀ o : Obj, (w1.alloc o).heap.size = w1.heap.size + 1 := fun o => by simp
    have hI : InvOut m ⟨65535, 65535, false, fun _ => 0⟩ m.foot (w1.alloc (.cells #[.pointer (some ⟨w.heap.size, 0, none⟩)] 75)) := by
      refine ⟨rfl, Blk.new _ _ _, hz.alloc _, Blk.alloc hg _, fun i hi => (hlt i hi).2.2.alloc _, by show I32 65535; unfold I32; omega, by show I32 65535; unfold I32; omega, fun _ _ => by show I32 0; unfold I32; omega⟩
    have hfoot : ∀ k, m.foot k → w.heap.size ≤ k := by
      intro k hk
      have hk' : k = w1.heap.size ∨ k = w.heap.size ∨ k = g ∨ ∃ i, i < 4 ∧ k = ps.getD i 0 := hk
      rcases hk' with h | h | h | ⟨i, hi, h⟩
      · omega
      · omega
      · omega
      · have := (hlt i hi).1; omega
    have hv2 : StepsR (fun k => ¬ m.foot k) (w1.alloc (.cells #[.pointer (some ⟨w.heap.size, 0, none⟩)] 75)) (.slice ad n cp) al := by
      refine HV.out.same (hS.alloc _) (fun k hk _ => ⟨fun h => h, fun h => ?_⟩)
      have := hfoot k h; omega
    refine (run_any (clos_out m ha) _ _ _ ad n cp al rs hI hv2 HR.out hlen).mono ?_
    rintro e w' ⟨v', he, hS', hR'⟩
    exact ⟨v', he, hS'.mono (fun k _ h => hfoot k h), hR'⟩
  have hS1 := A.out.2.1
  clear HV HR A
  have HS1 := Lib.hid hS1
  clear hS1
  refine H.mono ?_
  clear H
  rintro e w' ⟨v', rfl, hS, hR⟩
  have H := Lib.hid (And.intro hS hR)
  clear hS hR
  go_wp2
  go_ret
  exact ⟨v', rfl, ((HS1.out.alloc _).trans H.out.1 (fun k hk h => by omega)), H.out.2⟩
end Go.Proofs.YtalpilbpgkijlaaDoor
