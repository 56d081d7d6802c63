/- laws.runs answers true: each of the three runs one zero step (the walk); the buffer at a write of nothing alone. No condition. -/
import Derived.Test.YtalpilbpgkijlaaDoorInflow
import Derived.Test.YtalpilbpgkijlaaDoorOutflow
namespace Go.Proofs.YtalpilbpgkijlaaDoor
open Go.RowKit
set_option maxRecDepth 100000
set_option maxHeartbeats 1000000

structure InvB0 (bv z : Nat) (s : Unit) (F : Nat → Prop) (w : World) : Prop where
  foot : F = (fun k => k = bv ∨ k = z)
  bv : Blk w bv #[.pointer (some ⟨z, 0, none⟩)] 62
  z : Blk w z #[.slice none 0 0, .int .i64 0, .int .i64 0, .int .i64 0, .int .i64 0] 91
inductive StpB0 : Unit → StepA → ResA → Unit → Prop
  | w {x : StepA} (hx : x.what = 0) (hb : x.bytes = []) : StpB0 () x ⟨0, true, [], false⟩ ()

theorem buf0_step (bv z : Nat) (which n : Int) (ad : Option Addr) (cp : Nat) (w : World) (hb : Blk w bv #[.pointer (some ⟨z, 0, none⟩)] 62) (_hz : Blk w z #[.slice none 0 0, .int .i64 0, .int .i64 0, .int .i64 0, .int .i64 0] 91) :
    Calls Tryd.prog 28 #[.agg #[.int .i64 0, .int .i64 which, .int .i64 n, .slice ad 0 cp], .pointer (some ⟨bv, 0, none⟩)] w fun e w' => e = .returned (ResV.plain 0 true false).agg ∧ Same (fun _ => False) w w' := by
  have hlb := hb.lt
  have b0 : w.cell? ⟨bv, 0, none⟩ = some (.pointer (some ⟨z, 0, none⟩)) := hb.cell 0
  have nb0 : ¬ bv = w.heap.size := by omega
  have nb1 : ¬ bv = w.heap.size + 1 := by omega
  clear hb _hz
  go_enter Tryd.func28, Tryd.ntmps28
  go_wp2
  refine wp_loop_rounds 1 ?_
  rw [rounds_succ]
  go_wp2
  refine bodyPost_ret (v := (ResV.plain 0 true false).agg) (by simp [results, Tryd.results28, go_sem, ResV.plain, ResV.agg]) rfl ?_
  exact ⟨rfl, by (repeat (first | (with_reducible exact Same.refl _ _) | (with_reducible apply Same.drewN) | (with_reducible apply Same.drew) | (with_reducible apply Same.alloc) | (with_reducible apply Same.set') | (intro h; first | omega | (exfalso; simp at h <;> omega))))⟩

theorem clos_b0 (bv z : Nat) : Clos 28 (.pointer (some ⟨bv, 0, none⟩)) (InvB0 bv z) StpB0 (fun _ _ => False) where
  enter := enter_of Tryd.func28 (by kernel_rfl) (by kernel_rfl)
  lt := fun s F w h k hk => by
    rw [h.foot] at hk
    rcases hk with rfl | rfl
    · exact h.bv.lt
    · exact h.z.lt
  keep := fun s F G w w' h hs hG => by
    have hf := h.foot
    subst hf
    exact ⟨rfl, h.bv.same hs (hG _ (.inl rfl)), h.z.same hs (hG _ (.inr rfl))⟩
  step := by
    intro s F w v x r s' hI hv hst
    obtain ⟨e1, e2, e3, _, _, _, hb⟩ := hv
    cases v with | mk what which n ad ln cp =>
    simp only at e1 e2 e3
    subst e1 e2 e3
    cases hst with
    | w hx hb' =>
      have hln : ln = 0 := by
        have := hb.1
        rw [hb'] at this
        simpa using this.symm
      subst hln
      simp only [StepV.agg]
      rw [hx]
      refine (buf0_step bv z x.which x.n ad cp w hI.bv hI.z).mono fun e w' h => ?_
      refine .inl ⟨_, h.1, F, h.2.mono (fun _ _ h => h.elim), ?_, fun k hk => .inl hk, rfl, rfl, rfl, ⟨by show (-9223372036854775808 : Int) ≤ 0; omega, by show (0 : Int) ≤ 9223372036854775807; omega⟩, BytesAt.nil _ _⟩
      exact ⟨hI.foot, hI.bv.same h.2 (fun h => h), hI.z.same h.2 (fun h => h)⟩
  dead := fun s F w v x _ _ h => h.elim

theorem buffer0_any (w : World) (v : Value) (al : List StepA) (rs : List ResA) (hv : StepsR (fun _ => True) w v al) (hruns : Runs StpB0 (fun _ _ => False) () al rs) (hlen : al.length ≤ 1000000) :
    Calls Tryd.prog 14 #[.int .i64 0, v] w (RunPost (fun _ => False) w rs) := by
  obtain ⟨ad, n, cp, rfl⟩ : ∃ ad n cp, v = .slice ad n cp := by
    obtain ⟨ad, cp, h, _⟩ := hv
    exact ⟨ad, _, cp, h⟩
  have hal : ∀ (w : World) (o : Obj), (w.alloc o).heap.size = w.heap.size + 1 := fun w o => by simp
  have e1 := hal w (.cells #[.slice none 0 0, .int .i64 0, .int .i64 0, .int .i64 0, .int .i64 0] 91)
  have s1 : Same (fun _ => False) w ((w.alloc (.cells #[.slice none 0 0, .int .i64 0, .int .i64 0, .int .i64 0, .int .i64 0] 91)).alloc (.cells #[.pointer (some ⟨w.heap.size, 0, none⟩)] 62)) := ((Same.refl _ _).alloc _).alloc _
  have hI : InvB0 (w.heap.size + 1) w.heap.size () (fun k => k = w.heap.size + 1 ∨ k = w.heap.size) ((w.alloc (.cells #[.slice none 0 0, .int .i64 0, .int .i64 0, .int .i64 0, .int .i64 0] 91)).alloc (.cells #[.pointer (some ⟨w.heap.size, 0, none⟩)] 62)) := by
    refine ⟨rfl, ?_, (Blk.new _ _ _).alloc _⟩
    have := Blk.new (w.alloc (.cells #[.slice none 0 0, .int .i64 0, .int .i64 0, .int .i64 0, .int .i64 0] 91)) #[.pointer (some ⟨w.heap.size, 0, none⟩)] 62
    rw [e1] at this
    exact this
  have hv1 := hv.same (H := fun k => ¬ (k = w.heap.size + 1 ∨ k = w.heap.size)) s1 (fun k hk _ => ⟨fun h => h, by omega⟩)
  have hr := run_any (clos_b0 (w.heap.size + 1) w.heap.size) _ () _ ad n cp al rs hI hv1 hruns hlen
  have HR := Lib.hid hr
  have HS := Lib.hid s1
  clear hv hruns hlen hI s1 hv1 hr e1 hal
  have hmf : ∀ (fn : Fn) (first cap : Array Value) (w : World), (Instr.makeFunc fn first cap).run Tryd.prog w = .ok (.func fn first cap) w := fun _ _ _ _ => rfl
  go_enter Tryd.func14, Tryd.ntmps14
  go_wp2_with (go_at_call 27; go_in)
  refine HR.out.mono ?_
  rintro e w' ⟨v', rfl, hS, hR⟩
  have H := Lib.hid (And.intro hS hR)
  clear hS hR HR
  go_wp2
  go_ret
  exact ⟨v', rfl, HS.out.trans H.out.1 (fun k hk h => by omega), H.out.2⟩

theorem len_of {w : World} {v : Value} {rs : List ResA} (h : ResultsR (fun _ => True) w v rs) : ∃ ad cp, v = .slice ad rs.length cp := by
  obtain ⟨ad, cp, h, _⟩ := h
  exact ⟨ad, cp, h⟩

theorem step0_at (w : World) : StepsR (fun _ => True) (w.alloc (.cells #[.int .i64 0, .int .i64 0, .int .i64 0, .slice none 0 0] 26)) (.slice (some ⟨w.heap.size, 0, none⟩) 1 1) [⟨0, 0, 0, []⟩] := by
  have hB := Blk.new w #[.int .i64 0, .int .i64 0, .int .i64 0, .slice none 0 0] 26
  refine ⟨_, 1, rfl, Nat.le_refl _, by unfold maxLen; omega, (fun h => by cases h), fun p hp => ?_⟩
  obtain rfl := Option.some.inj hp
  intro i a hi
  cases i with
  | succ i => simp at hi
  | zero =>
    simp at hi
    subst hi
    refine ⟨rfl, ⟨0, 0, 0, none, 0, 0⟩, trivial, fun j u hu => ?_, rfl, rfl, rfl, ?_, ?_, ?_, BytesAt.nil _ _⟩
    · simp only [Nat.zero_mul, Nat.add_zero, Nat.zero_add]
      rw [hB.cell j]
      simpa [StepV.cells] using hu
    all_goals exact ⟨by show (-9223372036854775808 : Int) ≤ 0; omega, by show (0 : Int) ≤ 9223372036854775807; omega⟩

theorem runs_any (w : World) : Calls Tryd.prog 10 #[] w fun e w' => e = .returned (.bool true) ∧ Same (fun _ => False) w w' := by
  have hmk : ∀ w, (Instr.makeSlice 27 (.int .i64 1) (.int .i64 1)).run Tryd.prog w = .ok (.slice (some ⟨w.heap.size, 0, none⟩) 1 1) (w.alloc (.cells #[.int .i64 0, .int .i64 0, .int .i64 0, .slice none 0 0] 26)) := fun _ => by kernel_rfl
  have r1 : Runs StpIn DieIn ⟨0, 0, 0, 0⟩ [⟨0, 0, 0, []⟩] [⟨0, false, [], false⟩] := .step (.init0 rfl rfl (by show (0 : Int) ≤ 0; omega) (by show (0 : Int) ≤ 2147483647; omega)) rfl .nil
  have r2 : Runs StpOut DieOut ⟨65535, 65535, false, fun _ => 0⟩ [⟨0, 0, 0, []⟩] [⟨0, true, [], false⟩] := .step (.chg rfl (by show (0 : Int) ≤ 0; omega) (by show (0 : Int) ≤ 3; omega) (by show (0 : Int) ≤ 2147483647; omega)) rfl .nil
  have r3 : Runs StpB0 (fun _ _ => False) () [⟨0, 0, 0, []⟩] [⟨0, true, [], false⟩] := .step (.w rfl rfl) rfl .nil
  have R := Lib.hid (And.intro r1 (And.intro r2 r3))
  clear r1 r2 r3
  go_enter Tryd.func10, Tryd.ntmps10
  go_wp2_with fail
  refine (inflow_any _ _ _ _ (step0_at _) R.out.1 (by decide)).mono ?_
  rintro e w1 ⟨v1, rfl, hS1, hR1⟩
  obtain ⟨a1, c1, rfl⟩ := len_of hR1
  have H1 := Lib.hid hS1
  clear hS1 hR1
  simp only [List.length_cons, List.length_nil, Nat.zero_add]
  go_wp2_with fail
  refine (outflow_any _ _ _ _ (step0_at _) R.out.2.1 (by decide)).mono ?_
  rintro e w2 ⟨v2, rfl, hS2, hR2⟩
  obtain ⟨a2, c2, rfl⟩ := len_of hR2
  have H2 := Lib.hid hS2
  clear hS2 hR2
  simp only [List.length_cons, List.length_nil, Nat.zero_add]
  go_wp2_with fail
  refine (buffer0_any _ _ _ _ (step0_at _) R.out.2.2 (by decide)).mono ?_
  rintro e w3 ⟨v3, rfl, hS3, hR3⟩
  obtain ⟨a3, c3, rfl⟩ := len_of hR3
  have H3 := Lib.hid hS3
  clear hS3 hR3
  simp only [List.length_cons, List.length_nil, Nat.zero_add]
  go_wp2
  go_ret
  refine ⟨rfl, ?_⟩
  exact ((((((Same.refl _ w).alloc _).trans H1.out (fun _ _ h => h)).alloc _).trans H2.out (fun _ _ h => h)).alloc _).trans H3.out (fun _ _ h => h)
end Go.Proofs.YtalpilbpgkijlaaDoor
