/- impl.stepped, its deferred closure and the closure of impl.run, over whatever the stepped closure does (the walks). No condition. -/
import Derived.Test.YtalpilbpgkijlaaDoorKit
import Derived.Recover
namespace Go.Proofs.YtalpilbpgkijlaaDoor
open Go.RowKit
set_option maxRecDepth 100000
set_option maxHeartbeats 1000000

theorem catch_panicking (b : Nat) (c0 c1 c2 c3 : Value) (u : TypeId) (pv : Value) (older : List PanicEntry) (w : World) (hB : Blk w b #[c0, c1, c2, c3] 32) :
    CallsD Tryd.prog 55 #[.pointer (some ⟨b, 0, none⟩)] (.panicking ({ v := .iface u pv, recovered := false } :: older)) w fun e u' w' =>
      e = .returned (.tuple #[]) ∧ u' = .panicking ({ v := .iface u pv, recovered := true } :: older) ∧ w' = (((w.setCell ⟨b, 0, none⟩ (.int .i64 0)).setCell ⟨b, 1, none⟩ (.bool false)).setCell ⟨b, 2, none⟩ (.slice none 0 0)).setCell ⟨b, 3, none⟩ (.bool true) := by
  have k0 : w.cell? ⟨b, 0, none⟩ = some c0 := hB.cell 0
  have k1 : w.cell? ⟨b, 1, none⟩ = some c1 := hB.cell 1
  have k2 : w.cell? ⟨b, 2, none⟩ = some c2 := hB.cell 2
  have k3 : w.cell? ⟨b, 3, none⟩ = some c3 := hB.cell 3
  have f0 : w.frozen? ⟨b, 0, none⟩ = false := hB.free 0
  have f1 : w.frozen? ⟨b, 1, none⟩ = false := hB.free 1
  have f2 : w.frozen? ⟨b, 2, none⟩ = false := hB.free 2
  have f3 : w.frozen? ⟨b, 3, none⟩ = false := hB.free 3
  refine callsD_of_wpS Tryd.func55 rfl fun c₀ cs hu => ?_
  apply wpS_seq
  apply wpS_region
  simp [wpOpsS, go_sem, recoverD, hu, Tryd.ntmps55, Exit.thenS]
  refine wpS_cond (t := true) (by simp [Act.eval, Array.replicate]) ?_
  simp only [if_true]
  apply wpS_region
  simp [wpOpsS, go_sem, k0, k1, k2, k3, f0, f1, f2, f3, bodyPostS, results, Tryd.results55]

theorem catch_idle (p : Addr) (w : World) :
    CallsD Tryd.prog 55 #[.pointer (some p)] .returning w fun e u' w' => e = .returned (.tuple #[]) ∧ u' = .returning ∧ w' = w := by
  refine callsD_of_wpS Tryd.func55 rfl fun c₀ cs hu => ?_
  apply wpS_seq
  apply wpS_region
  simp [wpOpsS, go_sem, recoverD, hu, Tryd.ntmps55, Exit.thenS]
  refine wpS_cond (t := false) (by simp [Act.eval, Array.replicate]) ?_
  simp only [Bool.false_eq_true, if_false]
  refine wpS_of_wp (wp_skip ?_)
  cases c₀
  simp_all [bodyPostS, results, Tryd.results55]

/-- What a call does that returns a result, and what one does that panics: for a closure as run calls it. -/
def Ends (R : ResV → World → Prop) (D : World → Prop) (e : Ending) (w' : World) : Prop :=
  (∃ r : ResV, e = .returned r.agg ∧ R r w') ∨ ((∃ u s, e = .panicked [{ v := .iface u s, recovered := false }]) ∧ D w')

/-- The closure of impl.run: it calls what it captured on the step that it captured. -/
theorem run1_any (K : FuncId) (cap : Value) (x : StepV) (pf ps : Nat) (w : World) (R : ResV → World → Prop) (D : World → Prop) (hcf : ∀ args w, (callFunc K args).run Tryd.prog w = .ok (.enter K args) w)
    (hf : Blk w pf #[.func (.func K) #[] #[cap]] 60) (hs : Blk w ps #[.int .i64 x.what, .int .i64 x.which, .int .i64 x.n, .slice x.ad x.ln x.cp] 26)
    (hK : Calls Tryd.prog K #[x.agg, cap] (w.alloc (.cells #[.int .i64 0, .bool false, .slice none 0 0, .bool false] 32)) (Ends (fun r w' => Blk w' w.heap.size #[.int .i64 0, .bool false, .slice none 0 0, .bool false] 32 ∧ R r w') D)) :
    Calls Tryd.prog 41 #[.pointer (some ⟨pf, 0, none⟩), .pointer (some ⟨ps, 0, none⟩)] w
      (Ends (fun r w' => ∃ w1, R r w1 ∧ w' = (((w1.setCell ⟨w.heap.size, 0, none⟩ (.int .i64 r.n)).setCell ⟨w.heap.size, 1, none⟩ (.bool r.ok)).setCell ⟨w.heap.size, 2, none⟩ (.slice r.ad r.ln r.cp)).setCell ⟨w.heap.size, 3, none⟩ (.bool r.pn)) D) := by
  have hpf := hf.lt
  have hps := hs.lt
  have n1 : ¬ pf = w.heap.size := by omega
  have n2 : ¬ ps = w.heap.size := by omega
  have k0 : w.cell? ⟨pf, 0, none⟩ = some (.func (.func K) #[] #[cap]) := hf.cell 0
  have s0 : w.cell? ⟨ps, 0, none⟩ = some (.int .i64 x.what) := hs.cell 0
  have s1 : w.cell? ⟨ps, 1, none⟩ = some (.int .i64 x.which) := hs.cell 1
  have s2 : w.cell? ⟨ps, 2, none⟩ = some (.int .i64 x.n) := hs.cell 2
  have s3 : w.cell? ⟨ps, 3, none⟩ = some (.slice x.ad x.ln x.cp) := hs.cell 3
  have HK := Lib.hid hK
  clear hK hf hs
  go_enter Tryd.func41, Tryd.ntmps41
  go_wp2_with fail
  refine HK.out.mono ?_
  rintro e w' (⟨r, rfl, hB, hR⟩ | ⟨⟨u, s, rfl⟩, hD⟩)
  · have k0 : w'.cell? ⟨w.heap.size, 0, none⟩ = some (.int .i64 0) := hB.cell 0
    have k1 : w'.cell? ⟨w.heap.size, 1, none⟩ = some (.bool false) := hB.cell 1
    have k2 : w'.cell? ⟨w.heap.size, 2, none⟩ = some (.slice none 0 0) := hB.cell 2
    have k3 : w'.cell? ⟨w.heap.size, 3, none⟩ = some (.bool false) := hB.cell 3
    have f0 : w'.frozen? ⟨w.heap.size, 0, none⟩ = false := hB.free 0
    have f1 : w'.frozen? ⟨w.heap.size, 1, none⟩ = false := hB.free 1
    have f2 : w'.frozen? ⟨w.heap.size, 2, none⟩ = false := hB.free 2
    have f3 : w'.frozen? ⟨w.heap.size, 3, none⟩ = false := hB.free 3
    have HR := Lib.hid hR
    clear hR hB HK
    simp only [ResV.agg]
    go_wp2
    refine bodyPost_ret (v := r.agg) (by simp [results, Tryd.results41, go_sem, ResV.agg, k0, k1, k2, k3]) rfl ?_
    exact .inl ⟨r, rfl, w', HR.out, rfl⟩
  · have HD := Lib.hid hD
    clear hD HK
    go_wp2
    exact ⟨rfl, .inr ⟨⟨u, s, rfl⟩, HD.out⟩⟩

/-- What stepped leaves: the result, its own two variables apart from the world that the call left. -/
def SteppedPost (w : World) (R : ResV → World → Prop) (D : World → Prop) (e : Ending) (w' : World) : Prop :=
  ∃ r : ResV, e = .returned r.agg ∧ ∃ w1, ((R r w1 ∧ Same (fun k => k = w.heap.size ∨ k = w.heap.size + 1) w1 w') ∨ (r = .plain 0 false true ∧ D w1 ∧ Same (fun k => k = w.heap.size) w1 w'))

/-- impl.stepped on that closure: the result, or 'it panicked'. -/
theorem stepped_any (K : FuncId) (cap : Value) (x : StepV) (pf ps : Nat) (w : World) (R : ResV → World → Prop) (D : World → Prop) (hcf : ∀ args w, (callFunc K args).run Tryd.prog w = .ok (.enter K args) w)
    (hf : Blk w pf #[.func (.func K) #[] #[cap]] 60) (hs : Blk w ps #[.int .i64 x.what, .int .i64 x.which, .int .i64 x.n, .slice x.ad x.ln x.cp] 26)
    (hK : Calls Tryd.prog K #[x.agg, cap] ((w.alloc (.cells #[.int .i64 0, .bool false, .slice none 0 0, .bool false] 32)).alloc (.cells #[.int .i64 0, .bool false, .slice none 0 0, .bool false] 32))
      (Ends (fun r w' => Blk w' w.heap.size #[.int .i64 0, .bool false, .slice none 0 0, .bool false] 32 ∧ Blk w' (w.heap.size + 1) #[.int .i64 0, .bool false, .slice none 0 0, .bool false] 32 ∧ R r w')
        (fun w' => Blk w' w.heap.size #[.int .i64 0, .bool false, .slice none 0 0, .bool false] 32 ∧ D w'))) :
    Calls Tryd.prog 40 #[.func (.func 41) #[] #[.pointer (some ⟨pf, 0, none⟩), .pointer (some ⟨ps, 0, none⟩)]] w
      (SteppedPost w R D) := by
  have h41 := run1_any K cap x pf ps (w.alloc (.cells #[.int .i64 0, .bool false, .slice none 0 0, .bool false] 32)) (fun r w' => Blk w' w.heap.size #[.int .i64 0, .bool false, .slice none 0 0, .bool false] 32 ∧ R r w')
    (fun w' => Blk w' w.heap.size #[.int .i64 0, .bool false, .slice none 0 0, .bool false] 32 ∧ D w') hcf (hf.alloc _) (hs.alloc _)
    (hK.mono fun e w' h => by
      rcases h with ⟨r, h1, h2, h3, h4⟩ | h
      · exact .inl ⟨r, h1, by simpa using h3, h2, h4⟩
      · exact .inr h)
  have HK := Lib.hid h41
  clear hK h41 hf hs
  have hmf : ∀ (fn : Fn) (first cap : Array Value) (w : World), (Instr.makeFunc fn first cap).run Tryd.prog w = .ok (.func fn first cap) w := fun _ _ _ _ => rfl
  go_enter_defers Tryd.func40, Tryd.ntmps40
  go_wp2_with fail
  refine HK.out.mono ?_
  rintro e w' (⟨r, rfl, w1, ⟨hB, hR⟩, rfl⟩ | ⟨⟨u, s, rfl⟩, hB, hD⟩)
  · have e1 : ∀ o, (w.alloc o).heap.size = w.heap.size + 1 := fun o => by simp
    simp only [e1] at *
    have hne : w.heap.size ≠ w.heap.size + 1 := by omega
    have hB2 : Blk ((((w1.setCell ⟨w.heap.size + 1, 0, none⟩ (.int .i64 r.n)).setCell ⟨w.heap.size + 1, 1, none⟩ (.bool r.ok)).setCell ⟨w.heap.size + 1, 2, none⟩ (.slice r.ad r.ln r.cp)).setCell ⟨w.heap.size + 1, 3, none⟩ (.bool r.pn)) w.heap.size #[.int .i64 0, .bool false, .slice none 0 0, .bool false] 32 :=
      (((hB.other hne _).other hne _).other hne _).other hne _
    have hS2 : Same (fun k => k = w.heap.size ∨ k = w.heap.size + 1) w1 ((((w1.setCell ⟨w.heap.size + 1, 0, none⟩ (.int .i64 r.n)).setCell ⟨w.heap.size + 1, 1, none⟩ (.bool r.ok)).setCell ⟨w.heap.size + 1, 2, none⟩ (.slice r.ad r.ln r.cp)).setCell ⟨w.heap.size + 1, 3, none⟩ (.bool r.pn)) :=
      ((((Same.refl _ _).setCell (fun _ => .inr rfl) _).setCell (fun _ => .inr rfl) _).setCell (fun _ => .inr rfl) _).setCell (fun _ => .inr rfl) _
    have HR := Lib.hid hR
    have HB := Lib.hid hB2
    have HS := Lib.hid hS2
    clear hR HK e1 hB hB2 hS2
    generalize (((w1.setCell ⟨w.heap.size + 1, 0, none⟩ (.int .i64 r.n)).setCell ⟨w.heap.size + 1, 1, none⟩ (.bool r.ok)).setCell ⟨w.heap.size + 1, 2, none⟩ (.slice r.ad r.ln r.cp)).setCell ⟨w.heap.size + 1, 3, none⟩ (.bool r.pn) = w2 at HB HS ⊢
    have k0 : w2.cell? ⟨w.heap.size, 0, none⟩ = some (.int .i64 0) := HB.out.cell 0
    have k1 : w2.cell? ⟨w.heap.size, 1, none⟩ = some (.bool false) := HB.out.cell 1
    have k2 : w2.cell? ⟨w.heap.size, 2, none⟩ = some (.slice none 0 0) := HB.out.cell 2
    have k3 : w2.cell? ⟨w.heap.size, 3, none⟩ = some (.bool false) := HB.out.cell 3
    have f0 : w2.frozen? ⟨w.heap.size, 0, none⟩ = false := HB.out.free 0
    have f1 : w2.frozen? ⟨w.heap.size, 1, none⟩ = false := HB.out.free 1
    have f2 : w2.frozen? ⟨w.heap.size, 2, none⟩ = false := HB.out.free 2
    have f3 : w2.frozen? ⟨w.heap.size, 3, none⟩ = false := HB.out.free 3
    simp only [ResV.agg]
    go_wp2
    refine leaves_cons (f := 55) (args := #[.pointer (some ⟨w.heap.size, 0, none⟩)]) (by simp) (by simp [go_sem]) ?_
    refine (catch_idle ⟨w.heap.size, 0, none⟩ _).mono ?_
    rintro e u' w'' ⟨rfl, rfl, rfl⟩
    refine ⟨r.agg, by simp [results, Tryd.results40, go_sem, ResV.agg, k0, k1, k2, k3], r, rfl, w1, .inl ⟨HR.out, ?_⟩⟩
    exact (((HS.out.setCell (fun _ => .inl rfl) _).setCell (fun _ => .inl rfl) _).setCell (fun _ => .inl rfl) _).setCell (fun _ => .inl rfl) _
  · have HD := Lib.hid hD
    have HB := Lib.hid hB
    clear hD hB HK
    go_wp2
    refine leaves_cons (f := 55) (args := #[.pointer (some ⟨w.heap.size, 0, none⟩)]) (by simp) (by simp [go_sem]) ?_
    refine (catch_panicking w.heap.size _ _ _ _ u s [] w' HB.out).mono ?_
    rintro e u' w'' ⟨rfl, rfl, rfl⟩
    have k0 : w'.cell? ⟨w.heap.size, 0, none⟩ = some (.int .i64 0) := HB.out.cell 0
    have k1 : w'.cell? ⟨w.heap.size, 1, none⟩ = some (.bool false) := HB.out.cell 1
    have k2 : w'.cell? ⟨w.heap.size, 2, none⟩ = some (.slice none 0 0) := HB.out.cell 2
    have k3 : w'.cell? ⟨w.heap.size, 3, none⟩ = some (.bool false) := HB.out.cell 3
    refine ⟨(ResV.plain 0 false true).agg, by simp [results, Tryd.results40, go_sem, ResV.agg, ResV.plain, k0, k1, k2, k3], .plain 0 false true, rfl, w', .inr ⟨rfl, HD.out, ?_⟩⟩
    exact ((((Same.refl (fun k => k = w.heap.size) w').setCell (p := ⟨w.heap.size, 0, none⟩) (fun _ => rfl) _).setCell (p := ⟨w.heap.size, 1, none⟩) (fun _ => rfl) _).setCell (p := ⟨w.heap.size, 2, none⟩) (fun _ => rfl) _).setCell (p := ⟨w.heap.size, 3, none⟩) (fun _ => rfl) _
end Go.Proofs.YtalpilbpgkijlaaDoor
