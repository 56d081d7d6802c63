/- An argument that reads as data, as this claim's walks take it: a slice of steps; the argument reads behind the call as before. No condition. -/
import Derived.Test.YtalpilbpgkijlaaDoorData
import Derived.Test.YtalpilbpgkijlaaDoorCards
import Derived.Test.YtalpilbpgkijlaaDoorTie
import Derived.ProofKit
import Derived.OpenShut
import Derived.Deep.Slices
import Derived.Lib.SmallJoins
import Derived.Deep.DeepHandedRow
import Derived.Deep.DeepWitnessRowRef
import Derived.Lib.LaidTab
namespace Go.Proofs.YtalpilbpgkijlaaDoor
open Go.ChangeShapes Go.WideShapes Go.ChangeAt Go.RowKit

theorem own : ownKnob Tryd.prog.godebug = none := by kernel_rfl
theorem cells2 : Tryd.prog.cellsOf 2 = 1 := by kernel_rfl
theorem cells3 : Tryd.prog.cellsOf 3 = 1 := by kernel_rfl
theorem cells5 : Tryd.prog.cellsOf 5 = 1 := by kernel_rfl
theorem cells24 : Tryd.prog.cellsOf 24 = 1 := by kernel_rfl
theorem cells28 : Tryd.prog.cellsOf 28 = 4 := by kernel_rfl

theorem cell_spot {w : World} {a : Addr} {v : Value} (h : w.cell? a = some v) : a.spot = none := by
  unfold World.cell? at h
  split at h
  · split at h
    · cases h
    · rename_i hs
      simpa using hs
  · cases h
theorem add_form {a : Addr} (h : a.spot = none) (k : Nat) : a.add k = ⟨a.block, a.off + k, none⟩ := by
  unfold Addr.add
  split
  · rename_i hk
    subst hk
    cases a
    simp at h
    simp [h]
  · rfl
theorem wf_bd {n : Int} (h : (Lit.int .i64 n).wf = true) : Bd n := by
  simp only [Lit.wf, Bool.and_eq_true, decide_eq_true_eq] at h
  exact h
theorem wf_u8 {n : Int} (h : (Lit.int .u8 n).wf = true) : 0 ≤ n ∧ n ≤ 255 := by
  simp only [Lit.wf, Bool.and_eq_true, decide_eq_true_eq] at h
  exact h

section
variable {H : Type} {enc : TypeId × Value → H} {W : World} {base : Nat} {spare : Nat → Bool} {held : Bool}

theorem bytes_of_trod {fuel : Nat} {v : Value} {x : DataW H × List MemPlace} (h : DataW.trod enc Tryd.prog W base spare held fuel 24 [v] = some x) :
    ∃ ad ln cp l, v = .slice ad ln cp ∧ BytesAt (fun _ => True) W ad ln cp l := by
  rcases Deep.open_slice1 Tryd.underlying24 cells5 h with ⟨hcs, _⟩ | ⟨a, len, cap, m, n, V, D, Pl, hcs, _, hlc, hm, hmm, _, hV⟩
  · cases hcs
    exact ⟨none, 0, 0, [], rfl, BytesAt.nil _ _⟩
  · cases hcs
    have hle : len ≤ m := by rw [hmm]; split <;> omega
    have hb : ∀ i, i < len → ∃ b : UInt8, W.cell? (a.add i) = some (.int .u8 (b.toNat : Int)) := fun i hi => by
      obtain ⟨h1, h2⟩ := hV i (by omega)
      obtain ⟨z, hz, _, hw⟩ := DataW.trod_int Tryd.underlying5 h2
      have hb := wf_u8 hw
      refine ⟨UInt8.ofNat z.toNat, ?_⟩
      rw [h1]
      simp only [List.cons.injEq, and_true] at hz
      rw [hz]
      have : ((UInt8.ofNat z.toNat).toNat : Int) = z := by
        rw [UInt8.toNat_ofNat']
        omega
      rw [this]
    obtain ⟨f, hf⟩ := Deep.choose_lt hb
    refine ⟨some a, len, cap, (List.range len).map f, rfl, by simp, hlc, hm, (fun h => by cases h), fun p hp i hi => ?_⟩
    obtain rfl := Option.some.inj hp
    have h0 : a.spot = none := by
      have := hf 0 (by omega)
      exact cell_spot (a := a) (by simpa [Addr.add] using this)
    refine ⟨h0, trivial, ?_⟩
    rw [← add_form h0, hf i hi]
    simp [List.getD, hi]

theorem steps_of_trod {fuel : Nat} {v : Value} {x : DataW H × List MemPlace} (h : DataW.trod enc Tryd.prog W base spare held fuel 22 [v] = some x) :
    ∃ al, StepsR (fun _ => True) W v al := by
  rcases Deep.open_slice Tryd.underlying22 h with ⟨hcs, _⟩ | ⟨a, len, cap, m, n, D, Pl, hcs, _, hlc, hm, hmm, _, hV⟩
  · cases hcs
    exact ⟨[], none, 0, rfl, Nat.le_refl _, Nat.zero_le _, fun _ => ⟨rfl, rfl⟩, fun p hp => by cases hp⟩
  · cases hcs
    have hle : len ≤ m := by rw [hmm]; split <;> omega
    have hb : ∀ i, i < len → ∃ s : StepA, ∃ x : StepV, (∀ j u, x.cells[j]? = some u → W.cell? (a.add (i * 4 + j)) = some u) ∧ StepR (fun _ => True) W x s := fun i hi => by
      obtain ⟨cs', h1, h2⟩ := hV i (by omega)
      rw [cells28] at h1
      obtain ⟨_, hlen, hc⟩ := World.cells?_some h1
      match cs', hlen, hc, h2 with
      | [c0, c1, c2, c3], _, hc, h2 =>
        obtain ⟨y0, y1, y2, y3, k, _, _, t0, t1, t2, t3⟩ := Joins.trod_struct4 Tryd.underlying28 h2
        simp only [cells3, cells2, cells24, List.drop_zero, List.take_succ_cons, List.take_zero, List.drop_succ_cons] at t0 t1 t2 t3
        obtain ⟨z0, e0, _, w0⟩ := DataW.trod_int Tryd.underlying3 t0
        obtain ⟨z1, e1, _, w1⟩ := DataW.trod_int Tryd.underlying3 t1
        obtain ⟨z2, e2, _, w2⟩ := DataW.trod_int Tryd.underlying2 t2
        obtain ⟨ad, ln, cp, l, e3, hB⟩ := bytes_of_trod t3
        simp only [List.cons.injEq, and_true] at e0 e1 e2
        refine ⟨⟨z0, z1, z2, l⟩, ⟨z0, z1, z2, ad, ln, cp⟩, fun j u hu => ?_, rfl, rfl, rfl, wf_bd w0, wf_bd w1, wf_bd w2, hB⟩
        rw [← Deep.add_add]
        have hj : j < 4 := by
          have := (List.getElem?_eq_some_iff.1 hu).1
          simpa [StepV.cells] using this
        rw [hc j hj, e0, e1, e2, e3]
        exact hu
    let dflt : StepA := ⟨0, 0, 0, []⟩
    haveI : Inhabited StepA := ⟨dflt⟩
    obtain ⟨f, hf⟩ := Deep.choose_lt hb
    refine ⟨(List.range len).map f, some a, cap, by simp, by simpa using hlc, hm, (fun h => by cases h), fun p hp i s hi => ?_⟩
    obtain rfl := Option.some.inj hp
    have hil : i < len := by
      have := (List.getElem?_eq_some_iff.1 hi).1
      simpa using this
    have hs : f i = s := by simpa [hil] using hi
    subst hs
    have h0 : a.spot = none := by
      obtain ⟨x, hx, _⟩ := hf 0 (by omega)
      have := hx 0 _ rfl
      exact cell_spot (a := a) (by simpa [Addr.add] using this)
    obtain ⟨x, hx, hr⟩ := hf i hil
    refine ⟨h0, x, trivial, fun j u hu => ?_, hr⟩
    rw [Nat.add_assoc, ← add_form h0]
    exact hx j u hu
end
end Go.Proofs.YtalpilbpgkijlaaDoor
