/- zzFits1: whether a list of steps holds nothing too long (the walk). No condition. -/
import Derived.Test.YtalpilbpgkijlaaDoorApp
import Derived.Test.YtalpilbpgkijlaaDoorData
namespace Go.Proofs.YtalpilbpgkijlaaDoor
open Go.RowKit
set_option maxRecDepth 100000
set_option maxHeartbeats 1000000

theorem fits2_yes (a b c : Int) (ad : Option Addr) (ln cp : Nat) (w : World) (h : ln ≤ 2147483647) :
    Calls Tryd.prog 20 #[.agg #[.int .i64 a, .int .i64 b, .int .i64 c, .slice ad ln cp]] w fun e w' => e = .returned (.bool true) ∧ Same (fun _ => False) w w' := by
  have h' : ¬ (2147483647 < (ln : Int)) := by omega
  go_enter Tryd.func20, Tryd.ntmps20
  go_wp2
  go_ret
  exact ⟨rfl, (Same.refl _ _).alloc _⟩
theorem fits2_no (a b c : Int) (ad : Option Addr) (ln cp : Nat) (w : World) (h : 2147483647 < ln) :
    Calls Tryd.prog 20 #[.agg #[.int .i64 a, .int .i64 b, .int .i64 c, .slice ad ln cp]] w fun e w' => e = .returned (.bool false) ∧ Same (fun _ => False) w w' := by
  have h' : 2147483647 < (ln : Int) := by omega
  go_enter Tryd.func20, Tryd.ntmps20
  go_wp2
  go_ret
  exact ⟨rfl, (Same.refl _ _).alloc _⟩

def FitsPost (al : List StepA) (w : World) (e : Ending) (w' : World) : Prop :=
  ∃ b : Bool, e = .returned (.bool b) ∧ (b = true → al.length ≤ 2147483647 ∧ ∀ a ∈ al, a.bytes.length ≤ 2147483647) ∧ Same (fun _ => False) w w'
def FitsRel (al : List StepA) (w : World) (k : Nat) (i : Value) (wr : World) : Prop :=
  ∃ j : Nat, k + j = al.length ∧ i = .int .i64 j ∧ (∀ a ∈ al.take j, a.bytes.length ≤ 2147483647) ∧ Same (fun _ => False) w wr

/-- An element of a slice of steps, cell by cell, in a world that has grown. -/
theorem StepsR.at {G : Nat → Prop} {w wr : World} {pb po n cp : Nat} {ps : Option _} {al : List StepA} (h : StepsR G w (.slice (some ⟨pb, po, ps⟩) n cp) al) (hS : Same (fun _ => False) w wr) {j : Nat} (hj : j < al.length) :
    ps = none ∧ ∃ x : StepV, StepR G wr x al[j] ∧ wr.cell? ⟨pb, po + j * 4, none⟩ = some (.int .i64 x.what) ∧ wr.cell? ⟨pb, po + j * 4 + 1, none⟩ = some (.int .i64 x.which) ∧ wr.cell? ⟨pb, po + j * 4 + 2, none⟩ = some (.int .i64 x.n) ∧ wr.cell? ⟨pb, po + j * 4 + 3, none⟩ = some (.slice x.ad x.ln x.cp) := by
  obtain ⟨ad, cp', h1, _, _, _, h5⟩ := h
  cases h1
  obtain ⟨hs, x, _, hc, hx⟩ := h5 _ rfl j al[j] (List.getElem?_eq_getElem hj)
  refine ⟨hs, x, hx.same hS (fun _ _ h => ⟨fun h => h, h⟩), ?_, ?_, ?_, ?_⟩
  · exact hS.cell (p := ⟨pb, po + j * 4, none⟩) (fun h => h) (hc 0 _ rfl)
  · exact hS.cell (p := ⟨pb, po + j * 4 + 1, none⟩) (fun h => h) (hc 1 _ rfl)
  · exact hS.cell (p := ⟨pb, po + j * 4 + 2, none⟩) (fun h => h) (hc 2 _ rfl)
  · exact hS.cell (p := ⟨pb, po + j * 4 + 3, none⟩) (fun h => h) (hc 3 _ rfl)
theorem RowR.form {X A : Type} {cells : X → List Value} {R : X → A → Prop} {G : Nat → Prop} {w : World} {v : Value} {al : List A} (h : RowR cells R G w v al) :
    ∃ ad cp, v = .slice ad al.length cp ∧ al.length ≤ 9223372036854775807 ∧ (∀ j, j < al.length → ∃ pb po ps, ad = some ⟨pb, po, ps⟩) := by
  obtain ⟨ad, cp, h1, h2, h3, h4, _⟩ := h
  refine ⟨ad, cp, h1, by unfold maxLen at h3; omega, fun j hj => ?_⟩
  cases ad with
  | none => have := (h4 rfl).1; omega
  | some p => exact ⟨p.block, p.off, p.spot, rfl⟩

theorem fits_any (w : World) (v : Value) (al : List StepA) (hv : StepsR (fun _ => True) w v al) : Calls Tryd.prog 8 #[v] w (FitsPost al w) := by
  obtain ⟨ad, cp, rfl, hmax, hform⟩ := RowR.form hv
  have HV := Lib.hid hv
  have HF := Lib.hid hform
  clear hv hform
  by_cases hbig : 2147483647 < al.length
  · have hb : 2147483647 < (al.length : Int) := by omega
    go_enter Tryd.func8, Tryd.ntmps8
    go_wp2
    go_ret
    exact ⟨false, rfl, fun h => (by cases h), Same.refl _ _⟩
  · have hb : ¬ 2147483647 < (al.length : Int) := by omega
    go_enter Tryd.func8, Tryd.ntmps8
    go_wp2
    go_loopg [10] al.length (fun k i wr => FitsRel al w k i wr)
    case atStart => exact ⟨0, rfl, rfl, fun a h => by simp at h, Same.refl _ _⟩
    case round =>
      obtain ⟨j, hk, rfl, hall, hS⟩ := hrel
      by_cases hj : j < al.length
      · obtain ⟨pb, po, ps, rfl⟩ := HF.out j hj
        obtain ⟨rfl, x, hx, q0, q1, q2, q3⟩ := HV.out.at hS hj
        have hln := hx.2.2.2.2.2.2.1
        have A := Lib.hid (And.intro hk (And.intro hall (And.intro hS hln)))
        clear hk hall hS hx hln HF HV
        have hcl := World.block_lt_of_cell? _ _ q0
        simp only at hcl
        have hne : ¬ pb = wr.heap.size := by omega
        by_cases hfit : x.ln ≤ 2147483647
        · go_wp2_with fail
          refine (fits2_yes _ _ _ _ _ _ _ hfit).mono ?_
          rintro e w1 ⟨rfl, hS1⟩
          have H1 := Lib.hid hS1
          clear hS1
          go_wp2
          go_roundg (gk - 1)
          case measure => have := A.out.1; omega
          case rel =>
            refine ⟨j + 1, by have := A.out.1; omega, rfl, fun a ha => ?_, (A.out.2.2.1.alloc _).trans H1.out (fun _ _ h => h)⟩
            rw [List.take_succ_eq_append_getElem hj, List.mem_append] at ha
            rcases ha with ha | ha
            · exact A.out.2.1 a ha
            · simp only [List.mem_singleton] at ha
              subst ha
              have := A.out.2.2.2
              omega
        · go_wp2_with fail
          refine (fits2_no _ _ _ _ _ _ _ (by omega)).mono ?_
          rintro e w1 ⟨rfl, hS1⟩
          have H1 := Lib.hid hS1
          clear hS1
          go_wp2
          go_ret
          exact ⟨false, rfl, fun h => (by cases h), (A.out.2.2.1.alloc _).trans H1.out (fun _ _ h => h)⟩
      · have hjl : j = al.length := by omega
        have hall' : ∀ a ∈ al, a.bytes.length ≤ 2147483647 := by
          rw [hjl, List.take_length] at hall
          exact hall
        have A := Lib.hid (And.intro hall' hS)
        clear hk hall hS hjl hall'
        go_wp2
        go_ret
        exact ⟨true, rfl, fun _ => ⟨by omega, A.out.1⟩, A.out.2⟩
end Go.Proofs.YtalpilbpgkijlaaDoor
