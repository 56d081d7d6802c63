/- A slice of numbers that comes in reads as a list of numbers. No condition. -/
import Derived.Test.YtalpilbpgkijlaaDoorOpens
import Derived.Test.YtalpilbpgkijlaaDoorTransDefs
namespace Go.Proofs.YtalpilbpgkijlaaDoor
open Go.ChangeShapes Go.WideShapes Go.ChangeAt Go.RowKit

theorem ints_of_trod {H : Type} {enc : TypeId × Value → H} {W : World} {base : Nat} {spare : Nat → Bool} {held : Bool} {fuel : Nat} {v : Value} {x : DataW H × List MemPlace}
    (h : DataW.trod enc Tryd.prog W base spare held fuel 43 [v] = some x) : ∃ xs, IntsR W v xs := by
  rcases Deep.open_slice1 Tryd.underlying43 cells2 h with ⟨hcs, _⟩ | ⟨a, len, cap, m, n, V, D, Pl, hcs, _, hlc, hm, hmm, _, hV⟩
  · cases hcs
    exact ⟨[], none, 0, rfl, Nat.zero_le _, fun _ => rfl, fun p hp => by cases hp⟩
  · cases hcs
    have hle : len ≤ m := by rw [hmm]; split <;> omega
    have hb : ∀ i, i < len → ∃ b : Int, W.cell? (a.add i) = some (.int .i64 b) ∧ Bd b := fun i hi => by
      obtain ⟨h1, h2⟩ := hV i (by omega)
      obtain ⟨z, hz, _, hw⟩ := DataW.trod_int Tryd.underlying2 h2
      simp only [List.cons.injEq, and_true] at hz
      exact ⟨z, by rw [h1, hz], wf_bd hw⟩
    obtain ⟨f, hf⟩ := Deep.choose_lt hb
    refine ⟨(List.range len).map f, some a, cap, by simp, ?_, (fun h => by cases h), fun p hp j y hy => ?_⟩
    · unfold maxLen at hm
      simp
      omega
    · obtain rfl := Option.some.inj hp
      have hj : j < len := by
        have := (List.getElem?_eq_some_iff.1 hy).1
        simpa using this
      have hs : f j = y := by simpa [hj] using hy
      subst hs
      have h0 : a.spot = none := by
        have := (hf 0 (by omega)).1
        exact cell_spot (a := a) (by simpa [Addr.add] using this)
      refine ⟨h0, (hf j hj).2, ?_⟩
      rw [← add_form h0]
      exact (hf j hj).1
end Go.Proofs.YtalpilbpgkijlaaDoor
