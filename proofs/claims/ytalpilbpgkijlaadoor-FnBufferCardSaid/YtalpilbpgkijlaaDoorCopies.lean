/- laws.given and laws.plain: steps and results copied into new memory (the walks). Condition: at most 1,000,000 elements. -/
import Derived.Test.YtalpilbpgkijlaaDoorFits
import Derived.Test.YtalpilbpgkijlaaDoorRun
namespace Go.Proofs.YtalpilbpgkijlaaDoor
open Go.RowKit
set_option maxRecDepth 100000
set_option maxHeartbeats 1000000
theorem info26 : (Tryd.prog.info? 26).map (fun i => (i.zero, i.size, i.bytes)) = some (some (.agg #[.int .i64 0, .int .i64 0, .int .i64 0, .slice none 0 0]), 4, 48) := by kernel_rfl
theorem info61 : (Tryd.prog.info? 61).map (fun i => (i.zero, i.size, i.bytes)) = some (some (.agg #[.int .i64 0, .bool false, .slice none 0 0, .bool false]), 4, 48) := by kernel_rfl
/-- An element of a slice of results, cell by cell, in a world that has grown. -/
theorem ResultsR.at {G : Nat → Prop} {w wr : World} {pb po n cp : Nat} {ps : Option _} {al : List ResA} (h : ResultsR G w (.slice (some ⟨pb, po, ps⟩) n cp) al) (hS : Same (fun _ => False) w wr) {j : Nat} (hj : j < al.length) :
    ps = none ∧ ∃ x : ResV, ResR G wr x al[j] ∧ wr.cell? ⟨pb, po + j * 4, none⟩ = some (.int .i64 x.n) ∧ wr.cell? ⟨pb, po + j * 4 + 1, none⟩ = some (.bool x.ok) ∧ wr.cell? ⟨pb, po + j * 4 + 2, none⟩ = some (.slice x.ad x.ln x.cp) ∧ wr.cell? ⟨pb, po + j * 4 + 3, none⟩ = some (.bool x.pn) := by
  obtain ⟨ad, cp', h1, _, _, _, h5⟩ := h
  cases h1
  obtain ⟨hs, x, _, hc, hx⟩ := h5 _ rfl j al[j] (List.getElem?_eq_getElem hj)
  refine ⟨hs, x, hx.same hS (fun _ _ h => ⟨fun h => h, h⟩), ?_, ?_, ?_, ?_⟩
  · exact hS.cell (p := ⟨pb, po + j * 4, none⟩) (fun h => h) (hc 0 _ rfl)
  · exact hS.cell (p := ⟨pb, po + j * 4 + 1, none⟩) (fun h => h) (hc 1 _ rfl)
  · exact hS.cell (p := ⟨pb, po + j * 4 + 2, none⟩) (fun h => h) (hc 2 _ rfl)
  · exact hS.cell (p := ⟨pb, po + j * 4 + 3, none⟩) (fun h => h) (hc 3 _ rfl)

def givenRel (al : List StepA) (w : World) (k : Nat) (v i : Value) (wr : World) : Prop :=
  ∃ (j : Nat) (rv : List StepV), k + j = al.length ∧ i = .int .i64 j ∧ j ≤ al.length ∧ Same (fun _ => False) w wr ∧ wr.ownsRow w.heap.size 26 4 v j (rv.map StepV.cells).flatten ∧ All2 (StepR (fun k => k < w.heap.size) wr) rv (al.take j)
def givenPost (al : List StepA) (w : World) (e : Ending) (w' : World) : Prop := ∃ v', e = .returned v' ∧ Same (fun _ => False) w w' ∧ StepsR (fun _ => True) w' v' al

theorem given_any (w : World) (v : Value) (al : List StepA) (hv : StepsR (fun _ => True) w v al) (hlen : al.length ≤ 1000000) : Calls Tryd.prog 15 #[v] w (givenPost al w) := by
  obtain ⟨ad, cp, rfl, hmax, hform⟩ := RowR.form hv
  have HV := Lib.hid hv
  have HF := Lib.hid hform
  clear hv hform
  go_enter Tryd.func15, Tryd.ntmps15
  go_wp2
  go_loopg [3, 8] al.length (fun k v i wr => givenRel al w k v i wr)
  case atStart => exact ⟨0, [], rfl, rfl, Nat.zero_le _, Same.refl _ _, World.ownsRow_nil _ _ _ _, .nil⟩
  case round =>
    obtain ⟨j, rv, hk, rfl, hjl, hS, hOwn, hA⟩ := hrel
    by_cases hj : j < al.length
    · obtain ⟨pb, po, ps, rfl⟩ := HF.out j hj
      obtain ⟨rfl, x, hx, q0, q1, q2, q3⟩ := HV.out.at hS hj
      have hcl := World.block_lt_of_cell? _ _ q0
      simp only at hcl
      have hne : ¬ pb = wr.heap.size := by omega
      have hwl : w.heap.size ≤ wr.heap.size := hS.size
      have hx0 : StepR (fun k => k < w.heap.size) wr x al[j] := by
        obtain ⟨ad', cp', h1, _, _, _, h5⟩ := HV.out
        cases h1
        obtain ⟨_, y, _, hc, hy⟩ := h5 _ rfl j al[j] (List.getElem?_eq_getElem hj)
        have e : x = y := by
          have g0 := hS.cell (p := ⟨pb, po + j * 4, none⟩) (fun h => h) (hc 0 _ rfl)
          have g1 := hS.cell (p := ⟨pb, po + j * 4 + 1, none⟩) (fun h => h) (hc 1 _ rfl)
          have g2 := hS.cell (p := ⟨pb, po + j * 4 + 2, none⟩) (fun h => h) (hc 2 _ rfl)
          have g3 := hS.cell (p := ⟨pb, po + j * 4 + 3, none⟩) (fun h => h) (hc 3 _ rfl)
          rw [q0] at g0
          rw [q1] at g1
          rw [q2] at g2
          rw [q3] at g3
          cases x; cases y
          simp_all
        rw [e]
        exact hy.same hS (fun k hk h => ⟨fun h => h, hk⟩)
      have HO := Lib.hid hOwn
      have A := Lib.hid (And.intro hk (And.intro hS (And.intro hA hx0)))
      clear hk hS hA hx hx0 hOwn HF HV
      obtain ⟨i0, hi, hz0, hz1, hz2⟩ := info_parts info26
      go_wp2_with (at_builtin; refine wpList_append_own2 _ rfl _ _ 27 rfl w.heap.size 26 i0 (.agg #[.int .i64 0, .int .i64 0, .int .i64 0, .slice none 0 0]) 4 48 Tryd.underlying27 hi hz0 hz1 hz2 rfl (by decide) _ _ _ rfl ((HO.out.alloc _).alloc _) ⟨wr.heap.size + 1, 0, none⟩ 1 1 x.cells rfl rfl ?c1 ?c2 ?c3 ?c4 ?c5 ?_)
      case c1 => exact cells_new2 wr _ x.cells 26
      case c2 => exact step_one x
      case c3 => unfold maxLen; omega
      case c4 => omega
      case c5 => simp; omega
      intro v1 w1 hown1 hgrow1 hwhere
      have hflat : (rv.map StepV.cells).flatten ++ x.cells = ((rv ++ [x]).map StepV.cells).flatten := by simp
      rw [hflat] at hown1
      have C1 := Lib.hid (And.intro hown1 (And.intro hgrow1 hwhere))
      clear hown1 hgrow1 hwhere hflat
      go_wp2
      go_roundg (gk - 1)
      case measure => have := A.out.1; omega
      case rel =>
        have hlt := HO.out.lt
        have s1 := (((Same.refl (fun _ => False) wr).alloc (.cells #[.int .i64 x.what, .int .i64 x.which, .int .i64 x.n, .slice x.ad x.ln x.cp] 28)).alloc (.cells #[.int .i64 x.what, .int .i64 x.which, .int .i64 x.n, .slice x.ad x.ln x.cp] 26)).mono (G := fun k => u3.ownBlock = some k) (fun _ _ h => h.elim)
        have s2 := s1.trans (Same.of_grown C1.out.2.1) (fun _ _ h => h)
        refine ⟨j + 1, rv ++ [x], by have := A.out.1; omega, rfl, by omega, A.out.2.1.trans s2 (fun k hk h => ?_), C1.out.1, ?_⟩
        · have := (hlt k h).1; omega
        · rw [List.take_succ_eq_append_getElem hj]
          refine (A.out.2.2.1.mono fun y a h => ?_).snoc ?_
          · exact h.same s2 (fun k _ hk => ⟨fun h' => (by have := (hlt k h').1; omega), hk⟩)
          · exact A.out.2.2.2.same s2 (fun k _ hk => ⟨fun h' => (by have := (hlt k h').1; omega), hk⟩)
    · have hje : j = al.length := by omega
      have hA2 : All2 (StepR (fun _ => True) wr) rv al := by
        rw [hje, List.take_length] at hA
        exact hA.mono fun x a h => h.same (Same.refl (fun _ => False) _) (fun _ _ _ => ⟨fun h => h, trivial⟩)
      have hR : StepsR (fun _ => True) wr u3 al := RowR.of_owns (fun _ => rfl) hOwn hA2 (fun _ _ => trivial)
      have A := Lib.hid (And.intro hS hR)
      clear hk hS hA hOwn hje hA2 hR
      go_wp2
      go_ret
      exact ⟨u3, rfl, A.out.1, A.out.2⟩

def plainRel (al : List ResA) (w : World) (k : Nat) (v i : Value) (wr : World) : Prop :=
  ∃ (j : Nat) (rv : List ResV), k + j = al.length ∧ i = .int .i64 j ∧ j ≤ al.length ∧ Same (fun _ => False) w wr ∧ wr.ownsRow w.heap.size 61 4 v j (rv.map ResV.cells).flatten ∧ All2 (ResR (fun k => k < w.heap.size) wr) rv (al.take j)
def plainPost (al : List ResA) (w : World) (e : Ending) (w' : World) : Prop := ∃ v', e = .returned v' ∧ Same (fun _ => False) w w' ∧ ResultsR (fun _ => True) w' v' al

theorem plain_any (w : World) (v : Value) (al : List ResA) (hv : ResultsR (fun _ => True) w v al) (hlen : al.length ≤ 1000000) : Calls Tryd.prog 13 #[v] w (plainPost al w) := by
  obtain ⟨ad, cp, rfl, hmax, hform⟩ := RowR.form hv
  have HV := Lib.hid hv
  have HF := Lib.hid hform
  clear hv hform
  go_enter Tryd.func13, Tryd.ntmps13
  go_wp2
  go_loopg [3, 8] al.length (fun k v i wr => plainRel al w k v i wr)
  case atStart => exact ⟨0, [], rfl, rfl, Nat.zero_le _, Same.refl _ _, World.ownsRow_nil _ _ _ _, .nil⟩
  case round =>
    obtain ⟨j, rv, hk, rfl, hjl, hS, hOwn, hA⟩ := hrel
    by_cases hj : j < al.length
    · obtain ⟨pb, po, ps, rfl⟩ := HF.out j hj
      obtain ⟨rfl, x, hx, q0, q1, q2, q3⟩ := HV.out.at hS hj
      have hcl := World.block_lt_of_cell? _ _ q0
      simp only at hcl
      have hne : ¬ pb = wr.heap.size := by omega
      have hwl : w.heap.size ≤ wr.heap.size := hS.size
      have hx0 : ResR (fun k => k < w.heap.size) wr x al[j] := by
        obtain ⟨ad', cp', h1, _, _, _, h5⟩ := HV.out
        cases h1
        obtain ⟨_, y, _, hc, hy⟩ := h5 _ rfl j al[j] (List.getElem?_eq_getElem hj)
        have e : x = y := by
          have g0 := hS.cell (p := ⟨pb, po + j * 4, none⟩) (fun h => h) (hc 0 _ rfl)
          have g1 := hS.cell (p := ⟨pb, po + j * 4 + 1, none⟩) (fun h => h) (hc 1 _ rfl)
          have g2 := hS.cell (p := ⟨pb, po + j * 4 + 2, none⟩) (fun h => h) (hc 2 _ rfl)
          have g3 := hS.cell (p := ⟨pb, po + j * 4 + 3, none⟩) (fun h => h) (hc 3 _ rfl)
          rw [q0] at g0
          rw [q1] at g1
          rw [q2] at g2
          rw [q3] at g3
          cases x; cases y
          simp_all
        rw [e]
        exact hy.same hS (fun k hk h => ⟨fun h => h, hk⟩)
      have HO := Lib.hid hOwn
      have A := Lib.hid (And.intro hk (And.intro hS (And.intro hA hx0)))
      clear hk hS hA hx hx0 hOwn HF HV
      obtain ⟨i0, hi, hz0, hz1, hz2⟩ := info_parts info61
      go_wp2_with (at_builtin; refine wpList_append_own2 _ rfl _ _ 36 rfl w.heap.size 61 i0 (.agg #[.int .i64 0, .bool false, .slice none 0 0, .bool false]) 4 48 Tryd.underlying36 hi hz0 hz1 hz2 rfl (by decide) _ _ _ rfl ((HO.out.alloc _).alloc _) ⟨wr.heap.size + 1, 0, none⟩ 1 1 x.cells rfl rfl ?c1 ?c2 ?c3 ?c4 ?c5 ?_)
      case c1 => exact cells_new2 wr _ x.cells 61
      case c2 => exact res_one x
      case c3 => unfold maxLen; omega
      case c4 => omega
      case c5 => simp; omega
      intro v1 w1 hown1 hgrow1 hwhere
      have hflat : (rv.map ResV.cells).flatten ++ x.cells = ((rv ++ [x]).map ResV.cells).flatten := by simp
      rw [hflat] at hown1
      have C1 := Lib.hid (And.intro hown1 (And.intro hgrow1 hwhere))
      clear hown1 hgrow1 hwhere hflat
      go_wp2
      go_roundg (gk - 1)
      case measure => have := A.out.1; omega
      case rel =>
        have hlt := HO.out.lt
        have s1 := (((Same.refl (fun _ => False) wr).alloc (.cells #[.int .i64 x.n, .bool x.ok, .slice x.ad x.ln x.cp, .bool x.pn] 32)).alloc (.cells #[.int .i64 x.n, .bool x.ok, .slice x.ad x.ln x.cp, .bool x.pn] 61)).mono (G := fun k => u3.ownBlock = some k) (fun _ _ h => h.elim)
        have s2 := s1.trans (Same.of_grown C1.out.2.1) (fun _ _ h => h)
        refine ⟨j + 1, rv ++ [x], by have := A.out.1; omega, rfl, by omega, A.out.2.1.trans s2 (fun k hk h => ?_), C1.out.1, ?_⟩
        · have := (hlt k h).1; omega
        · rw [List.take_succ_eq_append_getElem hj]
          refine (A.out.2.2.1.mono fun y a h => ?_).snoc ?_
          · exact h.same s2 (fun k _ hk => ⟨fun h' => (by have := (hlt k h').1; omega), hk⟩)
          · exact A.out.2.2.2.same s2 (fun k _ hk => ⟨fun h' => (by have := (hlt k h').1; omega), hk⟩)
    · have hje : j = al.length := by omega
      have hA2 : All2 (ResR (fun _ => True) wr) rv al := by
        rw [hje, List.take_length] at hA
        exact hA.mono fun x a h => h.same (Same.refl (fun _ => False) _) (fun _ _ _ => ⟨fun h => h, trivial⟩)
      have hR : ResultsR (fun _ => True) wr u3 al := RowR.of_owns (fun _ => rfl) hOwn hA2 (fun _ _ => trivial)
      have A := Lib.hid (And.intro hS hR)
      clear hk hS hA hOwn hje hA2 hR
      go_wp2
      go_ret
      exact ⟨u3, rfl, A.out.1, A.out.2⟩
end Go.Proofs.YtalpilbpgkijlaaDoor
