/- What spec.Inbound keeps, round by round; how it ends (plain). No condition. -/
import Derived.Test.YtalpilbpgkijlaaDoorInModel
import Derived.Test.YtalpilbpgkijlaaDoorCopies
namespace Go.Proofs.YtalpilbpgkijlaaDoor
open Go.RowKit
set_option maxRecDepth 100000
set_option maxHeartbeats 1000000
def ResA.cells (r : ResA) : List Value := [.int .i64 r.n, .bool r.ok, .slice none 0 0, .bool r.pn]
def resV (r : ResA) : ResV := ⟨r.n, r.ok, none, 0, 0, r.pn⟩
theorem res_cells (r : ResA) : r.cells = (resV r).cells := rfl
theorem resA_one (r : ResA) : ∀ u ∈ r.cells, u.oneCell' = true := res_one (resV r)
theorem cells_at {W : World} {cs : Array Value} {t : TypeId} {l : List Value} {k : Nat} (hk : W.heap.size = k) (hl : cs.toList = l) : ∀ j u, l[j]? = some u → (W.alloc (.cells cs t)).cell? ((⟨k, 0, none⟩ : Addr).add j) = some u := by
  intro j u hu
  subst hk hl
  exact cells_new1 W cs.toList t j u hu
theorem res_all2 (G : Nat → Prop) (w : World) : ∀ (rs : List ResA), (∀ r ∈ rs, r.bytes = [] ∧ Bd r.n) → All2 (ResR G w) (rs.map resV) rs := by
  intro rs
  induction rs with
  | nil => intro _; exact .nil
  | cons r rs ih =>
    intro h
    obtain ⟨h1, h2⟩ := h r (List.mem_cons_self ..)
    refine .cons ⟨rfl, rfl, rfl, h2, ?_⟩ (ih fun x hx => h x (List.mem_cons_of_mem _ hx))
    rw [h1]
    exact BytesAt.nil _ _
theorem res_flat (rs : List ResA) : (rs.map ResA.cells).flatten = ((rs.map resV).map ResV.cells).flatten := by
  rw [List.map_map]
  rfl
/-- A row of results without bytes that the call owns. -/
theorem results_of {w : World} {base : Nat} {v : Value} {n : Nat} {rs : List ResA} (hown : w.ownsRow base 61 4 v n (rs.map ResA.cells).flatten) (h : ∀ r ∈ rs, r.bytes = [] ∧ Bd r.n) : ResultsR (fun _ => True) w v rs := by
  rw [res_flat] at hown
  exact RowR.of_owns (fun _ => rfl) hown (res_all2 _ _ rs h) (fun _ _ => trivial)

structure InbCore (al : List StepA) (w : World) (B : Nat) (j : Nat) (s : InS) (rs : List ResA) (v : Value) (wr : World) : Prop where
  hB : w.heap.size = B
  len : rs.length = j
  win : 0 ≤ s.a0 ∧ 0 ≤ s.u0 ∧ s.a0 + s.u0 ≤ 2147483647 ∧ 0 ≤ s.a1 ∧ 0 ≤ s.u1 ∧ s.a1 + s.u1 ≤ 2147483647
  blk : Blk wr B #[.int .i64 s.a0, .int .i64 s.u0, .int .i64 s.a1, .int .i64 s.u1] 72
  same : Same (fun _ => False) w wr
  own : wr.ownsRow (B + 1) 61 4 v j (rs.map ResA.cells).flatten
  plain : ∀ r ∈ rs, r.bytes = [] ∧ Bd r.n
  cont : ∀ rest, Runs StpIn DieIn s (al.drop j) rest → Runs StpIn DieIn ⟨0, 0, 0, 0⟩ al (rs ++ rest)
def InbRel (al : List StepA) (w : World) (B : Nat) (k : Nat) (v i : Value) (wr : World) : Prop :=
  ∃ (j : Nat) (s : InS) (rs : List ResA), k + j = al.length ∧ i = .int .i64 j ∧ j ≤ al.length ∧ InbCore al w B j s rs v wr
def InbPost (al : List StepA) (w : World) (e : Ending) (w' : World) : Prop :=
  ∃ (v : Value) (ok : Bool), e = .returned (.tuple #[v, .bool ok]) ∧ Same (fun _ => False) w w' ∧ (ok = true → ∃ rs, Runs StpIn DieIn ⟨0, 0, 0, 0⟩ al rs ∧ rs.length ≤ al.length ∧ ResultsR (fun _ => True) w' v rs)
section
variable {al : List StepA} {w wr W w2 : World} {B j : Nat} {s s' : InS} {rs : List ResA} {v v1 : Value} {r : ResA}
theorem InbCore.next (h : InbCore al w B j s rs v wr) (hj : j < al.length) (hst : StpIn s al[j] r s') (hpn : r.pn = false) (hby : r.bytes = []) (hbd : Bd r.n)
    (hwin : 0 ≤ s'.a0 ∧ 0 ≤ s'.u0 ∧ s'.a0 + s'.u0 ≤ 2147483647 ∧ 0 ≤ s'.a1 ∧ 0 ≤ s'.u1 ∧ s'.a1 + s'.u1 ≤ 2147483647)
    (hblk : Blk W B #[.int .i64 s'.a0, .int .i64 s'.u0, .int .i64 s'.a1, .int .i64 s'.u1] 72) (hS : Same (fun k => k = B) wr W)
    (hown : w2.ownsRow (B + 1) 61 4 v1 (j + 1) ((rs.map ResA.cells).flatten ++ r.cells)) (hg : W.grownBy w2 v.ownBlock) : InbCore al w B (j + 1) s' (rs ++ [r]) v1 w2 := by
  have hB := h.hB
  have hlt := h.own.lt
  have s2 := Same.of_grown hg
  refine ⟨hB, by simp [h.len], hwin, hblk.same s2 (fun hc => by have := (hlt B hc).1; omega), ?_, by simpa using hown, ?_, ?_⟩
  · refine (h.same.trans hS (fun k hk hc => by omega)).trans s2 (fun k hk hc => ?_)
    have := (hlt k hc).1
    omega
  · intro x hx
    rw [List.mem_append] at hx
    rcases hx with hx | hx
    · exact h.plain x hx
    · simp only [List.mem_singleton] at hx
      subst hx
      exact ⟨hby, hbd⟩
  · intro rest hr
    rw [List.append_assoc]
    refine h.cont ([r] ++ rest) ?_
    rw [List.drop_eq_getElem_cons hj]
    exact .step hst hpn hr
theorem InbCore.die (h : InbCore al w B j s rs v wr) (hj : j < al.length) (hd : DieIn s al[j]) (hS : Same (fun k => k = B) wr W)
    (hown : w2.ownsRow (B + 1) 61 4 v1 (j + 1) ((rs.map ResA.cells).flatten ++ ResA.cells ⟨0, false, [], true⟩)) (hg : W.grownBy w2 v.ownBlock) : InbPost al w (.returned (.tuple #[v1, .bool true])) w2 := by
  have hB := h.hB
  have hlt := h.own.lt
  have s2 := Same.of_grown hg
  refine ⟨v1, true, rfl, ?_, fun _ => ⟨rs ++ [⟨0, false, [], true⟩], ?_, ?_, ?_⟩⟩
  · refine (h.same.trans hS (fun k hk hc => by omega)).trans s2 (fun k hk hc => ?_)
    have := (hlt k hc).1
    omega
  · refine h.cont _ ?_
    rw [List.drop_eq_getElem_cons hj]
    exact .dead hd
  · have := h.len
    simp
    omega
  · refine results_of (base := B + 1) (n := j + 1) (by simpa using hown) fun x hx => ?_
    rw [List.mem_append] at hx
    rcases hx with hx | hx
    · exact h.plain x hx
    · simp only [List.mem_singleton] at hx
      subst hx
      exact ⟨rfl, by show (-9223372036854775808 : Int) ≤ 0; omega, by show (0 : Int) ≤ 9223372036854775807; omega⟩
theorem InbCore.done (h : InbCore al w B j s rs v wr) (hj : ¬ j < al.length) (hj' : j ≤ al.length) : InbPost al w (.returned (.tuple #[v, .bool true])) wr := by
  have hl := h.len
  refine ⟨v, true, rfl, h.same, fun _ => ⟨rs, ?_, by omega, results_of h.own h.plain⟩⟩
  have := h.cont [] (by rw [List.drop_eq_nil_of_le (by omega)]; exact .nil)
  simpa using this
theorem InbCore.no (h : InbCore al w B j s rs v wr) (hS : Same (fun k => k = B) wr W) : InbPost al w (.returned (.tuple #[.slice none 0 0, .bool false])) W := by
  have hB := h.hB
  exact ⟨_, false, rfl, h.same.trans hS (fun k hk hc => by omega), fun h => by cases h⟩
end
end Go.Proofs.YtalpilbpgkijlaaDoor
