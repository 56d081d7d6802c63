/- The two rows of steps that laws.FnTransfer keeps; a slice of numbers (plain). No condition. -/
import Derived.Test.YtalpilbpgkijlaaDoorTransPlain
import Derived.Test.YtalpilbpgkijlaaDoorApp
namespace Go.Proofs.YtalpilbpgkijlaaDoor
open Go.RowKit
set_option maxRecDepth 100000
set_option maxHeartbeats 1000000
def stV (a : StepA) : StepV := ⟨a.what, a.which, a.n, none, 0, 0⟩
def Nice (a : StepA) : Prop := a.bytes = [] ∧ Bd a.what ∧ Bd a.which ∧ Bd a.n
def flat (al : List StepA) : List Value := ((al.map stV).map StepV.cells).flatten
theorem flat_snoc (al : List StepA) (a : StepA) : flat (al ++ [a]) = flat al ++ (stV a).cells := by simp [flat]
theorem nice_snoc {al : List StepA} {a : StepA} (h : ∀ x ∈ al, Nice x) (ha : Nice a) : ∀ x ∈ al ++ [a], Nice x := by
  intro x hx
  rw [List.mem_append] at hx
  rcases hx with hx | hx
  · exact h x hx
  · simp only [List.mem_singleton] at hx
    subst hx
    exact ha
theorem step_all2 (G : Nat → Prop) (w : World) : ∀ (al : List StepA), (∀ x ∈ al, Nice x) → All2 (StepR G w) (al.map stV) al := by
  intro al
  induction al with
  | nil => intro _; exact .nil
  | cons a al ih =>
    intro h
    obtain ⟨h1, h2, h3, h4⟩ := h a (List.mem_cons_self ..)
    refine .cons ⟨rfl, rfl, rfl, h2, h3, h4, ?_⟩ (ih fun x hx => h x (List.mem_cons_of_mem _ hx))
    rw [h1]
    exact BytesAt.nil _ _
theorem steps_of {w : World} {base : Nat} {v : Value} {n : Nat} {al : List StepA} (hown : w.ownsRow base 26 4 v n (flat al)) (h : ∀ x ∈ al, Nice x) : StepsR (fun _ => True) w v al :=
  RowR.of_owns (fun _ => rfl) hown (step_all2 _ _ al h) (fun _ _ => trivial)

structure Two (Kp : Addr → Value → Prop) (w : World) (B : Nat) (uo ui : Value) (ao ai : List StepA) (wr : World) : Prop where
  base : w.heap.size ≤ B ∧ B ≤ wr.heap.size
  same : Same (fun _ => False) w wr
  so : wr.ownsRow B 26 4 uo ao.length (flat ao)
  si : wr.ownsRow B 26 4 ui ai.length (flat ai)
  ne : ∀ g, uo.ownBlock = some g → ui.ownBlock ≠ some g
  no : ∀ x ∈ ao, Nice x
  ni : ∀ x ∈ ai, Nice x
  kp : ∀ p u, Kp p u → wr.cell? p = some u ∧ uo.ownBlock ≠ some p.block ∧ ui.ownBlock ≠ some p.block
section
variable {Kp : Addr → Value → Prop} {w wr W w2 : World} {B : Nat} {uo ui v1 : Value} {ao ai : List StepA} {a : StepA}
theorem Two.on (h : Two Kp w B uo ui ao ai wr) (hs : Same (fun _ => False) wr w2) : Two Kp w B uo ui ao ai w2 :=
  ⟨⟨h.base.1, Nat.le_trans h.base.2 hs.size⟩, h.same.trans hs (fun _ _ h => h), ownsRow_same h.so hs (fun _ _ h => h), ownsRow_same h.si hs (fun _ _ h => h), h.ne, h.no, h.ni, fun p u hk => ⟨hs.cell (fun h => h) (h.kp p u hk).1, (h.kp p u hk).2⟩⟩
theorem Two.appO (h : Two Kp w B uo ui ao ai wr) (hs : Same (fun _ => False) wr W) (ha : Nice a) (hown : w2.ownsRow B 26 4 v1 (ao.length + 1) (flat ao ++ (stV a).cells)) (hg : W.grownBy w2 uo.ownBlock)
    (hw : v1.ownBlock = uo.ownBlock ∨ v1.ownBlock = some W.heap.size) : Two Kp w B v1 ui (ao ++ [a]) ai w2 := by
  have h2 := h.on hs
  have hb := h2.base
  have s2 := Same.of_grown hg
  refine ⟨⟨hb.1, Nat.le_trans hb.2 s2.size⟩, h2.same.trans s2 (fun k hk hc => ?_), ?_, ownsRow_same h2.si s2 (fun g hg hc => h2.ne g hc hg), fun g hg hc => ?_, nice_snoc h.no ha, h.ni, fun p u hk => ?_⟩
  · have := (h2.so.lt k hc).1
    omega
  · rw [flat_snoc]
    simpa using hown
  · rcases hw with e | e
    · exact h2.ne g (e ▸ hg) hc
    · rw [e] at hg
      cases hg
      have := (h2.si.lt _ hc).2
      omega
  · obtain ⟨k1, k2, k3⟩ := h2.kp p u hk
    refine ⟨s2.cell k2 k1, fun hc => ?_, k3⟩
    rcases hw with e | e
    · exact k2 (e ▸ hc)
    · rw [e] at hc
      have := World.block_lt_of_cell? _ _ k1
      have := Option.some.inj hc
      omega
theorem Two.appI (h : Two Kp w B uo ui ao ai wr) (hs : Same (fun _ => False) wr W) (ha : Nice a) (hown : w2.ownsRow B 26 4 v1 (ai.length + 1) (flat ai ++ (stV a).cells)) (hg : W.grownBy w2 ui.ownBlock)
    (hw : v1.ownBlock = ui.ownBlock ∨ v1.ownBlock = some W.heap.size) : Two Kp w B uo v1 ao (ai ++ [a]) w2 := by
  have h2 := h.on hs
  have hb := h2.base
  have s2 := Same.of_grown hg
  refine ⟨⟨hb.1, Nat.le_trans hb.2 s2.size⟩, h2.same.trans s2 (fun k hk hc => ?_), ownsRow_same h2.so s2 (fun g hg hc => h2.ne g hg hc), ?_, fun g hg hc => ?_, h.no, nice_snoc h.ni ha, fun p u hk => ?_⟩
  · have := (h2.si.lt k hc).1
    omega
  · rw [flat_snoc]
    simpa using hown
  · rcases hw with e | e
    · exact h2.ne g hg (e ▸ hc)
    · rw [e] at hc
      cases hc
      have := (h2.so.lt _ hg).2
      omega
  · obtain ⟨k1, k2, k3⟩ := h2.kp p u hk
    refine ⟨s2.cell k3 k1, k2, fun hc => ?_⟩
    rcases hw with e | e
    · exact k3 (e ▸ hc)
    · rw [e] at hc
      have := World.block_lt_of_cell? _ _ k1
      have := Option.some.inj hc
      omega
/-- A block that is new is kept, too. -/
theorem Two.keep (h : Two Kp w B uo ui ao ai wr) (c : Array Value) (t : TypeId) : Two (fun p u => p.block = wr.heap.size ∧ (wr.alloc (.cells c t)).cell? p = some u) w B uo ui ao ai (wr.alloc (.cells c t)) := by
  have h2 := h.on (w2 := wr.alloc (.cells c t)) ((Same.refl _ _).alloc _)
  refine ⟨h2.base, h2.same, h2.so, h2.si, h2.ne, h2.no, h2.ni, fun p u hk => ⟨hk.2, fun hc => ?_, fun hc => ?_⟩⟩
  · have := (h.so.lt _ hc).2
    omega
  · have := (h.si.lt _ hc).2
    omega
theorem Two.forget (h : Two Kp w B uo ui ao ai wr) : Two (fun _ _ => False) w B uo ui ao ai wr :=
  ⟨h.base, h.same, h.so, h.si, h.ne, h.no, h.ni, fun _ _ h => h.elim⟩
end
/-- A slice of numbers. -/
def IntsR (w : World) (v : Value) (xs : List Int) : Prop :=
  ∃ ad cp, v = .slice ad xs.length cp ∧ xs.length ≤ 9223372036854775807 ∧ (ad = none → xs.length = 0) ∧ ∀ p, ad = some p → ∀ j x, xs[j]? = some x → p.spot = none ∧ Bd x ∧ w.cell? ⟨p.block, p.off + j, none⟩ = some (.int .i64 x)
theorem nice_of (a b n : Int) (ha : 0 ≤ a ∧ a ≤ 4) (hb : 0 ≤ b ∧ b ≤ 1) (hn : 0 ≤ n ∧ n ≤ 2147483647) : Nice ⟨a, b, n, []⟩ := by
  refine ⟨rfl, ⟨?_, ?_⟩, ⟨?_, ?_⟩, ⟨?_, ?_⟩⟩
  · show -9223372036854775808 ≤ a; omega
  · show a ≤ 9223372036854775807; omega
  · show -9223372036854775808 ≤ b; omega
  · show b ≤ 9223372036854775807; omega
  · show -9223372036854775808 ≤ n; omega
  · show n ≤ 9223372036854775807; omega
end Go.Proofs.YtalpilbpgkijlaaDoor
