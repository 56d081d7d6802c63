/- What the walks of this claim share: worlds in which only some blocks have turned; steps and results as values. No condition. -/
import Derived.Test.YtalpilbpgkijlaaDoorChecked
import Derived.WalkKit
import Derived.WalkLawsBesides
import Derived.WalkSpells
import Derived.BigQuiet
import Derived.Deep.QuietTactic
import Derived.Deep.LoopGhost
import Derived.StillTailTactics
import Derived.Lib.Hide
namespace Go.Proofs.YtalpilbpgkijlaaDoor
open Go.RowKit

/-- A region whose head reads and whose tail is forced, the world named. -/
theorem still_tail {P : Program} {id : Nat} {Q : Exit → Act → World → Prop} {a : Act} {w : World} {l : List Oper} (n : Nat) (W : World) (hW : w.drew = W) (hm : P.follows .mixedOrders = true) (hB : Region.lexTailB .any l.toArray n = true)
    (h : wpStill P l.toArray W (fun a' => wpList P l.toArray Q (l.drop n) a' W) (l.take n) a) : (Code.region id l.toArray true).wp P Q a w := by
  subst hW
  exact wp_region_still_tail n hm hB h

/-- Of the blocks that were there, only those in F may have turned. -/
structure Same (F : Nat → Prop) (w w' : World) : Prop where
  os : w'.os = w.os
  tape : w'.tape = w.tape
  output : w'.output = w.output
  size : w.heap.size ≤ w'.heap.size
  block : ∀ k, k < w.heap.size → ¬ F k → w'.heap[k]? = w.heap[k]?

theorem Same.refl (F : Nat → Prop) (w : World) : Same F w w := ⟨rfl, rfl, rfl, Nat.le_refl _, fun _ _ _ => rfl⟩
theorem Same.trans {F G : Nat → Prop} {a b c : World} (h : Same F a b) (k : Same G b c) (hG : ∀ i, i < a.heap.size → G i → F i) : Same F a c :=
  ⟨k.os.trans h.os, k.tape.trans h.tape, k.output.trans h.output, Nat.le_trans h.size k.size,
    fun i hi hF => (k.block i (Nat.lt_of_lt_of_le hi h.size) (fun g => hF (hG i hi g))).trans (h.block i hi hF)⟩
theorem Same.mono {F G : Nat → Prop} {a b : World} (h : Same F a b) (hG : ∀ i, i < a.heap.size → F i → G i) : Same G a b :=
  ⟨h.os, h.tape, h.output, h.size, fun i hi hn => h.block i hi (fun g => hn (hG i hi g))⟩
theorem Same.alloc {F : Nat → Prop} {a w : World} (h : Same F a w) (o : Obj) : Same F a (w.alloc o) :=
  h.trans (G := fun _ => False) ⟨rfl, rfl, rfl, by simp, fun k hk _ => Below.heap_alloc _ _ _ hk⟩ (fun _ _ g => g.elim)
theorem Same.setCell {F : Nat → Prop} {a w : World} (h : Same F a w) {p : Addr} (hp : p.block < a.heap.size → F p.block) (u : Value) : Same F a (w.setCell p u) :=
  h.trans (G := fun k => k = p.block) ⟨rfl, rfl, rfl, by simp [World.setCell], fun k _ hn => Below.heap_setCell _ _ _ _ hn⟩ (fun i hi g => by subst g; exact hp hi)
theorem Same.drew {F : Nat → Prop} {a w : World} (h : Same F a w) : Same F a w.drew := ⟨h.os, h.tape, h.output, h.size, h.block⟩
theorem Same.drewN {F : Nat → Prop} {a w : World} (h : Same F a w) (n : Nat) : Same F a (w.drewN n) := ⟨h.os, h.tape, h.output, h.size, h.block⟩
theorem Same.grown {F : Nat → Prop} {a w w' : World} {row : Option Nat} (h : Same F a w) (hg : w.grownBy w' row) (hr : ∀ k, row = some k → k < a.heap.size → F k) : Same F a w' :=
  h.trans (G := fun k => row = some k) ⟨hg.os, hg.tape, hg.output, hg.size, fun k hk hn => hg.block k hk (fun e => hn e.symm)⟩ (fun i hi g => hr i g hi)
theorem Same.below {F : Nat → Prop} {w w' : World} (h : Same F w w') {B : Nat} (hB : B ≤ w.heap.size) (hF : ∀ k, k < B → ¬ F k) : Below B w w' :=
  ⟨h.os, h.tape, h.output, h.size, fun k hk => h.block k (Nat.lt_of_lt_of_le hk hB) (hF k hk)⟩
theorem Below.toSame {B : Nat} {w w' : World} (h : Below B w w') : Same (fun k => B ≤ k) w w' :=
  ⟨h.os, h.tape, h.output, h.size, fun k _ hn => h.block k (Nat.lt_of_not_le hn)⟩
theorem Same.cell {F : Nat → Prop} {w w' : World} (h : Same F w w') {p : Addr} {v : Value} (hp : ¬ F p.block) (hc : w.cell? p = some v) : w'.cell? p = some v :=
  (World.cell?_of_block (h.block p.block (World.block_lt_of_cell? w p hc) hp)).trans hc

/-- A block of cells that may be written. -/
def Blk (w : World) (b : Nat) (c : Array Value) (t : TypeId) : Prop := w.heap[b]? = some (.cells c t (0, 0))
theorem Blk.lt {w : World} {b : Nat} {c : Array Value} {t : TypeId} (h : Blk w b c t) : b < w.heap.size := by
  unfold Blk at h
  rcases Nat.lt_or_ge b w.heap.size with h' | h'
  · exact h'
  · simp [Array.getElem?_eq_none h'] at h
theorem Blk.cell {w : World} {b : Nat} {c : Array Value} {t : TypeId} (h : Blk w b c t) (o : Nat) : w.cell? ⟨b, o, none⟩ = c[o]? := by
  unfold Blk at h
  simp [World.cell?, h]
theorem Blk.free {w : World} {b : Nat} {c : Array Value} {t : TypeId} (h : Blk w b c t) (o : Nat) : w.frozen? ⟨b, o, none⟩ = false := by
  unfold Blk at h
  simp [World.frozen?, h]
theorem Blk.set {w : World} {b : Nat} {c : Array Value} {t : TypeId} (h : Blk w b c t) (o : Nat) (u : Value) : Blk (w.setCell ⟨b, o, none⟩ u) b (c.setIfInBounds o u) t := by
  have hlt := h.lt
  unfold Blk at h
  have h' : w.heap[b] = .cells c t (0, 0) := by simpa [Array.getElem?_eq_getElem hlt] using h
  show (w.heap.modify b _)[b]? = _
  rw [Array.getElem?_eq_getElem (by simpa using hlt), Array.getElem_modify_self, h']
  rfl
theorem Blk.other {w : World} {b : Nat} {c : Array Value} {t : TypeId} (h : Blk w b c t) {p : Addr} (hp : b ≠ p.block) (u : Value) : Blk (w.setCell p u) b c t := by
  unfold Blk at h ⊢
  rw [Below.heap_setCell _ _ _ _ hp]
  exact h
theorem Blk.alloc {w : World} {b : Nat} {c : Array Value} {t : TypeId} (h : Blk w b c t) (o : Obj) : Blk (w.alloc o) b c t := by
  have hlt := h.lt
  unfold Blk at h ⊢
  rw [Below.heap_alloc _ _ _ hlt]
  exact h
theorem Blk.drew {w : World} {b : Nat} {c : Array Value} {t : TypeId} (h : Blk w b c t) : Blk w.drew b c t := h
theorem Blk.drewN {w : World} {b : Nat} {c : Array Value} {t : TypeId} (h : Blk w b c t) (n : Nat) : Blk (w.drewN n) b c t := h
theorem Blk.new (w : World) (c : Array Value) (t : TypeId) : Blk (w.alloc (.cells c t)) w.heap.size c t := heap_alloc_new w _
theorem Blk.same {F : Nat → Prop} {w w' : World} {b : Nat} {c : Array Value} {t : TypeId} (h : Blk w b c t) (hs : Same F w w') (hF : ¬ F b) : Blk w' b c t := by
  have hlt := h.lt
  unfold Blk at h ⊢
  rw [hs.block b hlt hF]
  exact h

theorem Blk.set' {w : World} {b : Nat} {c c' : Array Value} {t : TypeId} {o : Nat} {u : Value} (h : Blk w b c t) (e : c.setIfInBounds o u = c') : Blk (w.setCell ⟨b, o, none⟩ u) b c' t := by
  subst e
  exact h.set o u
theorem Blk.other' {w : World} {b g o : Nat} {c : Array Value} {t : TypeId} {u : Value} (h : Blk w b c t) (hp : ¬ b = g) : Blk (w.setCell ⟨g, o, none⟩ u) b c t := h.other (p := ⟨g, o, none⟩) hp u
theorem Same.set' {F : Nat → Prop} {a w : World} {g o : Nat} {u : Value} (h : Same F a w) (hp : g < a.heap.size → F g) : Same F a (w.setCell ⟨g, o, none⟩ u) := h.setCell (p := ⟨g, o, none⟩) hp u

/-- The world but for its count of draws. -/
def Drawn (w w' : World) : Prop := ∃ n, w.drewN n = w'
/-- A panic of a text of the program's own. -/
def Dies (w : World) (e : Ending) (w' : World) : Prop := ∃ s, e = .panicked [{ v := .iface 9 s, recovered := false }] ∧ w = w'

/-- A step as a value. -/
structure StepV where
  what : Int
  which : Int
  n : Int
  ad : Option Addr
  ln : Nat
  cp : Nat
def StepV.bv (x : StepV) : Value := .slice x.ad x.ln x.cp
def StepV.cells (x : StepV) : List Value := [.int .i64 x.what, .int .i64 x.which, .int .i64 x.n, .slice x.ad x.ln x.cp]
def StepV.agg (x : StepV) : Value := .agg #[.int .i64 x.what, .int .i64 x.which, .int .i64 x.n, .slice x.ad x.ln x.cp]
/-- A result as a value. -/
structure ResV where
  n : Int
  ok : Bool
  ad : Option Addr
  ln : Nat
  cp : Nat
  pn : Bool
def ResV.cells (r : ResV) : List Value := [.int .i64 r.n, .bool r.ok, .slice r.ad r.ln r.cp, .bool r.pn]
def ResV.agg (r : ResV) : Value := .agg #[.int .i64 r.n, .bool r.ok, .slice r.ad r.ln r.cp, .bool r.pn]
/-- A result without bytes. -/
def ResV.plain (n : Int) (ok pn : Bool) : ResV := ⟨n, ok, none, 0, 0, pn⟩
end Go.Proofs.YtalpilbpgkijlaaDoor
