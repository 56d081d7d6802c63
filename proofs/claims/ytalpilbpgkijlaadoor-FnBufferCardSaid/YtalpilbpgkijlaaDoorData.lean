/- Lists of steps and of results, as they lie in memory; a closure as impl.run calls it. No condition. -/
import Derived.Test.YtalpilbpgkijlaaDoorStepped
namespace Go.Proofs.YtalpilbpgkijlaaDoor
open Go.RowKit

/-- A step, al data. -/
structure StepA where
  what : Int
  which : Int
  n : Int
  bytes : List UInt8
/-- A result, al data. -/
structure ResA where
  n : Int
  ok : Bool
  bytes : List UInt8
  pn : Bool

def Bd (x : Int) : Prop := -9223372036854775808 ≤ x ∧ x ≤ 9223372036854775807

/-- A slice value that holds bytes, in blocks that G takes. -/
def BytesAt (G : Nat → Prop) (w : World) (ad : Option Addr) (ln cp : Nat) (l : List UInt8) : Prop :=
  l.length = ln ∧ ln ≤ cp ∧ cp ≤ maxLen ∧ (ad = none → ln = 0 ∧ cp = 0) ∧
  ∀ p, ad = some p → ∀ i, i < ln → p.spot = none ∧ G p.block ∧ w.cell? ⟨p.block, p.off + i, none⟩ = some (.int .u8 ((l.getD i 0).toNat : Int))

theorem BytesAt.same {G H F : Nat → Prop} {w w' : World} {ad : Option Addr} {ln cp : Nat} {l : List UInt8} (h : BytesAt G w ad ln cp l) (hs : Same F w w') (hG : ∀ k, k < w.heap.size → G k → ¬ F k ∧ H k) : BytesAt H w' ad ln cp l := by
  obtain ⟨h1, h2, h3, h4, h5⟩ := h
  refine ⟨h1, h2, h3, h4, fun p hp i hi => ?_⟩
  obtain ⟨sp, g, c⟩ := h5 p hp i hi
  have := hG _ (World.block_lt_of_cell? _ _ c) g
  exact ⟨sp, this.2, hs.cell (p := ⟨p.block, p.off + i, none⟩) this.1 c⟩
theorem BytesAt.nil (G : Nat → Prop) (w : World) : BytesAt G w none 0 0 [] := ⟨rfl, Nat.le_refl _, Nat.zero_le _, fun _ => ⟨rfl, rfl⟩, fun _ h => by cases h⟩

def StepR (G : Nat → Prop) (w : World) (x : StepV) (a : StepA) : Prop :=
  x.what = a.what ∧ x.which = a.which ∧ x.n = a.n ∧ Bd a.what ∧ Bd a.which ∧ Bd a.n ∧ BytesAt G w x.ad x.ln x.cp a.bytes
def ResR (G : Nat → Prop) (w : World) (r : ResV) (a : ResA) : Prop :=
  r.n = a.n ∧ r.ok = a.ok ∧ r.pn = a.pn ∧ Bd a.n ∧ BytesAt G w r.ad r.ln r.cp a.bytes
theorem StepR.same {G H F : Nat → Prop} {w w' : World} {x : StepV} {a : StepA} (h : StepR G w x a) (hs : Same F w w') (hG : ∀ k, k < w.heap.size → G k → ¬ F k ∧ H k) : StepR H w' x a :=
  ⟨h.1, h.2.1, h.2.2.1, h.2.2.2.1, h.2.2.2.2.1, h.2.2.2.2.2.1, h.2.2.2.2.2.2.same hs hG⟩
theorem ResR.same {G H F : Nat → Prop} {w w' : World} {r : ResV} {a : ResA} (h : ResR G w r a) (hs : Same F w w') (hG : ∀ k, k < w.heap.size → G k → ¬ F k ∧ H k) : ResR H w' r a :=
  ⟨h.1, h.2.1, h.2.2.1, h.2.2.2.1, h.2.2.2.2.same hs hG⟩

/-- Cells from a place on. -/
def CellsAt (w : World) (p : Addr) (k : Nat) (cs : List Value) : Prop := ∀ j u, cs[j]? = some u → w.cell? ⟨p.block, p.off + k + j, none⟩ = some u

/-- A slice of structs of four cells. -/
def RowR {X A : Type} (cells : X → List Value) (R : X → A → Prop) (G : Nat → Prop) (w : World) (v : Value) (al : List A) : Prop :=
  ∃ ad cp, v = .slice ad al.length cp ∧ al.length ≤ cp ∧ cp ≤ maxLen ∧ (ad = none → al.length = 0 ∧ cp = 0) ∧
  ∀ p, ad = some p → ∀ i a, al[i]? = some a → p.spot = none ∧ ∃ x : X, G p.block ∧ CellsAt w p (i * 4) (cells x) ∧ R x a

theorem RowR.same {X A : Type} {cells : X → List Value} {R R' : X → A → Prop} {G H F : Nat → Prop} {w w' : World} {v : Value} {al : List A} (h : RowR cells R G w v al) (hc : ∀ x, 0 < (cells x).length)
    (hs : Same F w w') (hG : ∀ k, k < w.heap.size → G k → ¬ F k ∧ H k) (hR : ∀ x a, R x a → R' x a) : RowR cells R' H w' v al := by
  obtain ⟨ad, cp, h1, h2, h3, h4, h5⟩ := h
  refine ⟨ad, cp, h1, h2, h3, h4, fun p hp i a ha => ?_⟩
  obtain ⟨sp, x, g, c, r⟩ := h5 p hp i a ha
  have c0 := c 0 _ (List.getElem?_eq_getElem (hc x))
  have hk := hG _ (World.block_lt_of_cell? _ _ c0) g
  exact ⟨sp, x, hk.2, fun j u hu => hs.cell (p := ⟨p.block, p.off + i * 4 + j, none⟩) hk.1 (c j u hu), hR x a r⟩

def StepsR (G : Nat → Prop) (w : World) (v : Value) (al : List StepA) : Prop := RowR StepV.cells (StepR G w) G w v al
def ResultsR (G : Nat → Prop) (w : World) (v : Value) (al : List ResA) : Prop := RowR ResV.cells (ResR G w) G w v al
theorem StepsR.same {G H F : Nat → Prop} {w w' : World} {v : Value} {al : List StepA} (h : StepsR G w v al) (hs : Same F w w') (hG : ∀ k, k < w.heap.size → G k → ¬ F k ∧ H k) : StepsR H w' v al :=
  RowR.same h (fun _ => by simp [StepV.cells]) hs hG (fun _ _ r => r.same hs hG)
theorem ResultsR.same {G H F : Nat → Prop} {w w' : World} {v : Value} {al : List ResA} (h : ResultsR G w v al) (hs : Same F w w') (hG : ∀ k, k < w.heap.size → G k → ¬ F k ∧ H k) : ResultsR H w' v al :=
  RowR.same h (fun _ => by simp [ResV.cells]) hs hG (fun _ _ r => r.same hs hG)

/-- Elements one by one. -/
inductive All2 {X A : Type} (R : X → A → Prop) : List X → List A → Prop
  | nil : All2 R [] []
  | cons {x a xs al} : R x a → All2 R xs al → All2 R (x :: xs) (a :: al)
theorem All2.length {X A : Type} {R : X → A → Prop} {xs : List X} {al : List A} (h : All2 R xs al) : xs.length = al.length := by
  induction h with
  | nil => rfl
  | cons _ _ ih => simp [ih]
theorem All2.mono {X A : Type} {R R' : X → A → Prop} {xs : List X} {al : List A} (h : All2 R xs al) (hR : ∀ x a, R x a → R' x a) : All2 R' xs al := by
  induction h with
  | nil => exact .nil
  | cons h _ ih => exact .cons (hR _ _ h) ih
theorem All2.snoc {X A : Type} {R : X → A → Prop} {xs : List X} {al : List A} {x : X} {a : A} (h : All2 R xs al) (hx : R x a) : All2 R (xs ++ [x]) (al ++ [a]) := by
  induction h with
  | nil => exact .cons hx .nil
  | cons h _ ih => exact .cons h ih
theorem All2.get {X A : Type} {R : X → A → Prop} {xs : List X} {al : List A} (h : All2 R xs al) : ∀ (i : Nat) (a : A), al[i]? = some a → ∃ x, xs[i]? = some x ∧ R x a := by
  induction h with
  | nil => intro i a ha; simp at ha
  | cons h _ ih =>
    intro i a ha
    cases i with
    | zero => simp at ha; subst ha; exact ⟨_, by simp, h⟩
    | succ i => simpa using ih i a (by simpa using ha)

theorem flat4 {X : Type} (cells : X → List Value) (h4 : ∀ x, (cells x).length = 4) : ∀ (xs : List X), (xs.map cells).flatten.length = xs.length * 4 := by
  intro xs
  induction xs with
  | nil => rfl
  | cons x xs ih => simp only [List.map_cons, List.flatten_cons, List.length_append, h4, ih, List.length_cons]; omega
theorem flat_get {X : Type} (cells : X → List Value) (h4 : ∀ x, (cells x).length = 4) : ∀ (xs : List X) (i : Nat) (x : X) (j : Nat) (u : Value), xs[i]? = some x → (cells x)[j]? = some u → (xs.map cells).flatten[i * 4 + j]? = some u := by
  intro xs
  induction xs with
  | nil => intro i x j u h; simp at h
  | cons y xs ih =>
    intro i x j u hx hu
    have hj : j < 4 := by
      have := (List.getElem?_eq_some_iff.1 hu).1
      rw [h4] at this
      exact this
    cases i with
    | zero =>
      simp at hx
      subst hx
      simp only [List.map_cons, List.flatten_cons, Nat.zero_mul, Nat.zero_add]
      rw [List.getElem?_append_left (by rw [h4]; exact hj)]
      exact hu
    | succ i =>
      simp only [List.map_cons, List.flatten_cons]
      rw [List.getElem?_append_right (by rw [h4]; omega), h4]
      have : (i + 1) * 4 + j - 4 = i * 4 + j := by omega
      rw [this]
      exact ih i x j u (by simpa using hx) hu

/-- What the call owns al a row, read al data. -/
theorem RowR.of_owns {X A : Type} {cells : X → List Value} {R : X → A → Prop} {G : Nat → Prop} {w : World} {base : Nat} {e : TypeId} {v : Value} {n : Nat} {xs : List X} {al : List A} (h4 : ∀ x, (cells x).length = 4)
    (h : w.ownsRow base e 4 v n (xs.map cells).flatten) (ha : All2 R xs al) (hG : ∀ k, v.ownBlock = some k → G k) : RowR cells R G w v al := by
  obtain ⟨h1, h2⟩ := h
  have hn : n = al.length := by
    rw [flat4 cells h4] at h1
    have := ha.length
    omega
  subst hn
  rcases h2 with ⟨rfl, h0⟩ | ⟨g, cap, cur, rfl, _, hg, hc, hm, hs, ht⟩
  · exact ⟨none, 0, by rw [h0], by omega, Nat.zero_le _, fun _ => ⟨h0, rfl⟩, fun _ h => by cases h⟩
  · refine ⟨_, cap, rfl, hc, hm, (fun h => by cases h), fun p hp => ?_⟩
    obtain rfl := Option.some.inj hp
    intro i a hi
    obtain ⟨x, hx, hr⟩ := ha.get i a hi
    refine ⟨rfl, x, hG g rfl, fun j u hu => ?_, hr⟩
    have hf := flat_get cells h4 xs i x j u hx hu
    rw [← ht, List.getElem?_take] at hf
    split at hf
    · simp only [World.cell?, hg, Nat.zero_add]
      simpa using hf
    · cases hf

/-- A run of steps: the results, up to one that dies. -/
inductive Runs {σ : Type} (stp : σ → StepA → ResA → σ → Prop) (die : σ → StepA → Prop) : σ → List StepA → List ResA → Prop
  | nil {s} : Runs stp die s [] []
  | step {s a r s' al rs} : stp s a r s' → r.pn = false → Runs stp die s' al rs → Runs stp die s (a :: al) (r :: rs)
  | dead {s a al} : die s a → Runs stp die s (a :: al) [⟨0, false, [], true⟩]

/-- What a closure leaves at a step. -/
def StepPost {σ : Type} (Inv : σ → (Nat → Prop) → World → Prop) (F : Nat → Prop) (w : World) (s' : σ) (a : ResA) (r : ResV) (w' : World) : Prop :=
  ∃ F' : Nat → Prop, Same F w w' ∧ Inv s' F' w' ∧ (∀ k, F' k → F k ∨ w.heap.size ≤ k) ∧ ResR (fun k => ¬ F' k ∧ w.heap.size ≤ k) w' r a

/-- A closure al impl.run calls it: function K over what it captured. F: the blocks that are its state's. -/
structure Clos (K : FuncId) (cap : Value) {σ : Type} (Inv : σ → (Nat → Prop) → World → Prop) (stp : σ → StepA → ResA → σ → Prop) (die : σ → StepA → Prop) : Prop where
  enter : ∀ args w, (callFunc K args).run Tryd.prog w = .ok (.enter K args) w
  lt : ∀ s F w, Inv s F w → ∀ k, F k → k < w.heap.size
  keep : ∀ s F G w w', Inv s F w → Same G w w' → (∀ k, F k → ¬ G k) → Inv s F w'
  step : ∀ s F w x a r s', Inv s F w → StepR (fun k => ¬ F k) w x a → stp s a r s' → Calls Tryd.prog K #[x.agg, cap] w (Ends (StepPost Inv F w s' r) (fun _ => False))
  dead : ∀ s F w x a, Inv s F w → StepR (fun k => ¬ F k) w x a → die s a → Calls Tryd.prog K #[x.agg, cap] w (Ends (fun _ _ => False) (fun w' => Same F w w'))

theorem ownsRow_same {F : Nat → Prop} {w w' : World} {base : Nat} {e : TypeId} {size : Nat} {v : Value} {n : Nat} {xs : List Value} (h : w.ownsRow base e size v n xs) (hs : Same F w w') (hF : ∀ g, v.ownBlock = some g → ¬ F g) : w'.ownsRow base e size v n xs := by
  refine ⟨h.1, ?_⟩
  rcases h.2 with hn | ⟨g, cap, cur, rfl, hb, hgg, rest⟩
  · exact .inl hn
  · refine .inr ⟨g, cap, cur, rfl, hb, ?_, rest⟩
    rw [hs.block g (Array.getElem?_eq_some_iff.1 hgg).1 (hF g rfl)]
    exact hgg
end Go.Proofs.YtalpilbpgkijlaaDoor
