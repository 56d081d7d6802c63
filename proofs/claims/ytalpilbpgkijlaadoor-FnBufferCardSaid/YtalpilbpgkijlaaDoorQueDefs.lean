/- What the loop of spec.Queue keeps (plain). No condition. -/
import Derived.Test.YtalpilbpgkijlaaDoorQueApp
import Derived.Test.YtalpilbpgkijlaaDoorBuffer
import Derived.Test.YtalpilbpgkijlaaDoorCopies
namespace Go.Proofs.YtalpilbpgkijlaaDoor
open Go.RowKit
set_option maxRecDepth 100000
set_option maxHeartbeats 1000000

/-- A run of a queue of bytes from the empty one, step behind step. -/
inductive RunQ : List StepA → List ResA → List UInt8 → Prop
  | nil : RunQ [] [] []
  | snoc {al rs q a r q'} : RunQ al rs q → StpB q a r q' → r.pn = false → RunQ (al ++ [a]) (rs ++ [r]) q'
theorem RunQ.runs {al : List StepA} {rs : List ResA} {q : List UInt8} (h : RunQ al rs q) : ∀ al2 rs2, Runs StpB (fun _ _ => False) q al2 rs2 → Runs StpB (fun _ _ => False) [] (al ++ al2) (rs ++ rs2) := by
  induction h with
  | nil => intro al2 rs2 h; simpa using h
  | snoc _ hs hp ih =>
    intro al2 rs2 h
    rw [List.append_assoc, List.append_assoc]
    exact ih _ _ (.step hs hp h)
theorem RunQ.length {al : List StepA} {rs : List ResA} {q : List UInt8} (h : RunQ al rs q) : rs.length = al.length := by
  induction h with
  | nil => rfl
  | snoc _ _ _ ih => simp [ih]
def total (al : List StepA) : Nat := (al.map fun a => a.bytes.length).sum
theorem total_take (al : List StepA) {j : Nat} (hj : j < al.length) : total (al.take (j + 1)) = total (al.take j) + al[j].bytes.length ∧ total (al.take (j + 1)) ≤ total al := by
  have h1 : total (al.take (j + 1)) = total (al.take j) + al[j].bytes.length := by
    unfold total
    rw [List.take_succ_eq_append_getElem hj, List.map_append, List.sum_append]
    simp
  refine ⟨h1, ?_⟩
  have h2 : al = al.take (j + 1) ++ al.drop (j + 1) := (List.take_append_drop _ _).symm
  have h3 : total al = total (al.take (j + 1)) + total (al.drop (j + 1)) := by
    conv => lhs; rw [h2]
    unfold total
    rw [List.map_append, List.sum_append]
  omega

/-- Bytes in cells that C takes. -/
def BytesC (C : Nat → Nat → Prop) (w : World) (ad : Option Addr) (ln cp : Nat) (l : List UInt8) : Prop :=
  l.length = ln ∧ ln ≤ cp ∧ cp ≤ maxLen ∧ (ad = none → ln = 0 ∧ cp = 0) ∧
  ∀ p, ad = some p → ∀ i, i < ln → p.spot = none ∧ C p.block (p.off + i) ∧ w.cell? ⟨p.block, p.off + i, none⟩ = some (.int .u8 ((l.getD i 0).toNat : Int))
theorem BytesC.step {C C' : Nat → Nat → Prop} {w w' : World} {ad : Option Addr} {ln cp : Nat} {l : List UInt8} (h : BytesC C w ad ln cp l) (hs : ∀ b off u, C b off → w.cell? ⟨b, off, none⟩ = some u → w'.cell? ⟨b, off, none⟩ = some u ∧ C' b off) : BytesC C' w' ad ln cp l := by
  obtain ⟨h1, h2, h3, h4, h5⟩ := h
  refine ⟨h1, h2, h3, h4, fun p hp i hi => ?_⟩
  obtain ⟨sp, c, hc⟩ := h5 p hp i hi
  exact ⟨sp, (hs _ _ _ c hc).2, (hs _ _ _ c hc).1⟩
def ResC (C : Nat → Nat → Prop) (w : World) (r : ResV) (a : ResA) : Prop := r.n = a.n ∧ r.ok = a.ok ∧ r.pn = a.pn ∧ Bd a.n ∧ BytesC C w r.ad r.ln r.cp a.bytes
theorem ResC.step {C C' : Nat → Nat → Prop} {w w' : World} {r : ResV} {a : ResA} (h : ResC C w r a) (hs : ∀ b off u, C b off → w.cell? ⟨b, off, none⟩ = some u → w'.cell? ⟨b, off, none⟩ = some u ∧ C' b off) : ResC C' w' r a :=
  ⟨h.1, h.2.1, h.2.2.1, h.2.2.2.1, h.2.2.2.2.step hs⟩
theorem ResC.res {C : Nat → Nat → Prop} {w : World} {r : ResV} {a : ResA} (h : ResC C w r a) : ResR (fun _ => True) w r a := by
  obtain ⟨h1, h2, h3, h4, b1, b2, b3, b4, b5⟩ := h
  exact ⟨h1, h2, h3, h4, b1, b2, b3, b4, fun p hp i hi => ⟨(b5 p hp i hi).1, trivial, (b5 p hp i hi).2.2⟩⟩
/-- The cells that neither an append to the queue nor one to the results writes. -/
def Cq (vq vo : Value) (b off : Nat) : Prop := Prot vq b off ∧ vo.ownBlock ≠ some b

def QueRel (al : List StepA) (w : World) (k : Nat) (vq vo i : Value) (wr : World) : Prop :=
  ∃ (j : Nat) (q : List UInt8) (rv : List ResV) (rs : List ResA), k + j = al.length ∧ i = .int .i64 j ∧ j ≤ al.length ∧ Same (fun _ => False) w wr ∧ RunQ (al.take j) rs q ∧ QAt wr w.heap.size vq q ∧
    wr.ownsRow w.heap.size 61 4 vo j (rv.map ResV.cells).flatten ∧ All2 (ResC (Cq vq vo) wr) rv rs ∧ (∀ g, vq.ownBlock = some g → vo.ownBlock ≠ some g) ∧ q.length ≤ total (al.take j)
def QuePost (al : List StepA) (w : World) (e : Ending) (w' : World) : Prop :=
  ∃ v' rs q, e = .returned v' ∧ Same (fun _ => False) w w' ∧ RunQ al rs q ∧ ResultsR (fun _ => True) w' v' rs

theorem que_end {al : List StepA} {w wr : World} {vq vo : Value} {j : Nat} {q : List UInt8} {rv : List ResV} {rs : List ResA} (hS : Same (fun _ => False) w wr) (hR : RunQ (al.take j) rs q) (hOwn : wr.ownsRow w.heap.size 61 4 vo j (rv.map ResV.cells).flatten)
    (hA : All2 (ResC (Cq vq vo) wr) rv rs) (hje : j = al.length) : Same (fun _ => False) w wr ∧ RunQ al rs q ∧ ResultsR (fun _ => True) wr vo rs := by
  rw [hje, List.take_length] at hR
  exact ⟨hS, hR, RowR.of_owns (fun _ => rfl) hOwn (hA.mono fun x a h => h.res) (fun _ _ => trivial)⟩

/-- An element's bytes lie in old memory. -/
theorem step_old {w wr : World} {pb po n cp : Nat} {al : List StepA} (h : StepsR (fun _ => True) w (.slice (some ⟨pb, po, none⟩) n cp) al) (hS : Same (fun _ => False) w wr) {j : Nat} (hj : j < al.length) {x : StepV} (_hx : StepR (fun _ => True) wr x al[j])
    (q0 : wr.cell? ⟨pb, po + j * 4, none⟩ = some (.int .i64 x.what)) (q1 : wr.cell? ⟨pb, po + j * 4 + 1, none⟩ = some (.int .i64 x.which)) (q2 : wr.cell? ⟨pb, po + j * 4 + 2, none⟩ = some (.int .i64 x.n)) (q3 : wr.cell? ⟨pb, po + j * 4 + 3, none⟩ = some (.slice x.ad x.ln x.cp)) :
    StepR (fun k => k < w.heap.size) wr x al[j] := by
  obtain ⟨ad', cp', h1, _, _, _, h5⟩ := h
  cases h1
  obtain ⟨_, y, _, hc, hy⟩ := h5 _ rfl j al[j] (List.getElem?_eq_getElem hj)
  have e : x = y := by
    have g0 := hS.cell (p := ⟨pb, po + j * 4, none⟩) (fun h => h) (hc 0 _ rfl)
    have g1 := hS.cell (p := ⟨pb, po + j * 4 + 1, none⟩) (fun h => h) (hc 1 _ rfl)
    have g2 := hS.cell (p := ⟨pb, po + j * 4 + 2, none⟩) (fun h => h) (hc 2 _ rfl)
    have g3 := hS.cell (p := ⟨pb, po + j * 4 + 3, none⟩) (fun h => h) (hc 3 _ rfl)
    rw [q0] at g0
    rw [q1] at g1
    rw [q2] at g2
    rw [q3] at g3
    cases x; cases y
    simp_all
  rw [e]
  exact hy.same hS (fun k hk h => ⟨fun h => h, hk⟩)

/-- What a round leaves: the queue turned, a result laid behind the results. -/
theorem que_next {al : List StepA} {w wr W0 w1 w2 : World} {vq vo vq' vo' : Value} {k j : Nat} {q q' : List UInt8} {rv : List ResV} {rs : List ResA} {a : StepA} {r : ResV} {ra : ResA} {tmp : Obj} (hj : j < al.length) (ha : al[j] = a) (hk : k + j = al.length)
    (hS : Same (fun _ => False) w wr) (hR : RunQ (al.take j) rs q) (hOwn : wr.ownsRow w.heap.size 61 4 vo j (rv.map ResV.cells).flatten) (hA : All2 (ResC (Cq vq vo) wr) rv rs) (hne : ∀ g, vq.ownBlock = some g → vo.ownBlock ≠ some g) (hQ : QAt wr w.heap.size vq q)
    (hs0 : Same (fun _ => False) wr W0) (hn : QNext W0 w1 w.heap.size vq vq' q') (hrc : ResC (Cq vq' vo) w1 r ra) (hst : StpB q a ra q') (hpn : ra.pn = false) (hql : q'.length ≤ total (al.take (j + 1)))
    (hown2 : w2.ownsRow w.heap.size 61 4 vo' (j + 1) ((rv.map ResV.cells).flatten ++ r.cells)) (hg : (w1.alloc tmp).grownBy w2 vo.ownBlock) (hwh : vo'.ownBlock = vo.ownBlock ∨ vo'.ownBlock = some (w1.heap.size + 1)) :
    QueRel al w (k - 1) vq' vo' (.int .i64 ((j : Int) + 1)) w2 := by
  have z0 := hs0.size
  have z1 := hn.same.size
  have s2 : Same (fun k => vo.ownBlock = some k) w1 w2 := ((Same.refl (fun _ => False) w1).alloc tmp |>.mono (fun _ _ h => h.elim)).trans (Same.of_grown hg) (fun _ _ h => h)
  have hvo : ∀ g, vo.ownBlock = some g → w.heap.size ≤ g ∧ g < wr.heap.size := fun g e => hOwn.lt g e
  have hne' : ∀ g, vq'.ownBlock = some g → vo.ownBlock ≠ some g := fun g e e' => by
    rcases hn.at_ g e with h | h
    · exact hne g h e'
    · have := (hvo g e').2; omega
  have hcell : ∀ b off u, Cq vq' vo b off → w1.cell? ⟨b, off, none⟩ = some u → w2.cell? ⟨b, off, none⟩ = some u ∧ Cq vq' vo' b off := fun b off u hc hu => by
    refine ⟨s2.cell (p := ⟨b, off, none⟩) hc.2 hu, hc.1, fun e => ?_⟩
    rcases hwh with h | h
    · exact hc.2 (h ▸ e)
    · rw [h] at e
      have := World.block_lt_of_cell? _ _ hu
      have := Option.some.inj e
      simp only at *
      omega
  have hflat : (rv.map ResV.cells).flatten ++ r.cells = ((rv ++ [r]).map ResV.cells).flatten := by simp
  rw [hflat] at hown2
  refine ⟨j + 1, q', rv ++ [r], rs ++ [ra], by omega, rfl, by omega, ?_, ?_, ?_, hown2, ?_, fun g e e' => ?_, hql⟩
  · refine ((hS.trans hs0 (fun _ _ h => h)).trans hn.same (fun k hk e => ?_)).trans s2 (fun k hk e => ?_)
    · have := (hQ.lt e).1; omega
    · have := (hvo k e).1; omega
  · rw [List.take_succ_eq_append_getElem hj, ha]
    exact .snoc hR hst hpn
  · exact hn.q.same s2 (fun k e e' => hne' k e e')
  · refine (hA.mono fun y b h => ?_).snoc (hrc.step hcell)
    refine (h.step (C' := Cq vq' vo) (w' := w1) (fun b off u hc hu => ?_)).step hcell
    obtain ⟨h1, h2⟩ := hn.prot b off u hc.1 (hs0.cell (p := ⟨b, off, none⟩) (fun h => h) hu)
    exact ⟨h1, h2, hc.2⟩
  · rcases hwh with h | h
    · exact hne' g e (h ▸ e')
    · rw [h] at e'
      have := (hn.q.lt e).2
      have := Option.some.inj e'
      omega

theorem st_read {q : List UInt8} {a : StepA} {n kk : Nat} {N : Int} {ok : Bool} (hx : a.what ≠ 0) (hk : Lim a.n kk) (hn : n = Nat.min kk q.length) (hN : N = (q.length : Int) - n) (hok : decide (0 < q.length) = ok) : StpB q a ⟨N, ok, q.take n, false⟩ (q.drop n) := by
  have h := StpB.read (q := q) (x := a) kk hx hk
  rw [← hn, hok] at h
  have e : N = ((q.drop n).length : Int) := by
    have : n ≤ q.length := by rw [hn]; exact Nat.min_le_right _ _
    simp
    omega
  rw [e]
  exact h
/-- A read from a queue that lies in a block: its bytes, and what is left. -/
theorem cut_some {W : World} {B g o cap n : Nat} {q : List UInt8} {vo : Value} {N : Int} {ok : Bool} {vq' : Value} (hQ : QAt W B (.slice (some ⟨g, o, none⟩) q.length cap) q) (hn : n ≤ q.length) (hne : ∀ k, Value.ownBlock (.slice (some ⟨g, o, none⟩) q.length cap) = some k → vo.ownBlock ≠ some k)
    (hb : Bd N) (hv : (cap = n ∧ vq' = .slice (some ⟨g, o, none⟩) (q.length - n) 0) ∨ (¬ cap = n ∧ vq' = .slice (some ⟨g, o + n, none⟩) (q.length - n) (cap - n))) :
    QNext W W B (.slice (some ⟨g, o, none⟩) q.length cap) vq' (q.drop n) ∧ ResC (Cq vq' vo) W ⟨N, ok, some ⟨g, o, none⟩, n, cap, false⟩ ⟨N, ok, q.take n, false⟩ := by
  rcases hQ with ⟨h, _⟩ | ⟨g', o', cap', cur, e, hB, hg, hoc, hcq, hcm, hcur⟩
  · cases h
  · cases e
    have hld : (q.drop n).length = q.length - n := by simp
    have hcell : ∀ i, i < n → W.cell? ⟨g, o + i, none⟩ = some (.int .u8 (((q.take n).getD i 0).toNat : Int)) := fun i hi => by
      rw [hg.cell]
      have h1 := hcur i _ (U8.get q i (by omega))
      rw [h1]
      simp [List.getD, hi]
    rcases hv with ⟨hc, rfl⟩ | ⟨hc, rfl⟩
    · refine ⟨⟨.inr ⟨g, o, 0, cur, by rw [hld], hB, hg, by omega, by omega, by omega, fun i u hu => ?_⟩, Same.refl _ _, fun k hk => .inl hk, fun b off u hp hu => ⟨hu, fun a ln cp e h0 => by cases e; omega⟩⟩, rfl, rfl, rfl, hb, by simp; omega, (show n ≤ cap by omega), (show cap ≤ maxLen by unfold maxLen; omega), (fun e => by cases e), fun p hp i hi => ?_⟩
      · have := (List.getElem?_eq_some_iff.1 hu).1
        rw [U8.length] at this
        omega
      · obtain rfl := Option.some.inj hp
        exact ⟨rfl, ⟨fun a ln cp e h0 => by cases e; omega, hne g rfl⟩, hcell i hi⟩
    · refine ⟨⟨.inr ⟨g, o + n, cap - n, cur, by rw [hld], hB, hg, by omega, by omega, by omega, fun i u hu => ?_⟩, Same.refl _ _, fun k hk => .inl hk, fun b off u hp hu => ⟨hu, fun a ln cp e h0 hb => ?_⟩⟩, rfl, rfl, rfl, hb, by simp; omega, (show n ≤ cap by omega), (show cap ≤ maxLen by unfold maxLen; omega), (fun e => by cases e), fun p hp i hi => ?_⟩
      · have e : (U8 (q.drop n))[i]? = (U8 q)[n + i]? := by simp [U8]
        rw [e] at hu
        have := hcur (n + i) u hu
        rw [Nat.add_assoc]
        exact this
      · cases e
        have := hp ⟨g, o, none⟩ q.length cap rfl (by omega) hb
        simp only at this ⊢
        omega
      · obtain rfl := Option.some.inj hp
        have hi' : i < n := hi
        exact ⟨rfl, ⟨fun a ln cp e h0 hb => by cases e; show o + i < o + n; omega, hne g rfl⟩, hcell i hi⟩
/-- A read from an empty queue. -/
theorem cut_nil {W : World} {B : Nat} {vq vo : Value} {ad : Option Addr} {cp : Nat} (hQ : QAt W B vq []) (hc : cp ≤ 9223372036854775807) (had : ad = none → cp = 0) :
    QNext W W B vq vq (([] : List UInt8).drop 0) ∧ ResC (Cq vq vo) W ⟨0, false, ad, 0, cp, false⟩ ⟨0, false, ([] : List UInt8).take 0, false⟩ :=
  ⟨⟨hQ, Same.refl _ _, fun k hk => .inl hk, fun b off u hp hu => ⟨hu, hp⟩⟩, rfl, rfl, rfl, ⟨by simp only; omega, by simp only; omega⟩, rfl, Nat.zero_le _, by unfold maxLen; omega, fun e => ⟨rfl, had e⟩, fun p hp i hi => absurd hi (Nat.not_lt_zero _)⟩

/-- The law at an append to the queue. -/
theorem wpList_append_q {ops : Array Oper} {rest : List Oper} {o : Oper} {a : Act} {Q : Exit → Act → World → Prop} {w : World} (hgd : o.guard = none) (s x : Operand)
    (ho : o.op = .call { callee := .builtin .append, args := #[s, x], argTypes := #[24, 24] }) (hty : o.type = 24) {B : Nat} {v : Value} {q : List UInt8} (hs : a.eval s = v) (hQ : QAt w B v q) {ad : Option Addr} {ln cp : Nat} {l : List UInt8} (hx : a.eval x = .slice ad ln cp)
    (hS : BytesAt (fun k => k < B) w ad ln cp l) (hB : B ≤ w.heap.size) (hlen : q.length + l.length ≤ 1048576)
    (h : ∀ v' w', QNext w w' B v v' (q ++ l) → wpList Tryd.prog ops Q rest (a.put o.dst v') w') : wpList Tryd.prog ops Q (o :: rest) a w :=
  wpList_plain hgd fun K hK => by
    obtain ⟨v', w', hr, hn⟩ := run_append_q hQ hS hB hlen
    unfold Oper.wp execOp
    simp only [ho, hty, resolve, invoke, builtin, Sem.run_bind, Sem.run_pure, Result.andThen_ok, List.map_toArray, List.map_cons, List.map_nil, hs, hx, hr]
    exact hK _ _ (h v' w' hn)
end Go.Proofs.YtalpilbpgkijlaaDoor
