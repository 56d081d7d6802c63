/- impl.run over any closure that keeps its contract (the walk): a slice that reads as the results of the run. Condition: at most 1,000,000 steps. -/
import Derived.Test.YtalpilbpgkijlaaDoorData
import Derived.Test.YtalpilbpgkijlaaDoorApp
namespace Go.Proofs.YtalpilbpgkijlaaDoor
open Go.RowKit
set_option maxRecDepth 100000
set_option maxHeartbeats 2000000

theorem info32 : (Tryd.prog.info? 32).map (fun i => (i.zero, i.size, i.bytes)) = some (some (.agg #[.int .i64 0, .bool false, .slice none 0 0, .bool false]), 4, 48) := by kernel_rfl

def RunPost (F0 : Nat → Prop) (W : World) (rs : List ResA) (e : Ending) (w' : World) : Prop :=
  ∃ v', e = .returned v' ∧ Same F0 W w' ∧ ResultsR (fun _ => True) w' v' rs

section
variable {K : FuncId} {cap : Value} {σ : Type} {Inv : σ → (Nat → Prop) → World → Prop} {stp : σ → StepA → ResA → σ → Prop} {die : σ → StepA → Prop}

/-- The loop's relation: j steps are done. -/
def RunRel (K : FuncId) (cap : Value) (Inv : σ → (Nat → Prop) → World → Prop) (stp : σ → StepA → ResA → σ → Prop) (die : σ → StepA → Prop) (F0 : Nat → Prop) (W : World) (al : List StepA) (rs : List ResA) (k : Nat) (v i : Value) (wr : World) : Prop :=
  ∃ (j : Nat) (s : σ) (F : Nat → Prop) (done rest : List ResA) (rv : List ResV), k + j = al.length ∧ i = .int .i64 j ∧ Runs stp die s (al.drop j) rest ∧ rs = done ++ rest ∧ done.length = j ∧
    Inv s F wr ∧ Same F0 W wr ∧ (∀ k, F k → F0 k ∨ W.heap.size ≤ k) ∧ Blk wr W.heap.size #[.func (.func K) #[] #[cap]] 60 ∧ ¬ F W.heap.size ∧
    wr.ownsRow (W.heap.size + 1) 32 4 v j (rv.map ResV.cells).flatten ∧ All2 (ResR (fun k => ¬ F k ∧ v.ownBlock ≠ some k) wr) rv done ∧ (∀ g, v.ownBlock = some g → ¬ F g)

/-- What a round's call leaves. -/
def RoundOut (Inv : σ → (Nat → Prop) → World → Prop) (stp : σ → StepA → ResA → σ → Prop) (die : σ → StepA → Prop) (F : Nat → Prop) (wr : World) (al : List StepA) (rest : List ResA) (e : Ending) (w' : World) : Prop :=
  ∃ (r : ResV) (ra : ResA) (F' : Nat → Prop), e = .returned r.agg ∧ Same F wr w' ∧ (∀ k, F' k → F k ∨ wr.heap.size < k) ∧ (∀ k, F' k → k < w'.heap.size) ∧ ResR (fun k => ¬ F' k ∧ wr.heap.size < k) w' r ra ∧
    ((r.pn = false ∧ ∃ s' rest', Inv s' F' w' ∧ Runs stp die s' al rest' ∧ rest = ra :: rest') ∨ (r.pn = true ∧ rest = [ra]))

theorem size_alloc (w : World) (o : Obj) : (w.alloc o).heap.size = w.heap.size + 1 := by simp

theorem round_out (C : Clos K cap Inv stp die) (wr : World) (s : σ) (F : Nat → Prop) (x : StepV) (a : StepA) (al : List StepA) (rest : List ResA) (pf : Nat) (hI : Inv s F wr) (hx : StepR (fun k => ¬ F k) wr x a)
    (hR : Runs stp die s (a :: al) rest) (hPf : Blk wr pf #[.func (.func K) #[] #[cap]] 60) :
    Calls Tryd.prog 40 #[.func (.func 41) #[] #[.pointer (some ⟨pf, 0, none⟩), .pointer (some ⟨wr.heap.size, 0, none⟩)]] (wr.alloc (.cells #[.int .i64 x.what, .int .i64 x.which, .int .i64 x.n, .slice x.ad x.ln x.cp] 26))
      (RoundOut Inv stp die F wr al rest) := by
  have hlt := C.lt _ _ _ hI
  generalize hz : Obj.cells #[.int .i64 0, .bool false, .slice none 0 0, .bool false] 32 = z
  generalize hw2 : wr.alloc (.cells #[.int .i64 x.what, .int .i64 x.which, .int .i64 x.n, .slice x.ad x.ln x.cp] 26) = w2
  have e2 : w2.heap.size = wr.heap.size + 1 := by rw [← hw2]; exact size_alloc _ _
  have e3 : ((w2.alloc z).alloc z).heap.size = wr.heap.size + 3 := by rw [size_alloc, size_alloc, e2]
  have s2 : Same (fun _ => False) wr w2 := by rw [← hw2]; exact (Same.refl _ _).alloc _
  have s3 : Same (fun _ => False) wr ((w2.alloc z).alloc z) := (s2.alloc _).alloc _
  have hI3 : Inv s F ((w2.alloc z).alloc z) := C.keep _ _ _ _ _ hI s3 (fun _ _ h => h)
  have hx3 : StepR (fun k => ¬ F k) ((w2.alloc z).alloc z) x a := hx.same s3 (fun k _ h => ⟨fun h => h, h⟩)
  have hs2 : Blk w2 wr.heap.size #[.int .i64 x.what, .int .i64 x.which, .int .i64 x.n, .slice x.ad x.ln x.cp] 26 := by rw [← hw2]; exact Blk.new _ _ _
  have b1 : Blk ((w2.alloc z).alloc z) w2.heap.size #[.int .i64 0, .bool false, .slice none 0 0, .bool false] 32 := by
    rw [← hz]; exact (Blk.new _ _ _).alloc _
  have b2 : Blk ((w2.alloc z).alloc z) (w2.heap.size + 1) #[.int .i64 0, .bool false, .slice none 0 0, .bool false] 32 := by
    have := Blk.new (w2.alloc z) #[.int .i64 0, .bool false, .slice none 0 0, .bool false] 32
    rw [size_alloc] at this
    rw [← hz] at this ⊢
    exact this
  have n1 : ¬ F w2.heap.size := fun h => by have := hlt _ h; omega
  have n2 : ¬ F (w2.heap.size + 1) := fun h => by have := hlt _ h; omega
  have hf2 := hPf.same s2 (fun h => h)
  cases hR with
  | @step _ _ r s' _ rs' hst hpn hrest =>
    have hK := C.step s F _ x a r s' hI3 hx3 hst
    have h := stepped_any K cap x pf wr.heap.size w2 (fun rv w1 => StepPost Inv F ((w2.alloc z).alloc z) s' r rv w1) (fun _ => False) C.enter hf2 hs2
      (by
        rw [hz]
        refine hK.mono fun e w' h => ?_
        rcases h with ⟨rv, h1, h2⟩ | ⟨_, h⟩
        · have hS : Same F ((w2.alloc z).alloc z) w' := by
            obtain ⟨_, hS, _⟩ := h2
            exact hS
          exact .inl ⟨rv, h1, b1.same hS n1, b2.same hS n2, h2⟩
        · exact h.elim)
    refine h.mono fun e w' hp => ?_
    obtain ⟨rv, he, w1, ⟨⟨F', hS, hI', hF', hr⟩, hS'⟩ | ⟨_, h, _⟩⟩ := hp
    · have hF2 : ∀ k, F' k → F k ∨ wr.heap.size + 3 ≤ k := fun k hk => by rw [← e3]; exact hF' k hk
      have hdis : ∀ k, F' k → ¬ (k = w2.heap.size ∨ k = w2.heap.size + 1) := fun k hk hc => by
        rcases hF2 k hk with h | h
        · have := hlt _ h; omega
        · omega
      refine ⟨rv, r, F', he, ?_, fun k hk => ?_, C.lt _ _ _ (C.keep _ _ _ _ _ hI' hS' hdis), ?_, .inl ⟨?_, s', rs', ?_, hrest, rfl⟩⟩
      · refine ((s3.mono (G := F) (fun _ _ h => h.elim)).trans hS (fun _ _ h => h)).trans hS' (fun k hk hc => ?_)
        exfalso
        omega
      · rcases hF2 k hk with h | h
        · exact .inl h
        · exact .inr (by omega)
      · exact hr.same hS' (fun k _ hk => ⟨fun hc => by omega, hk.1, by omega⟩)
      · rw [hr.2.2.1, hpn]
      · exact C.keep _ _ _ _ _ hI' hS' hdis
    · exact h.elim
  | dead hd =>
    have hK := C.dead s F _ x a hI3 hx3 hd
    have h := stepped_any K cap x pf wr.heap.size w2 (fun _ _ => False) (fun w1 => Same F ((w2.alloc z).alloc z) w1) C.enter hf2 hs2
      (by
        rw [hz]
        refine hK.mono fun e w' h => ?_
        rcases h with ⟨rv, h1, h2⟩ | ⟨h1, h⟩
        · exact h2.elim
        · exact .inr ⟨h1, b1.same h n1, h⟩)
    refine h.mono fun e w' hp => ?_
    obtain ⟨rv, he, w1, ⟨h, _⟩ | ⟨hr, hS, hS'⟩⟩ := hp
    · exact h.elim
    · refine ⟨rv, ⟨0, false, [], true⟩, fun _ => False, he, ?_, fun k hk => hk.elim, fun k hk => hk.elim, ?_, .inr ⟨by rw [hr]; rfl, rfl⟩⟩
      · refine ((s3.mono (G := F) (fun _ _ h => h.elim)).trans hS (fun _ _ h => h)).trans hS' (fun k hk hc => ?_)
        exfalso
        omega
      · rw [hr]
        exact ⟨rfl, rfl, rfl, ⟨by show (-9223372036854775808 : Int) ≤ 0; omega, by show (0 : Int) ≤ 9223372036854775807; omega⟩, BytesAt.nil _ _⟩
/-- What stands behind a round: the world w' that the call left, the result laid behind the row. -/
theorem run_behind {W wr w' w1 : World} {F0 F F' : Nat → Prop} {j : Nat} {done : List ResA} {rv : List ResV} {u5 v1 : Value} {r : ResV} {ra : ResA} {o1 o2 : Obj}
    (hSame : Same F0 W wr) (hF : ∀ k, F k → F0 k ∨ W.heap.size ≤ k) (_hW : W.heap.size < wr.heap.size)
    (hOwn : wr.ownsRow (W.heap.size + 1) 32 4 u5 j (rv.map ResV.cells).flatten) (hRes : All2 (ResR (fun k => ¬ F k ∧ u5.ownBlock ≠ some k) wr) rv done) (hv : ∀ g, u5.ownBlock = some g → ¬ F g)
    (hS : Same F wr w') (hF' : ∀ k, F' k → F k ∨ wr.heap.size < k) (hlt' : ∀ k, F' k → k < w'.heap.size) (hr : ResR (fun k => ¬ F' k ∧ wr.heap.size < k) w' r ra)
    (hg : ((w'.alloc o1).alloc o2).grownBy w1 u5.ownBlock) (hv1 : v1.ownBlock = u5.ownBlock ∨ v1.ownBlock = some (w'.heap.size + 2)) :
    Same F0 W w1 ∧ All2 (ResR (fun k => ¬ F' k ∧ v1.ownBlock ≠ some k) w1) (rv ++ [r]) (done ++ [ra]) ∧ (∀ g, v1.ownBlock = some g → ¬ F' g) ∧ Same (fun k => u5.ownBlock = some k) w' w1 ∧ (∀ k, F' k → ¬ u5.ownBlock = some k) := by
  have hlt := hOwn.lt
  have s1 : Same (fun k => u5.ownBlock = some k) w' w1 :=
    ((((Same.refl (fun _ => False) w').alloc o1).alloc o2).mono (G := fun k => u5.ownBlock = some k) (fun _ _ h => h.elim)).trans (Same.of_grown hg) (fun _ _ h => h)
  have hw : wr.heap.size ≤ w'.heap.size := hS.size
  have hd : ∀ k, F' k → ¬ u5.ownBlock = some k := fun k hk hc => by
    rcases hF' k hk with h | h
    · exact hv k hc h
    · have := (hlt k hc).2; omega
  refine ⟨?_, ?_, ?_, s1, hd⟩
  · refine (hSame.trans hS (fun k hk h => ?_)).trans s1 (fun k hk h => ?_)
    · rcases hF k h with h' | h'
      · exact h'
      · omega
    · have := (hlt k h).1; omega
  · refine (hRes.mono fun x a h => ?_).snoc ?_
    · refine (h.same hS (H := fun k => (¬ F' k ∧ u5.ownBlock ≠ some k) ∧ k < wr.heap.size) (fun k hk hc => ⟨hc.1, ⟨fun h' => ?_, hc.2⟩, hk⟩)).same s1 (fun k hk hc => ⟨hc.1.2, hc.1.1, fun h' => ?_⟩)
      · rcases hF' k h' with h'' | h''
        · exact hc.1 h''
        · omega
      · rcases hv1 with e | e
        · rw [e] at h'; exact hc.1.2 h'
        · rw [e] at h'; cases h'; omega
    · refine hr.same s1 (fun k hk hc => ⟨fun h' => ?_, hc.1, fun h' => ?_⟩)
      · have := (hlt k h').2; omega
      · rcases hv1 with e | e
        · rw [e] at h'; have := (hlt k h').2; omega
        · rw [e] at h'; cases h'; omega
  · intro g h' hf
    rcases hv1 with e | e
    · rw [e] at h'; exact hd g hf h'
    · rw [e] at h'; cases h'; have := hlt' _ hf; omega

theorem runs_nil {s : σ} {rest : List ResA} (h : Runs stp die s [] rest) : rest = [] := by
  cases h
  rfl

theorem run_any (C : Clos K cap Inv stp die) (W : World) (s0 : σ) (F0 : Nat → Prop) (ad : Option Addr) (n cp : Nat) (al : List StepA) (rs : List ResA) (hI : Inv s0 F0 W) (hv : StepsR (fun k => ¬ F0 k) W (.slice ad n cp) al)
    (hruns : Runs stp die s0 al rs) (hlen : al.length ≤ 1000000) :
    Calls Tryd.prog 21 #[.slice ad n cp, .func (.func K) #[] #[cap]] W (RunPost F0 W rs) := by
  have hn : n = al.length := by
    obtain ⟨_, _, h, _⟩ := hv
    cases h
    rfl
  have HRel : RunRel K cap Inv stp die F0 W al rs al.length (.slice none 0 0) (.int .i64 0) (W.alloc (.cells #[.func (.func K) #[] #[cap]] 60)) := by
    have hlt := C.lt _ _ _ hI
    refine ⟨0, s0, F0, [], rs, [], rfl, rfl, by simpa using hruns, rfl, rfl, ?_, (Same.refl _ _).alloc _, fun k h => .inl h, Blk.new _ _ _, fun h => by have := hlt _ h; omega, World.ownsRow_nil _ _ _ _, .nil, fun g h => by cases h⟩
    exact C.keep _ _ _ _ _ hI ((Same.refl (fun _ => False) W).alloc _) (fun _ _ h => h)
  have HR := Lib.hid HRel
  have HV := Lib.hid hv
  clear HRel hv hI hruns
  go_enter Tryd.func21, Tryd.ntmps21
  go_wp2_with fail
  go_outline
  go_loopg [5, 11] al.length (fun k v i wr => RunRel K cap Inv stp die F0 W al rs k v i wr)
  case atStart => exact HR.out
  case round =>
    obtain ⟨j, s, F, done, rest, rv, hkj, rfl, hR, hrs, hdone, hInv, hSame, hF, hPf, hPf', hOwn, hRes, hv⟩ := hrel
    have hltF := C.lt _ _ _ hInv
    have hWr : W.heap.size < wr.heap.size := hPf.lt
    by_cases hj : j < al.length
    · obtain ⟨ad', cp', h1, h2, h3, h4, h5⟩ := HV.out
      cases h1
      cases ad with
      | none => have := (h4 rfl).1; omega
      | some p =>
      obtain ⟨pb, po, ps⟩ := p
      obtain ⟨hsp, x, hG, hc, hx⟩ := h5 _ rfl j al[j] (List.getElem?_eq_getElem hj)
      simp only at hsp
      subst hsp
      have hdrop : al.drop j = al[j] :: al.drop (j + 1) := List.drop_eq_getElem_cons hj
      rw [hdrop] at hR
      have hx' : StepR (fun k => ¬ F k) wr x al[j] := hx.same hSame (fun k hk h => ⟨h, fun hf => by
        rcases hF k hf with h' | h'
        · exact h h'
        · omega⟩)
      have hround := round_out C wr s F x al[j] (al.drop (j + 1)) rest W.heap.size hInv hx' hR hPf
      have q0 : wr.cell? ⟨pb, po + j * 4, none⟩ = some (.int .i64 x.what) := hSame.cell (p := ⟨pb, po + j * 4, none⟩) hG (hc 0 _ rfl)
      have q1 : wr.cell? ⟨pb, po + j * 4 + 1, none⟩ = some (.int .i64 x.which) := hSame.cell (p := ⟨pb, po + j * 4 + 1, none⟩) hG (hc 1 _ rfl)
      have q2 : wr.cell? ⟨pb, po + j * 4 + 2, none⟩ = some (.int .i64 x.n) := hSame.cell (p := ⟨pb, po + j * 4 + 2, none⟩) hG (hc 2 _ rfl)
      have q3 : wr.cell? ⟨pb, po + j * 4 + 3, none⟩ = some (.slice x.ad x.ln x.cp) := hSame.cell (p := ⟨pb, po + j * 4 + 3, none⟩) hG (hc 3 _ rfl)
      have hmf : ∀ (fn : Fn) (first cap : Array Value) (w : World), (Instr.makeFunc fn first cap).run Tryd.prog w = .ok (.func fn first cap) w := fun _ _ _ _ => rfl
      have HRD := Lib.hid hround
      have A := Lib.hid (And.intro hkj (And.intro hrs (And.intro hdone (And.intro hSame (And.intro hF (And.intro hPf (And.intro hPf' (And.intro hOwn (And.intro hRes (And.intro hv hltF))))))))))
      clear hround hkj hrs hdone hSame hF hPf hPf' hOwn hRes hv hltF hR hdrop hx hx' hc h5 h4 hInv HR
      go_wp2_with fail
      refine HRD.out.mono ?_
      rintro e w' ⟨r, ra, F', rfl, hS, hF', hlt', hr, hcase⟩
      have hOwn1 : w'.ownsRow (W.heap.size + 1) 32 4 u5 j (rv.map ResV.cells).flatten := ownsRow_same A.out.2.2.2.2.2.2.2.1 hS A.out.2.2.2.2.2.2.2.2.2.1
      have hsz : wr.heap.size ≤ w'.heap.size := hS.size
      have HO := Lib.hid hOwn1
      have B := Lib.hid (And.intro hS (And.intro hF' (And.intro hr (And.intro hcase hlt'))))
      clear hS hF' hr hcase hOwn1 hlt' HRD q0 q1 q2 q3
      simp only [ResV.agg]
      obtain ⟨i0, hi, hz0, hz1, hz2⟩ := info_parts info32
      go_wp2_with (at_builtin; refine wpList_append_own2 _ rfl _ _ 29 rfl (W.heap.size + 1) 32 i0 (.agg #[.int .i64 0, .bool false, .slice none 0 0, .bool false]) 4 48 Tryd.underlying29 hi hz0 hz1 hz2 rfl (by decide) _ _ _ rfl ((HO.out.alloc _).alloc _) ⟨w'.heap.size + 1, 0, none⟩ 1 1 r.cells rfl rfl ?c1 ?c2 ?c3 ?c4 ?c5 ?_)
      case c1 => exact cells_new2 w' _ r.cells 32
      case c2 => exact res_one r
      case c3 => unfold maxLen; omega
      case c4 => omega
      case c5 => simp; omega
      intro v1 w1 hown1 hgrow1 hwhere
      have hflat : (rv.map ResV.cells).flatten ++ r.cells = ((rv ++ [r]).map ResV.cells).flatten := by simp
      have hbeh := run_behind (v1 := v1) (F' := F') (r := r) (ra := ra) A.out.2.2.2.1 A.out.2.2.2.2.1 hWr A.out.2.2.2.2.2.2.2.1 A.out.2.2.2.2.2.2.2.2.1 A.out.2.2.2.2.2.2.2.2.2.1 B.out.1 B.out.2.1
        B.out.2.2.2.2 B.out.2.2.1 hgrow1 (by simpa using hwhere)
      have hpn : w1.cell? ⟨w'.heap.size, 3, none⟩ = some (.bool r.pn) := by
        have hne : some w'.heap.size ≠ u5.ownBlock := fun h => by have := (A.out.2.2.2.2.2.2.2.1.lt _ h.symm).2; omega
        have hb := ((Blk.new w' #[.int .i64 r.n, .bool r.ok, .slice r.ad r.ln r.cp, .bool r.pn] 32).alloc (.cells #[.int .i64 r.n, .bool r.ok, .slice r.ad r.ln r.cp, .bool r.pn] 32)).cell 3
        exact hgrow1.cell (a := ⟨w'.heap.size, 3, none⟩) hb hne
      have C1 := Lib.hid (And.intro hown1 (And.intro hgrow1 (And.intro hwhere (And.intro hflat hbeh))))
      clear hown1 hgrow1 hwhere hflat hbeh
      go_wp2
      · go_ret
        have ht : r.pn = true := by assumption
        obtain ⟨hown1, hgrow1, hwhere, hflat, hS1, hA1, hv1, hS2, hd⟩ := C1.out
        have hrest : rest = [ra] := by
          rcases B.out.2.2.2.1 with ⟨h, _⟩ | ⟨_, h⟩
          · rw [ht] at h; cases h
          · exact h
        rw [hflat] at hown1
        refine ⟨v1, rfl, hS1, ?_⟩
        rw [A.out.2.1, hrest]
        exact RowR.of_owns (fun _ => rfl) hown1 (hA1.mono fun x a h => h.same (Same.refl (fun _ => False) _) (fun _ _ _ => ⟨fun h => h, trivial⟩)) (fun _ _ => trivial)
      · go_roundg (gk - 1)
        case measure =>
          have := A.out.1
          omega
        case rel =>
          have ht : r.pn = false := by assumption
          obtain ⟨hown1, hgrow1, hwhere, hflat, hS1, hA1, hv1, hS2, hd⟩ := C1.out
          obtain ⟨s', rest', hI', hR', hrest⟩ : ∃ s' rest', Inv s' F' w' ∧ Runs stp die s' (al.drop (j + 1)) rest' ∧ rest = ra :: rest' := by
            rcases B.out.2.2.2.1 with ⟨_, h⟩ | ⟨h, _⟩
            · exact h
            · rw [ht] at h; cases h
          rw [hflat] at hown1
          have hF' := B.out.2.1
          refine ⟨j + 1, s', F', done ++ [ra], rest', rv ++ [r], ?_, rfl, hR', ?_, ?_, C.keep _ _ _ _ _ hI' hS2 hd, hS1, ?_, ?_, ?_, hown1, hA1, hv1⟩
          · have := A.out.1; omega
          · rw [A.out.2.1, hrest]; simp
          · have := A.out.2.2.1; simp [this]
          · intro k hk
            rcases hF' k hk with h | h
            · exact A.out.2.2.2.2.1 k h
            · exact .inr (by omega)
          · refine (A.out.2.2.2.2.2.1.same B.out.1 A.out.2.2.2.2.2.2.1).same hS2 (fun h => ?_)
            have := (A.out.2.2.2.2.2.2.2.1.lt _ h).1
            omega
          · intro h
            rcases hF' _ h with h' | h'
            · exact A.out.2.2.2.2.2.2.1 h'
            · omega
    · have hjl : j = al.length := by omega
      have hrest : rest = [] := by
        rw [hjl, List.drop_length] at hR
        exact runs_nil hR
      have hA1 := RowR.of_owns (cells := ResV.cells) (G := fun _ => True) (fun _ => rfl) hOwn (hRes.mono (R' := ResR (fun _ => True) wr) fun x a h => h.same (Same.refl (fun _ => False) _) (fun _ _ _ => ⟨fun h => h, trivial⟩)) (fun _ _ => trivial)
      have hrs2 : rs = done := by rw [hrs, hrest, List.append_nil]
      have A := Lib.hid (And.intro hSame (And.intro hA1 hrs2))
      clear hkj hrs hdone hSame hF hPf hPf' hOwn hRes hv hltF hR hInv HR hrest hjl hA1 hrs2
      go_wp2
      go_ret
      refine ⟨u5, rfl, A.out.1, ?_⟩
      rw [A.out.2.2]
      exact A.out.2.1
end
end Go.Proofs.YtalpilbpgkijlaaDoor
