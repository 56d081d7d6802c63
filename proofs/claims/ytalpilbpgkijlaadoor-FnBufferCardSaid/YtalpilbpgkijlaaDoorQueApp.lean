/- append to a slice of bytes that may begin inside its block, and a cut off its head: what it holds, and which cells stay. No condition beside the room that append asks for. -/
import Derived.Test.YtalpilbpgkijlaaDoorBufLeaf
import Derived.ArgAppend
namespace Go.Proofs.YtalpilbpgkijlaaDoor
open Go.RowKit
set_option maxRecDepth 100000
set_option maxHeartbeats 1000000

/-- A slice of bytes in a block of the call's own. -/
def QAt (w : World) (B : Nat) (v : Value) (q : List UInt8) : Prop :=
  (v = .slice none 0 0 ∧ q = []) ∨ ∃ g o cap cur, v = .slice (some ⟨g, o, none⟩) q.length cap ∧ B ≤ g ∧ Blk w g cur 5 ∧ o + cap ≤ cur.size ∧ q.length ≤ cap ∧ cap ≤ 9223372036854775807 ∧ ∀ i u, (U8 q)[i]? = some u → cur[o + i]? = some u
/-- A cell that no append to the slice writes. -/
def Prot (v : Value) (b off : Nat) : Prop := ∀ a ln cap, v = .slice (some a) ln cap → 0 < cap → b = a.block → off < a.off
theorem QAt.form {w : World} {B : Nat} {v : Value} {q : List UInt8} (h : QAt w B v q) : ∃ ad cap, v = .slice ad q.length cap ∧ q.length ≤ cap ∧ cap ≤ 9223372036854775807 := by
  rcases h with ⟨rfl, rfl⟩ | ⟨g, o, cap, cur, rfl, _, _, _, h1, h2, _⟩
  · exact ⟨none, 0, rfl, Nat.le_refl _, by omega⟩
  · exact ⟨_, cap, rfl, h1, h2⟩
theorem QAt.same {w w' : World} {B : Nat} {v : Value} {q : List UInt8} {F : Nat → Prop} (h : QAt w B v q) (hs : Same F w w') (hF : ∀ k, v.ownBlock = some k → ¬ F k) : QAt w' B v q := by
  rcases h with h | ⟨g, o, cap, cur, rfl, hB, hg, h1, h2, h3, h4⟩
  · exact .inl h
  · exact .inr ⟨g, o, cap, cur, rfl, hB, hg.same hs (hF g rfl), h1, h2, h3, h4⟩
theorem QAt.lt {w : World} {B : Nat} {v : Value} {q : List UInt8} (h : QAt w B v q) {k : Nat} (hk : v.ownBlock = some k) : B ≤ k ∧ k < w.heap.size := by
  rcases h with ⟨rfl, _⟩ | ⟨g, o, cap, cur, rfl, hB, hg, _⟩
  · simp [Value.ownBlock] at hk
  · simp only [Value.ownBlock, Option.some.injEq] at hk
    subst hk
    exact ⟨hB, hg.lt⟩
theorem QAt.of_own {w : World} {B : Nat} {v : Value} {q : List UInt8} (h : w.ownsRow B 5 1 v q.length (U8 q)) : QAt w B v q := by
  rcases h.2 with ⟨rfl, h0⟩ | ⟨g, cap, cur, rfl, hb, hg, hn, hm, hs, ht⟩
  · exact .inl ⟨rfl, List.eq_nil_of_length_eq_zero h0⟩
  · refine .inr ⟨g, 0, cap, cur, rfl, hb, hg, by omega, hn, by unfold maxLen at hm; omega, fun i u hu => ?_⟩
    rw [← ht, List.getElem?_take] at hu
    split at hu
    · simpa using hu
    · cases hu

/-- What an append to the slice leaves. -/
structure QNext (w w' : World) (B : Nat) (v v' : Value) (q : List UInt8) : Prop where
  q : QAt w' B v' q
  same : Same (fun k => v.ownBlock = some k) w w'
  at_ : ∀ k, v'.ownBlock = some k → v.ownBlock = some k ∨ w.heap.size ≤ k
  prot : ∀ b off u, Prot v b off → w.cell? ⟨b, off, none⟩ = some u → w'.cell? ⟨b, off, none⟩ = some u ∧ Prot v' b off

theorem run_room_off {w : World} {i : TypeInfo} (hi : Tryd.prog.info? 5 = some i) (hs : i.size = 1) (g o sLen sCap : Nat) (cur : Array Value) (hg : w.heap[g]? = some (.cells cur 5 (0, 0)))
    (a : Addr) (m c : Nat) (news : List Value) (hl : news.length = m) (hnews : ∀ j u, news[j]? = some u → w.cell? (a.add j) = some u) (h1 : ∀ u ∈ news, u.oneCell' = true)
    (hroom : sLen + m ≤ sCap) (hfit : o + sLen + m ≤ cur.size) :
    (Builtin.append_ #[24, 24] 24 #[.slice (some ⟨g, o, none⟩) sLen sCap, .slice (some a) m c]).run Tryd.prog w =
      .ok (.slice (some ⟨g, o, none⟩) (sLen + m) sCap) (w.setRow g (cur.toList.take (o + sLen) ++ news ++ cur.toList.drop (o + sLen + m)).toArray) := by
  have hf := run_firstCells_some (P := Tryd.prog) w i.size m a m c news (by rw [hs]; omega) hnews
  have hst := run_storeCells_at Tryd.prog g (o + sLen) 5 news 0 cur w hg (by omega) h1
  simp only [Nat.add_zero, hl] at hst
  simp [Builtin.append_, run_underlying Tryd.underlying24, sizeOf, typeInfo, hi, hs, Builtin.lenOf, hroom, Addr.add_lit]
  rw [hs] at hf
  simp [hf, hst]

theorem run_append_q {w : World} {B : Nat} {v : Value} {q : List UInt8} (hQ : QAt w B v q) {ad : Option Addr} {ln cp : Nat} {l : List UInt8} (hS : BytesAt (fun k => k < B) w ad ln cp l) (hB : B ≤ w.heap.size) (hlen : q.length + l.length ≤ 1048576) :
    ∃ v' w', (Builtin.append_ #[24, 24] 24 #[v, .slice ad ln cp]).run Tryd.prog w = .ok v' w' ∧ QNext w w' B v v' (q ++ l) := by
  obtain ⟨i0, hi, hz, hs, hb⟩ := info_parts info5
  obtain ⟨h1, h2, h3, h4, h5⟩ := hS
  subst h1
  by_cases h0 : l.length = 0
  · have hl : l = [] := List.eq_nil_of_length_eq_zero h0
    subst hl
    refine ⟨v, w, ?_, ?_, Same.refl _ _, fun k hk => .inl hk, fun b off u hp hc => ⟨hc, hp⟩⟩
    · rcases hQ with ⟨rfl, rfl⟩ | ⟨g, o, cap, cur, rfl, _, hg, hc, hn, hm, _⟩
      · cases ad <;> simp [Builtin.append_, run_underlying Tryd.underlying24, sizeOf, typeInfo, hi, Builtin.lenOf, Builtin.firstCells, loadCells, loadCellsFrom]
      · cases ad <;> simp [Builtin.append_, run_underlying Tryd.underlying24, sizeOf, typeInfo, hi, Builtin.lenOf, Builtin.firstCells, hn, storeCells, loadCells, loadCellsFrom]
    · rw [List.append_nil]
      exact hQ
  · cases ad with
    | none => have := (h4 rfl).1; omega
    | some a =>
      have hcells : ∀ j u, (U8 l)[j]? = some u → w.cell? (a.add j) = some u := by
        intro j u hu
        have hj : j < l.length := by
          have := (List.getElem?_eq_some_iff.1 hu).1
          rwa [U8.length] at this
        obtain ⟨hsp, _, hc⟩ := h5 a rfl j hj
        have e : a.add j = ⟨a.block, a.off + j, none⟩ := by
          unfold Addr.add
          split
          · rename_i hk
            subst hk
            cases a
            simp at hsp
            simp [hsp]
          · rfl
        rw [e, hc]
        rw [U8.get l j hj] at hu
        exact hu
      rcases hQ with ⟨rfl, rfl⟩ | ⟨g, o, cap, cur, rfl, hBg, hg, hoc, hn, hm, hcur⟩
      · obtain ⟨v', w', hr, ho, hgr, hw⟩ := run_append_own (P := Tryd.prog) w B 24 24 5 i0 _ 1 1 Tryd.underlying24 hi hz hs hb rfl (by omega) (.slice none 0 0) 0 [] (World.ownsRow_nil _ _ _ _) a l.length cp (U8 l) (by rw [U8.length]; omega) hcells (U8.one l)
          (by unfold maxLen; omega) (by omega) hB
        have hs' := Same.of_grown hgr
        have ho' : w'.ownsRow B 5 1 v' ([] ++ l).length (U8 ([] ++ l)) := by simpa using ho
        refine ⟨v', w', hr, QAt.of_own ho', hs', fun k hk => .inr ?_, fun b off u hp hc => ?_⟩
        · have hnew := run_append_nil (P := Tryd.prog) w 24 24 5 i0 _ Tryd.underlying24 hi hz a l.length cp (U8 l) (by rw [U8.length, hs]; omega) hcells (by omega) (by omega) (by rw [hb]; omega)
          rw [hnew] at hr
          cases hr
          simp only [Value.ownBlock, Option.some.injEq] at hk
          omega
        · have hc' := hs'.cell (p := ⟨b, off, none⟩) (by simp [Value.ownBlock]) hc
          refine ⟨hc', fun a' ln' cap' e hp0 hb' => ?_⟩
          have hnew := run_append_nil (P := Tryd.prog) w 24 24 5 i0 _ Tryd.underlying24 hi hz a l.length cp (U8 l) (by rw [U8.length, hs]; omega) hcells (by omega) (by omega) (by rw [hb]; omega)
          rw [hnew] at hr
          cases hr
          cases e
          have := World.block_lt_of_cell? _ _ hc
          simp only at this hb'
          omega
      · by_cases hroom : q.length + l.length ≤ cap
        · have hr := run_room_off hi hs g o q.length cap cur hg a l.length cp (U8 l) (U8.length l) hcells (U8.one l) hroom (by omega)
          have hs' : Same (fun k => k = g) w (w.setRow g (cur.toList.take (o + q.length) ++ U8 l ++ cur.toList.drop (o + q.length + l.length)).toArray) := ⟨rfl, rfl, rfl, by simp [World.setRow], fun k _ hk => setRow_other w g k _ hk⟩
          have hB' : Blk (w.setRow g (cur.toList.take (o + q.length) ++ U8 l ++ cur.toList.drop (o + q.length + l.length)).toArray) g (cur.toList.take (o + q.length) ++ U8 l ++ cur.toList.drop (o + q.length + l.length)).toArray 5 := setRow_heap w g cur _ 5 _ hg
          have htl : (cur.toList.take (o + q.length)).length = o + q.length := by simp; omega
          refine ⟨_, _, hr, .inr ⟨g, o, cap, _, by rw [List.length_append], hBg, hB', ?_, by rw [List.length_append]; exact hroom, hm, fun i u hu => ?_⟩, hs'.mono (fun k _ e => by rw [e]; rfl), fun k hk => .inl hk, fun b off u hp hc => ?_⟩
          · simp [U8.length]
            omega
          · have e : U8 (q ++ l) = U8 q ++ U8 l := by simp [U8]
            rw [e] at hu
            simp only [List.getElem?_toArray, List.append_assoc]
            by_cases hiq : i < q.length
            · rw [List.getElem?_append_left (by rw [U8.length]; exact hiq)] at hu
              rw [List.getElem?_append_left (by omega), List.getElem?_take, if_pos (by omega)]
              simpa using hcur i u hu
            · rw [List.getElem?_append_right (by rw [U8.length]; omega), U8.length] at hu
              rw [List.getElem?_append_right (by omega), htl]
              have hlt := (List.getElem?_eq_some_iff.1 hu).1
              rw [List.getElem?_append_left (by omega), show o + i - (o + q.length) = i - q.length by omega]
              exact hu
          · by_cases hbg : b = g
            · have ho := hp ⟨g, o, none⟩ q.length cap rfl (by omega) hbg
              simp only at ho
              subst hbg
              refine ⟨?_, fun a' ln' cap' e hp0 hb' => by cases e; exact ho⟩
              rw [hB'.cell]
              have h1 := hg.cell off
              rw [h1] at hc
              simp only [List.getElem?_toArray, List.append_assoc]
              rw [List.getElem?_append_left (by omega), List.getElem?_take, if_pos (by omega)]
              simpa using hc
            · exact ⟨hs'.cell (p := ⟨b, off, none⟩) hbg hc, fun a' ln' cap' e hp0 hb' => by cases e; exact absurd hb' hbg⟩
        · obtain ⟨v', w', hr, ho, hgr⟩ := run_append_arg_grows (P := Tryd.prog) w 24 24 5 i0 _ 1 1 Tryd.underlying24 hi hz hs hb rfl (by omega) ⟨g, o, none⟩ q.length cap (U8 q) (by rw [U8.length]; omega)
            (fun j u hu => by rw [Addr.add_lit, hg.cell]; exact hcur j u hu) a l.length cp (U8 l) (by rw [U8.length]; omega) hcells (by omega) (by unfold maxLen; omega) (by omega)
          have hs0 : Same (fun _ => False) w w' := (Same.refl _ w).grown hgr (fun k e _ => by cases e)
          have ho' : w'.ownsRow w.heap.size 5 1 v' (q ++ l).length (U8 (q ++ l)) := by simpa [U8] using ho
          have hQ' : QAt w' w.heap.size v' (q ++ l) := QAt.of_own ho'
          refine ⟨v', w', hr, ?_, hs0.mono (fun _ _ h => h.elim), fun k hk => .inr (hQ'.lt hk).1, fun b off u hp hc => ⟨hs0.cell (p := ⟨b, off, none⟩) (fun h => h) hc, fun a' ln' cap' e hp0 hb' => ?_⟩⟩
          · rcases hQ' with h | ⟨g', o', cap', cur', e1, e2, e3⟩
            · exact .inl h
            · exact .inr ⟨g', o', cap', cur', e1, by omega, e3⟩
          · have h1 := (hQ'.lt (k := a'.block) (by rw [e]; rfl)).1
            have h2 := World.block_lt_of_cell? _ _ hc
            simp only at h2
            omega
end Go.Proofs.YtalpilbpgkijlaaDoor
