/- lastChunkOrAlloc: the chunk that is written to, or a new one (the walk). Condition: the data buffer's numbers are those of its chunks. -/
import Derived.Test.YtalpilbpgkijlaaDoorBufMem
namespace Go.Proofs.YtalpilbpgkijlaaDoor
open Go.RowKit
set_option maxRecDepth 100000
set_option maxHeartbeats 1000000

theorem own_form {w : World} {B n : Nat} {v : Value} {xs : List Value} (h : w.ownsRow B 24 1 v n xs) : ∃ ad cp, v = .slice ad n cp := by
  rcases h.2 with ⟨rfl, rfl⟩ | ⟨g, cap, cur, rfl, _⟩
  · exact ⟨_, _, rfl⟩
  · exact ⟨_, _, rfl⟩

theorem last_form {B : Nat} {w : World} {init : List Ch} {c : Ch} {sv : Value} (h : Chs B w (init ++ [c]) sv) :
    ∃ cb cap, sv = .slice (some ⟨cb, 0, none⟩) (init.length + 1) cap ∧ init.length + 1 ≤ cap ∧ cap ≤ 9223372036854775807 ∧ w.cell? ⟨cb, init.length, none⟩ = some (.slice (some ⟨c.1, 0, none⟩) c.2.length c.2.length) := by
  have hg : (init ++ [c])[init.length]? = some c := by simp
  have hl : (init ++ [c]).length = init.length + 1 := by simp
  generalize init ++ [c] = cs at *
  cases cs with
  | nil => simp at hl
  | cons d rest =>
    obtain ⟨cb, cap, h1, h2, h3, h4⟩ := h.form
    simp only [List.length_cons] at hl
    rw [hl] at h1 h2
    exact ⟨cb, cap, h1, h2, h3, h4 _ _ hg⟩
theorem nil_or_snoc {α : Type} (l : List α) : l = [] ∨ ∃ i c, l = i ++ [c] := by
  rcases List.eq_nil_or_concat l with h | ⟨i, c, h⟩
  · exact .inl h
  · exact .inr ⟨i, c, by rw [h, List.concat_eq_append]⟩

def LastPost (B z : Nat) (chs : List Ch) (sv : Value) (r : Nat) (q : List UInt8) (ex : Int) (w : World) (e : Ending) (w' : World) : Prop :=
  ∃ init c sv' wv', e = .returned (chV c) ∧ DB B z w' (init ++ [c]) sv' r wv' q ex ∧ wv' < c.2.length ∧ Same (Foot z sv chs) w w' ∧ ∀ k, Foot z sv' (init ++ [c]) k → Foot z sv chs k ∨ w.heap.size ≤ k

theorem last_there (B z : Nat) (w : World) (init : List Ch) (c : Ch) (sv : Value) (r wv : Nat) (q : List UInt8) (ex : Int) (h : DB B z w (init ++ [c]) sv r wv q ex) (hlt : wv < c.2.length) (want : Int) :
    Calls Tryd.prog 56 #[.pointer (some ⟨z, 0, none⟩), .int .i64 want] w (LastPost B z (init ++ [c]) sv r q ex w) := by
  have H := Lib.hid h
  obtain ⟨z0, z1, z2, z3, z4⟩ := h.z0
  obtain ⟨cb, cap, rfl, hn, hcap, c0⟩ := last_form h.cs
  have hlt' : (wv : Int) < (c.2.length : Int) := by omega
  have hL := (h.ok.sz c.2 (by simp)).pos
  clear h
  have hk : (((init.length : Int) + 1) != 0) = true := by simp; omega
  go_enter Tryd.func56, Tryd.ntmps56
  go_wp2
  go_quiet (fail)
  go_wp2
  go_ret
  refine ⟨init, c, _, wv, rfl, H.out.same (F := fun _ => False) ((Same.refl _ _).drewN _) (fun _ _ h => h), hlt, (Same.refl _ _).drewN _, fun k hk => .inl hk⟩

/-- What stands behind a new chunk: the row of chunks with it. -/
theorem new_behind {B z : Nat} {w w1 w2 : World} {chs : List Ch} {sv v1 : Value} {r wv L k : Nat} {q : List UInt8} {ex : Int} (h : DB B z w chs sv r wv q ex) (hf : ∀ init c, chs = init ++ [c] → wv = c.2.length) (hL : Sz L)
    (e1 : w1 = (((w.drewN k).alloc (zrow L)).alloc (.cells #[.slice (some ⟨w.heap.size, 0, none⟩) L L] 24)))
    (hown : w2.ownsRow B 24 1 v1 (chs.length + 1) (chs.map chV ++ [.slice (some ⟨w.heap.size, 0, none⟩) L L])) (hg : w1.grownBy w2 sv.ownBlock) (hw : v1.ownBlock = sv.ownBlock ∨ v1.ownBlock = some w1.heap.size) :
    DB B z ((w2.setCell ⟨z, 0, none⟩ v1).setCell ⟨z, 2, none⟩ (.int .i64 0)) (chs ++ [(w.heap.size, Zs L)]) v1 r 0 q ex ∧ Same (Foot z sv chs) w ((w2.setCell ⟨z, 0, none⟩ v1).setCell ⟨z, 2, none⟩ (.int .i64 0)) ∧
      (∀ k, Foot z v1 (chs ++ [(w.heap.size, Zs L)]) k → Foot z sv chs k ∨ w.heap.size ≤ k) ∧ 0 < L := by
  have hp := hL.pos
  have es : w1.heap.size = w.heap.size + 2 := by rw [e1]; simp
  have hlt := h.cs.own.lt
  have hzl := h.zb.lt
  have hzB := h.zB
  have hB := h.hB
  have s1 : Same (fun _ => False) w w1 := by rw [e1]; exact ((((Same.refl _ _).drewN _).alloc _).alloc _)
  have s2 : Same (fun k => sv.ownBlock = some k) w w2 := (s1.mono (fun _ _ h => h.elim)).trans (Same.of_grown hg) (fun _ _ h => h)
  have hnz : ¬ sv.ownBlock = some z := fun e => by have := (hlt z e).1; omega
  have hv1 : ∀ k, v1.ownBlock = some k → sv.ownBlock = some k ∨ k = w.heap.size + 2 := fun k hk => by
    rcases hw with e | e
    · exact .inl (e ▸ hk)
    · rw [e, es] at hk
      exact .inr (Option.some.inj hk).symm
  have hnew : Blk w2 w.heap.size (U8 (Zs L)).toArray 5 := by
    refine Blk.same ?_ (Same.of_grown hg) (fun e => by have := (hlt _ e).2; omega)
    rw [e1]
    exact (Blk.new (w.drewN k) _ _).alloc _
  have s3 : Same (fun k => k = z) w2 ((w2.setCell ⟨z, 0, none⟩ v1).setCell ⟨z, 2, none⟩ (.int .i64 0)) :=
    ((Same.refl (fun k => k = z) w2).setCell (p := ⟨z, 0, none⟩) (fun _ => rfl) _).setCell (p := ⟨z, 2, none⟩) (fun _ => rfl) _
  have hl : ((chs ++ [((w.heap.size, Zs L) : Ch)]).length) = chs.length + 1 := by simp
  have hC : Chs B w2 (chs ++ [(w.heap.size, Zs L)]) v1 := by
    refine ⟨?_, fun c hc => ?_, ?_⟩
    · rw [hl, List.map_append]
      simpa [chV, Zs.length] using hown
    · rw [List.mem_append] at hc
      rcases hc with hc | hc
      · obtain ⟨a1, a2, a3⟩ := h.cs.blk c hc
        have := a3.lt
        refine ⟨a1, fun e => ?_, a3.same s2 a2⟩
        rcases hv1 _ e with e' | e'
        · exact a2 e'
        · omega
      · simp only [List.mem_singleton] at hc
        subst hc
        refine ⟨hB, fun e => ?_, hnew⟩
        rcases hv1 _ e with e' | e'
        · have := (hlt _ e').2; simp only at this; omega
        · simp only at e'; omega
    · rw [List.map_append, List.nodup_append]
      refine ⟨h.cs.nd, by simp, fun a ha b hb => ?_⟩
      simp only [List.mem_map] at ha
      obtain ⟨c, hc, rfl⟩ := ha
      have := (h.cs.blk c hc).2.2.lt
      simp only [List.map_cons, List.map_nil, List.mem_singleton] at hb
      omega
  have hlst : ∀ init b, chs.map (·.2) = init ++ [b] → wv = b.length := fun init b e => by
    rw [List.map_eq_append_iff] at e
    obtain ⟨l1, l2, rfl, _, e2⟩ := e
    rw [List.map_eq_singleton_iff] at e2
    obtain ⟨c, rfl, rfl⟩ := e2
    exact hf l1 c rfl
  refine ⟨⟨hzB, ?_, ?_, ?_, ?_, h.exb, ?_, h.bd⟩, ?_, ?_, by omega⟩
  · have := s2.size
    simpa [World.setCell] using Nat.le_trans hB this
  · exact hC.same s3 (fun k hk e => by have := (hC.own.lt k hk).1; omega) (fun c hc e => by have := (hC.blk c hc).1; omega)
  · exact ((h.zb.same s2 hnz).set' rfl).set' rfl
  · rw [List.map_append]
    exact h.ok.new hL hlst
  · rw [List.map_append]
    exact (cont_snoc_new L _ r wv hlst).trans h.hq
  · refine (s2.mono (G := Foot z sv chs) (fun k _ e => .inr (.inl e))).trans s3 (fun k _ e => .inl e)
  · rintro k (rfl | hk | ⟨c, hc, rfl⟩)
    · exact .inl (.inl rfl)
    · rcases hv1 k hk with e | e
      · exact .inl (.inr (.inl e))
      · exact .inr (by omega)
    · rw [List.mem_append] at hc
      rcases hc with hc | hc
      · exact .inl (.inr (.inr ⟨c, hc, rfl⟩))
      · simp only [List.mem_singleton] at hc
        subst hc
        exact .inr (Nat.le_refl _)

theorem last_new (B z : Nat) (w : World) (chs : List Ch) (sv : Value) (r wv : Nat) (q : List UInt8) (ex : Int) (h : DB B z w chs sv r wv q ex) (hf : ∀ init c, chs = init ++ [c] → wv = c.2.length) (want : Int) (hlen : chs.length ≤ 1000000) :
    Calls Tryd.prog 56 #[.pointer (some ⟨z, 0, none⟩), .int .i64 want] w (LastPost B z chs sv r q ex w) := by
  have H := Lib.hid h
  have HF := Lib.hid hf
  obtain ⟨z0, z1, z2, z3, z4⟩ := h.z0
  have f0 : w.frozen? ⟨z, 0, none⟩ = false := h.zb.free 0
  have hzl := h.zb.lt
  rcases nil_or_snoc chs with rfl | ⟨init, c, rfl⟩
  · obtain ⟨sa, sc, rfl⟩ := own_form h.cs.own
    clear h hf
    simp only [List.length_nil] at *
    go_enter Tryd.func56, Tryd.ntmps56
    go_wp2_with fail
    refine (get_chunk _ _).mono ?_
    rintro e w1 ⟨L, hL, rfl, rfl⟩
    have HL := Lib.hid hL
    have HZ := Lib.hid ((And.intro H.out.zb H.out.cs.own))
    have g0 : ∀ K o o', (((w.drewN K).alloc o).alloc o').cell? ⟨z, 0, none⟩ = some (.slice (sa) (0) (sc)) := fun K o o' => (((HZ.out.1.drewN K).alloc o).alloc o').cell 0
    have g1 : ∀ o o', ((w.alloc o).alloc o').cell? ⟨z, 0, none⟩ = some (.slice (sa) (0) (sc)) := fun o o' => ((HZ.out.1.alloc o).alloc o').cell 0
    have hzn : ¬ z = w.heap.size := by omega
    have hzn1 : ¬ z = w.heap.size + 1 := by omega
    clear hL
    obtain ⟨i0, hi, hz0, hz1, hz2⟩ := info_parts info24
    go_wp2_with (at_builtin; refine wpList_append_own2 _ rfl _ _ 87 rfl B 24 i0 (.slice none 0 0) 1 24 Tryd.underlying87 hi hz0 hz1 hz2 rfl (by decide) (.slice (sa) (0) (sc)) (0) (([] : List Ch).map chV) rfl (ownsRow_same HZ.out.2 ((((Same.refl (fun _ => False) w).alloc _).alloc _)) (fun _ _ h => h)) ⟨w.heap.size + 1, 0, none⟩ 1 1 [.slice (some ⟨w.heap.size, 0, none⟩) L L] rfl rfl ?c1 ?c2 ?c3 ?c4 ?c5 ?_)
    case c1 => exact cells_new2 _ _ [.slice (some ⟨w.heap.size, 0, none⟩) L L] 24
    case c2 =>
      intro u hu
      simp only [List.mem_singleton] at hu
      subst hu
      rfl
    case c3 => unfold maxLen; omega
    case c4 => omega
    case c5 => have := H.out.hB; simp; omega
    intro v1 w1 hown1 hgrow1 hwhere
    obtain ⟨a1, c1, rfl⟩ := own_form hown1
    have hnz : ¬ Value.ownBlock (.slice (sa) (0) (sc)) = some z := fun e => by have := (HZ.out.2.lt z e).1; have := H.out.zB; omega
    have hb1 : Blk w1 z #[.slice (sa) (0) (sc), .int .i64 r, .int .i64 wv, .int .i64 q.length, .int .i64 ex] 91 := ((HZ.out.1.alloc _).alloc _).same (Same.of_grown hgrow1) hnz
    have y0 : w1.cell? ⟨z, 0, none⟩ = some (.slice (sa) (0) (sc)) := hb1.cell 0
    have y2 : w1.cell? ⟨z, 2, none⟩ = some (.int .i64 wv) := hb1.cell 2
    have x0 : w1.frozen? ⟨z, 0, none⟩ = false := hb1.free 0
    have x2 : w1.frozen? ⟨z, 2, none⟩ = false := hb1.free 2
    have hnb := new_behind (k := 0) H.out HF.out HL.out rfl hown1 hgrow1 (by simpa using hwhere)
    have HN := Lib.hid hnb
    clear hnb hb1 hown1 hgrow1 hwhere hnz
    go_wp2
    go_ret
    exact ⟨([] : List Ch), (w.heap.size, Zs L), _, 0, by simp only [chV, Zs.length]; rfl, HN.out.1, by rw [Zs.length]; exact HN.out.2.2.2, HN.out.2.1, HN.out.2.2.1⟩
  · have hwv := hf init c rfl
    obtain ⟨cb, cap, rfl, hn, hcap, c0⟩ := last_form h.cs
    have hl : (init ++ [c]).length = init.length + 1 := by simp
    rw [hl] at hlen
    have hown0 := h.cs.own
    rw [hl] at hown0
    have HO := Lib.hid hown0
    have hL := (h.ok.sz c.2 (by simp)).pos
    have hlt' : ¬ ((wv : Int) < (c.2.length : Int)) := by omega
    have hk : (((init.length : Int) + 1) != 0) = true := by simp; omega
    clear h hf hwv hl hown0
    go_enter Tryd.func56, Tryd.ntmps56
    go_wp2_with fail
    go_quiet (fail)
    have hZ0 := H.out.zb.drewN nq
    have hO0 : (w.drewN nq).ownsRow B 24 1 (.slice (some ⟨cb, 0, none⟩) (init.length + 1) cap) (init.length + 1) ((init ++ [c]).map chV) := HO.out
    have hs0 : Same (fun _ => False) w (w.drewN nq) := (Same.refl _ _).drewN _
    have hz0 : (w.drewN nq).heap.size = w.heap.size := rfl
    obtain ⟨K, hK⟩ : ∃ K, w.drewN nq = w.drewN K := ⟨_, rfl⟩
    generalize w.drewN nq = W1 at *
    have HK := Lib.hid hK
    obtain ⟨y0, y1, y2, y3, y4⟩ : W1.cell? ⟨z, 0, none⟩ = some (.slice (some ⟨cb, 0, none⟩) (init.length + 1) cap) ∧ W1.cell? ⟨z, 1, none⟩ = some (.int .i64 r) ∧ W1.cell? ⟨z, 2, none⟩ = some (.int .i64 wv) ∧ W1.cell? ⟨z, 3, none⟩ = some (.int .i64 q.length) ∧ W1.cell? ⟨z, 4, none⟩ = some (.int .i64 ex) := ⟨hZ0.cell 0, hZ0.cell 1, hZ0.cell 2, hZ0.cell 3, hZ0.cell 4⟩
    have hz1 := hZ0.lt
    have HZ := Lib.hid (And.intro hZ0 hO0)
    have HS := Lib.hid (And.intro hz0 hs0)
    clear hZ0 hO0 hK hs0 hz0 z0 z1 z2 z3 z4 f0 hzl c0
    go_wp2_with fail
    refine (get_chunk _ _).mono ?_
    rintro e w1 ⟨L, hL, rfl, rfl⟩
    have HL := Lib.hid hL
    have hzn : ¬ z = W1.heap.size := by omega
    have hzn1 : ¬ z = W1.heap.size + 1 := by omega
    clear hL
    obtain ⟨i0, hi, hi0, hi1, hi2⟩ := info_parts info24
    go_wp2_with (at_builtin; refine wpList_append_own2 _ rfl _ _ 87 rfl B 24 i0 (.slice none 0 0) 1 24 Tryd.underlying87 hi hi0 hi1 hi2 rfl (by decide) (.slice (some ⟨cb, 0, none⟩) (init.length + 1) cap) (init.length + 1) ((init ++ [c]).map chV) rfl (ownsRow_same HZ.out.2 (((Same.refl (fun _ => False) _).alloc _).alloc _) (fun _ _ h => h)) ⟨W1.heap.size + 1, 0, none⟩ 1 1 [.slice (some ⟨W1.heap.size, 0, none⟩) L L] rfl rfl ?c1 ?c2 ?c3 ?c4 ?c5 ?_)
    case c1 => exact cells_new2 _ _ [.slice (some ⟨W1.heap.size, 0, none⟩) L L] 24
    case c2 =>
      intro u hu
      simp only [List.mem_singleton] at hu
      subst hu
      rfl
    case c3 => unfold maxLen; omega
    case c4 => omega
    case c5 => have := H.out.hB; have := HS.out.1; simp; omega
    intro v1 w1 hown1 hgrow1 hwhere
    obtain ⟨a1, c1, rfl⟩ := own_form hown1
    have hnz : ¬ Value.ownBlock (.slice (some ⟨cb, 0, none⟩) (init.length + 1) cap) = some z := fun e => by have := (HZ.out.2.lt z e).1; have := H.out.zB; omega
    have hb1 : Blk w1 z #[.slice (some ⟨cb, 0, none⟩) (init.length + 1) cap, .int .i64 r, .int .i64 wv, .int .i64 q.length, .int .i64 ex] 91 := ((HZ.out.1.alloc _).alloc _).same (Same.of_grown hgrow1) hnz
    have x0 : w1.cell? ⟨z, 0, none⟩ = some (.slice (some ⟨cb, 0, none⟩) (init.length + 1) cap) := hb1.cell 0
    have x2 : w1.cell? ⟨z, 2, none⟩ = some (.int .i64 wv) := hb1.cell 2
    have g0 : w1.frozen? ⟨z, 0, none⟩ = false := hb1.free 0
    have g2 : w1.frozen? ⟨z, 2, none⟩ = false := hb1.free 2
    have hnb := new_behind (k := K) (w1 := (W1.alloc (zrow L)).alloc (.cells #[.slice (some ⟨W1.heap.size, 0, none⟩) L L] 24)) H.out HF.out HL.out (by rw [HS.out.1, HK.out]) (by rw [← HS.out.1]; simpa using hown1) hgrow1 (by simpa using hwhere)
    rw [← HS.out.1] at hnb
    have HN := Lib.hid hnb
    clear hnb hb1 hown1 hgrow1 hwhere hnz
    go_wp2
    go_ret
    exact ⟨(init ++ [c]), (W1.heap.size, Zs L), _, 0, by simp only [chV, Zs.length]; rfl, HN.out.1, by rw [Zs.length]; exact HN.out.2.2.2, HN.out.2.1, fun k hk => by rw [← HS.out.1]; exact HN.out.2.2.1 k hk⟩
end Go.Proofs.YtalpilbpgkijlaaDoor
