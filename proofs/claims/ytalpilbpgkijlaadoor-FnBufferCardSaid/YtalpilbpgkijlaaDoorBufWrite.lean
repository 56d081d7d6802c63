/- Write: the bytes lie behind those that were there (the walk). Condition: at most 1,048,576 bytes. -/
import Derived.Test.YtalpilbpgkijlaaDoorBufLast
namespace Go.Proofs.YtalpilbpgkijlaaDoor
open Go.RowKit
set_option maxRecDepth 100000
set_option maxHeartbeats 2000000

theorem DB.count {B z : Nat} {w : World} {chs : List Ch} {sv : Value} {r wv : Nat} {q : List UInt8} {ex : Int} (h : DB B z w chs sv r wv q ex) : chs.length ≤ 2000 := by
  have h1 := h.ok.count
  have h2 := h.bd
  rw [h.hq, List.length_map] at h1
  omega
theorem last_any (B z : Nat) (w : World) (chs : List Ch) (sv : Value) (r wv : Nat) (q : List UInt8) (ex : Int) (h : DB B z w chs sv r wv q ex) (want : Int) :
    Calls Tryd.prog 56 #[.pointer (some ⟨z, 0, none⟩), .int .i64 want] w (LastPost B z chs sv r q ex w) := by
  have hc := h.count
  rcases nil_or_snoc chs with rfl | ⟨init, c, rfl⟩
  · exact last_new B z w [] sv r wv q ex h (fun i c e => by simp at e) want (by omega)
  · have hl := h.ok.lst (init.map (·.2)) c.2 (by simp)
    by_cases hlt : wv < c.2.length
    · exact last_there B z w init c sv r wv q ex h hlt want
    · refine last_new B z w (init ++ [c]) sv r wv q ex h (fun i x e => ?_) want (by omega)
      obtain ⟨_, rfl⟩ := last_eq e
      omega

/-- A copy of bytes into a block of bytes. -/
theorem copy_bytes {w : World} {g o dLen dCap : Nat} {b : List UInt8} {t : TypeId} {sa : Addr} {sLen sCap : Nat} {d : List UInt8} (hg : Blk w g (U8 b).toArray t) (hn : d.length = Nat.min sLen dLen) (hfit : o + d.length ≤ b.length)
    (hsrc : ∀ i, i < d.length → w.cell? (sa.add i) = some (.int .u8 ((d.getD i 0).toNat : Int))) :
    ∃ w', (Builtin.copy_ #[24, 24] 3 #[.slice (some ⟨g, o, none⟩) dLen dCap, .slice (some sa) sLen sCap]).run Tryd.prog w = .ok (.int .i64 d.length) w' ∧ Blk w' g (U8 (splice b o d)).toArray t ∧ Same (fun k => k = g) w w' := by
  have hr := run_copy_row Tryd.prog w 24 24 3 5 g o dLen dCap sa sLen sCap (U8 b).toArray t (U8 d) Tryd.underlying24 size5 hg (by rw [U8.length]; exact hn) (fun j v hv => by
    have hj : j < d.length := by
      have := (List.getElem?_eq_some_iff.1 hv).1
      rwa [U8.length] at this
    rw [hsrc j hj]
    rw [U8.get d j hj] at hv
    exact hv) (by simp [U8.length]; exact hfit) (U8.one d)
  refine ⟨_, by rw [hr, U8.length]; rfl, ?_, ?_⟩
  · have hset := setRow_heap w g (U8 b).toArray (List.take o (U8 b).toArray.toList ++ U8 d ++ List.drop (o + (U8 d).length) (U8 b).toArray.toList).toArray t _ hg
    simp only [U8.length] at hset
    unfold Blk
    rw [hset]
    congr 2
    simp [splice, U8, List.map_take, List.map_drop]
  · exact ⟨rfl, rfl, rfl, by simp [World.setRow], fun k _ hk => setRow_other w g k _ hk⟩

theorem write_behind {B z : Nat} {w W3 : World} {init : List Ch} {c : Ch} {sv : Value} {r wv : Nat} {q d : List UInt8} {ex ex' : Int} (h : DB B z w (init ++ [c]) sv r wv q ex) (hl : wv + d.length ≤ c.2.length) (hb : q.length + d.length ≤ 1048576)
    (hB : Blk W3 c.1 (U8 (splice c.2 wv d)).toArray 5) (hS : Same (fun k => k = c.1) w W3) (hex : Bd ex') :
    DB B z (((W3.setCell ⟨z, 2, none⟩ (.int .i64 (wv + d.length : Nat))).setCell ⟨z, 3, none⟩ (.int .i64 (q.length + d.length : Nat))).setCell ⟨z, 4, none⟩ (.int .i64 ex')) (init ++ [(c.1, splice c.2 wv d)]) sv r (wv + d.length) (q ++ d) ex' ∧
      Same (Foot z sv (init ++ [c])) w (((W3.setCell ⟨z, 2, none⟩ (.int .i64 (wv + d.length : Nat))).setCell ⟨z, 3, none⟩ (.int .i64 (q.length + d.length : Nat))).setCell ⟨z, 4, none⟩ (.int .i64 ex')) ∧
      (∀ k, Foot z sv (init ++ [(c.1, splice c.2 wv d)]) k → Foot z sv (init ++ [c]) k) := by
  have hc := h.cs.blk c (by simp)
  have hzB := h.zB
  have hne : ¬ z = c.1 := by omega
  have hsp := splice_length hl
  have hnd := h.cs.nd
  rw [List.map_append, List.nodup_append] at hnd
  have hC : Chs B W3 (init ++ [(c.1, splice c.2 wv d)]) sv := by
    refine ⟨?_, fun x hx => ?_, ?_⟩
    · have := ownsRow_same h.cs.own hS (fun g hg e => hc.2.1 (by rw [← e]; exact hg))
      have e1 : (init ++ [((c.1, splice c.2 wv d) : Ch)]).length = (init ++ [c]).length := by simp
      have e2 : (init ++ [((c.1, splice c.2 wv d) : Ch)]).map chV = (init ++ [c]).map chV := by simp [chV, hsp]
      rw [e1, e2]
      exact this
    · rw [List.mem_append] at hx
      rcases hx with hx | hx
      · have hb := h.cs.blk x (List.mem_append_left _ hx)
        refine ⟨hb.1, hb.2.1, hb.2.2.same hS (fun e => ?_)⟩
        exact hnd.2.2 x.1 (List.mem_map_of_mem hx) c.1 (by simp) e
      · simp only [List.mem_singleton] at hx
        subst hx
        exact ⟨hc.1, hc.2.1, hB⟩
    · rw [List.map_append]
      have := h.cs.nd
      rw [List.map_append] at this
      exact this
  have s3 : Same (fun k => k = z) W3 (((W3.setCell ⟨z, 2, none⟩ (.int .i64 (wv + d.length : Nat))).setCell ⟨z, 3, none⟩ (.int .i64 (q.length + d.length : Nat))).setCell ⟨z, 4, none⟩ (.int .i64 ex')) :=
    (((Same.refl (fun k => k = z) W3).setCell (p := ⟨z, 2, none⟩) (fun _ => rfl) _).setCell (p := ⟨z, 3, none⟩) (fun _ => rfl) _).setCell (p := ⟨z, 4, none⟩) (fun _ => rfl) _
  refine ⟨⟨hzB, ?_, ?_, ?_, ?_, hex, ?_, by simp; omega⟩, ?_, ?_⟩
  · exact Nat.le_trans (Nat.le_trans h.hB hS.size) s3.size
  · exact hC.same s3 (fun k hk e => by have := (hC.own.lt k hk).1; omega) (fun x hx e => by have := (hC.blk x hx).1; omega)
  · have := (((h.zb.same hS hne).set' (o := 2) (u := .int .i64 (wv + d.length : Nat)) rfl).set' (o := 3) (u := .int .i64 (q.length + d.length : Nat)) rfl).set' (o := 4) (u := .int .i64 ex') rfl
    simpa using this
  · have := h.ok
    rw [List.map_append] at this ⊢
    exact this.write hl
  · have h1 := h.ok
    have h2 := h.hq
    rw [List.map_append] at h1 h2 ⊢
    rw [← h2]
    refine cont_write _ _ _ _ _ (fun e => ?_) hl
    exact h1.one c.2 (by rw [e]; rfl)
  · exact (hS.mono (G := Foot z sv (init ++ [c])) (fun k _ e => .inr (.inr ⟨c, by simp, e.symm⟩))).trans s3 (fun k _ e => .inl e)
  · rintro k (e | e | ⟨x, hx, rfl⟩)
    · exact .inl e
    · exact .inr (.inl e)
    · rw [List.mem_append] at hx
      rcases hx with hx | hx
      · exact .inr (.inr ⟨x, List.mem_append_left _ hx, rfl⟩)
      · simp only [List.mem_singleton] at hx
        subst hx
        exact .inr (.inr ⟨c, by simp, rfl⟩)

theorem wrap64_bd (x : Int) : Bd (wrap64 x) := by
  unfold Bd wrap64
  omega
def WrRel (B z : Nat) (w : World) (F0 : Nat → Prop) (pb po : Nat) (l q : List UInt8) (k : Nat) (v : Value) (wr : World) : Prop :=
  ∃ (j : Nat) (chs : List Ch) (sv : Value) (r wv : Nat) (ex : Int) (o cp : Nat), k + j = l.length ∧ j ≤ l.length ∧ v = .slice (some ⟨pb, o, none⟩) (l.length - j) cp ∧ l.length - j ≤ cp ∧ cp ≤ 9223372036854775807 ∧ (j < l.length → o = po + j) ∧
    DB B z wr chs sv r wv (q ++ l.take j) ex ∧ Same F0 w wr ∧ (∀ k, Foot z sv chs k → F0 k ∨ w.heap.size ≤ k)
def WritePost (B z : Nat) (w : World) (F0 : Nat → Prop) (l q : List UInt8) (e : Ending) (w' : World) : Prop :=
  e = .returned (.tuple #[.int .i64 l.length, .nilIface]) ∧ ∃ chs sv r wv ex, DB B z w' chs sv r wv (q ++ l) ex ∧ Same F0 w w' ∧ (∀ k, Foot z sv chs k → F0 k ∨ w.heap.size ≤ k)

theorem write_some (B z : Nat) (w : World) (chs : List Ch) (sv : Value) (r wv : Nat) (q : List UInt8) (ex : Int) (h : DB B z w chs sv r wv q ex) (pb po cp : Nat) (l : List UInt8) (hcp : l.length ≤ cp) (hcp' : cp ≤ 9223372036854775807)
    (hF : ¬ Foot z sv chs pb) (hl : ∀ i, i < l.length → w.cell? ⟨pb, po + i, none⟩ = some (.int .u8 ((l.getD i 0).toNat : Int))) (hlt : pb < w.heap.size) (hb : q.length + l.length ≤ 1048576) :
    Calls Tryd.prog 46 #[.pointer (some ⟨z, 0, none⟩), .slice (some ⟨pb, po, none⟩) l.length cp] w (WritePost B z w (Foot z sv chs) l q) := by
  have H := Lib.hid h
  have HL := Lib.hid hl
  clear h hl
  go_enter Tryd.func46, Tryd.ntmps46
  go_wp2
  go_loopg [1] l.length (fun k v wr => WrRel B z w (Foot z sv chs) pb po l q k v wr)
  case atStart => exact ⟨0, chs, sv, r, wv, ex, po, cp, rfl, Nat.zero_le _, rfl, hcp, hcp', fun _ => rfl, by simpa using H.out, Same.refl _ _, fun k hk => .inl hk⟩
  case round =>
    obtain ⟨j, chs1, sv1, r1, wv1, ex1, o, cp1, hk, hjl, rfl, hc1, hc2, ho, hD, hS, hf⟩ := hrel
    by_cases hj : j < l.length
    · have hN : 0 < l.length - j := by omega
      obtain ⟨N, hNe⟩ : ∃ N, l.length - j = N := ⟨_, rfl⟩
      rw [hNe] at hc1 hN ⊢
      have hNl : N ≤ 1048576 := by omega
      obtain ⟨z0, z1, z2, z3, z4⟩ := hD.z0
      obtain ⟨Q, hQ⟩ : ∃ Q, q ++ l.take j = Q := ⟨_, rfl⟩
      rw [hQ] at hD
      have hQl : Q.length + N ≤ 1048576 := by rw [← hQ]; simp; omega
      have HQ := Lib.hid hQ
      have HD := Lib.hid hD
      have A := Lib.hid (And.intro hk (And.intro ho (And.intro hS (And.intro hf hNe))))
      clear hD hk ho hS hf hNe hQ z0 z1 z2 z3
      go_wp2_with fail
      all_goals
        refine (last_any _ _ _ _ _ _ _ _ _ HD.out _).mono ?_
        rintro e w2 ⟨init, c, sv2, wv2, rfl, hD2, hwl, hS2, hf2⟩
        have hc := hD2.cs.blk c (by simp)
        obtain ⟨m, hm, m1, m2, m3⟩ : ∃ m, m = Nat.min N (c.2.length - wv2) ∧ 1 ≤ m ∧ m ≤ N ∧ wv2 + m ≤ c.2.length := ⟨_, rfl, by simp only [Nat.min_def]; split <;> omega, by simp only [Nat.min_def]; split <;> omega, by simp only [Nat.min_def]; split <;> omega⟩
        obtain ⟨d, hd⟩ : ∃ d, d = (l.drop j).take m := ⟨_, rfl⟩
        have hdl : d.length = m := by have := A.out.2.2.2.2; rw [hd]; simp; omega
        have hpo := A.out.2.1 hj
        have hsz := A.out.2.2.1.size
        have hpb : wr.heap.size ≤ w2.heap.size := hS2.size
        have hsrc : ∀ i, i < d.length → w2.cell? ((⟨pb, o, none⟩ : Addr).add i) = some (.int .u8 ((d.getD i 0).toNat : Int)) := by
          intro i hi
          rw [Addr.add_lit, hpo, Nat.add_assoc]
          have h1 := HL.out (j + i) (by have := A.out.2.2.2.2; omega)
          have h2 := A.out.2.2.1.cell (p := ⟨pb, po + (j + i), none⟩) hF h1
          have hnf : ¬ Foot z sv1 chs1 pb := fun e => by
            rcases A.out.2.2.2.1 pb e with h | h
            · exact hF h
            · omega
          have h3 := hS2.cell (p := ⟨pb, po + (j + i), none⟩) hnf h2
          rw [h3, hd]
          have hi2 : i < m := by omega
          simp [List.getD, List.getElem?_drop, hi2]
        obtain ⟨W3, hcp3, hB3, hS3⟩ := copy_bytes (w := w2) (g := c.1) (o := wv2) (dLen := c.2.length - wv2) (dCap := c.2.length - wv2) (sa := ⟨pb, o, none⟩) (sLen := N) (sCap := cp1) hc.2.2 (by rw [hdl]; exact hm) (by rw [hdl]; exact m3) hsrc
        rw [hdl] at hcp3
        obtain ⟨y0, y1, y2, y3, y4⟩ := hD2.z0
        have hne : ¬ c.2.length = wv2 := by omega
        have hzc : ¬ z = c.1 := by have := hD2.zB; omega
        have hz3 := hD2.zb.same hS3 hzc
        have x2 : W3.cell? ⟨z, 2, none⟩ = some (.int .i64 wv2) := hz3.cell 2
        have x3 : W3.cell? ⟨z, 3, none⟩ = some (.int .i64 Q.length) := hz3.cell 3
        have x4 : W3.cell? ⟨z, 4, none⟩ = some (.int .i64 ex1) := hz3.cell 4
        have g2 : W3.frozen? ⟨z, 2, none⟩ = false := hz3.free 2
        have g3 : W3.frozen? ⟨z, 3, none⟩ = false := hz3.free 3
        have g4 : W3.frozen? ⟨z, 4, none⟩ = false := hz3.free 4
        have hmL : m ≤ 1048576 := by omega
        have hL2 : c.2.length ≤ 16384 := (hD2.ok.sz c.2 (by simp)).pos.2
        have hwl' : (wv2 : Int) < (c.2.length : Int) := by omega
        have WB := write_behind hD2 (by rw [hdl]; exact m3) (by rw [hdl]; omega) hB3 hS3 (wrap64_bd (ex1 - m))
        simp only [hdl, Int.natCast_add] at WB
        have B2 := Lib.hid (And.intro hS2 (And.intro hf2 (And.intro hd (And.intro WB hpo))))
        clear hD2 hS2 hf2 hB3 hS3 hd hdl hc hm hpo hsrc hsz y0 y1 y3 y4 hz3 WB
        simp only [chV]
        go_wp2_with fail
        all_goals
          go_roundg (gk - m)
          case measure => have := A.out.1; omega
          case rel =>
            obtain ⟨hS2, hf2, hd, ⟨hD4, hS4, hf4⟩, hpo⟩ := B2.out
            obtain ⟨hk, ho, hS, hf, hNe⟩ := A.out
            have hq : Q ++ d = q ++ l.take (j + m) := by
              rw [← HQ.out, hd, List.append_assoc, ← List.take_add]
            rw [hq] at hD4
            have hsz := hS.size
            have hsz2 := hS2.size
            refine ⟨j + m, _, _, _, _, _, _, _, by omega, by omega, by rw [show l.length - (j + m) = N - m by omega], by omega, by omega, fun h => by omega, hD4, (hS.trans hS2 (fun k hk h => ?_)).trans hS4 (fun k hk h => ?_), fun k h => ?_⟩
            · rcases hf k h with h' | h'
              · exact h'
              · omega
            · rcases hf2 k h with h' | h'
              · rcases hf k h' with h'' | h''
                · exact h''
                · omega
              · omega
            · rcases hf2 k (hf4 k h) with h' | h'
              · exact hf k h'
              · exact .inr (by omega)
    · have hjl' : j = l.length := by omega
      have hq : q ++ l.take j = q ++ l := by rw [hjl', List.take_length]
      rw [hq] at hD
      have hN0 : l.length - j = 0 := by omega
      have A := Lib.hid (And.intro hD (And.intro hS hf))
      rw [hN0]
      clear hD hS hf hq hk ho hjl' hN0 hc1
      go_wp2
      go_ret2
      exact ⟨rfl, chs1, sv1, r1, wv1, ex1, A.out.1, A.out.2.1, A.out.2.2⟩
end Go.Proofs.YtalpilbpgkijlaaDoor
