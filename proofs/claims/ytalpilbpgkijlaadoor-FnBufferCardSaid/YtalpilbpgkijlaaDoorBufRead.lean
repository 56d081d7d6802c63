/- Read: the bytes that were written first (the walk). Condition: the target is a block of bytes of its own. -/
import Derived.Test.YtalpilbpgkijlaaDoorBufWrite
namespace Go.Proofs.YtalpilbpgkijlaaDoor
open Go.RowKit
set_option maxRecDepth 100000
set_option maxHeartbeats 2000000

theorem splice_splice {α : Type} (L A D : List α) (_h : A.length + D.length ≤ L.length) : splice (splice L 0 A) A.length D = splice L 0 (A ++ D) := by
  unfold splice
  simp only [List.take_zero, List.nil_append, Nat.zero_add, List.length_append]
  rw [List.take_append_of_le_length (Nat.le_refl _), List.take_length, List.drop_append]
  have e : List.drop (A.length + D.length) A = [] := List.drop_eq_nil_of_le (by omega)
  rw [e, List.nil_append, List.drop_drop, List.append_assoc]
  congr 3
  omega
theorem splice_zero {α : Type} (L : List α) : splice L 0 [] = L := by simp [splice]

structure Mid (B z pb : Nat) (w W5 : World) (c : Ch) (rest : List Ch) (sv : Value) (r m wv : Nat) (Q : List UInt8) (ex : Int) : Prop where
  same : Same (fun k => k = z ∨ k = pb) w W5
  cs : Chs B W5 (c :: rest) sv
  zb : Blk W5 z #[sv, .int .i64 ((r : Int) + m), .int .i64 wv, .int .i64 ((Q.length : Int) - m), .int .i64 ex] 91
theorem read_mid {B z pb : Nat} {w W3 : World} {c : Ch} {rest : List Ch} {sv : Value} {r m wv : Nat} {Q : List UInt8} {ex : Int} (h : DB B z w (c :: rest) sv r wv Q ex) (hS : Same (fun k => k = pb) w W3) (hF : ¬ Foot z sv (c :: rest) pb) :
    Mid B z pb w ((W3.setCell ⟨z, 1, none⟩ (.int .i64 ((r : Int) + m))).setCell ⟨z, 3, none⟩ (.int .i64 ((Q.length : Int) - m))) c rest sv r m wv Q ex := by
  have hz : ¬ z = pb := fun e => hF (.inl e.symm)
  refine ⟨?_, ?_, ?_⟩
  · exact ((hS.mono (fun k _ e => .inr e)).setCell (p := ⟨z, 1, none⟩) (fun _ => .inl rfl) _).setCell (p := ⟨z, 3, none⟩) (fun _ => .inl rfl) _
  · exact ((h.cs.same hS (fun k hk e => hF (.inr (.inl (e ▸ hk)))) (fun x hx e => hF (.inr (.inr ⟨x, hx, e⟩)))).setz h.zB).setz h.zB
  · exact ((h.zb.same hS hz).set' rfl).set' rfl

theorem Mid.drewN {B z pb : Nat} {w W5 : World} {c : Ch} {rest : List Ch} {sv : Value} {r m wv : Nat} {Q : List UInt8} {ex : Int} (h : Mid B z pb w W5 c rest sv r m wv Q ex) (n : Nat) : Mid B z pb w (W5.drewN n) c rest sv r m wv Q ex :=
  ⟨h.same.drewN n, h.cs.same (F := fun _ => False) ((Same.refl _ _).drewN n) (fun _ _ h => h) (fun _ _ h => h), h.zb.drewN n⟩
theorem Mid.drew {B z pb : Nat} {w W5 : World} {c : Ch} {rest : List Ch} {sv : Value} {r m wv : Nat} {Q : List UInt8} {ex : Int} (h : Mid B z pb w W5 c rest sv r m wv Q ex) : Mid B z pb w W5.drew c rest sv r m wv Q ex :=
  ⟨h.same.drew, h.cs.same (F := fun _ => False) (Same.refl _ _).drew (fun _ _ h => h) (fun _ _ h => h), h.zb.drew⟩
theorem read_keep {B z pb : Nat} {w W5 : World} {c : Ch} {rest : List Ch} {sv : Value} {r m wv : Nat} {Q : List UInt8} {ex : Int} (h : DB B z w (c :: rest) sv r wv Q ex) (hM : Mid B z pb w W5 c rest sv r m wv Q ex)
    (hm : m ≤ avail c.2 (rest.map (·.2)) r wv) (hlt : r + m < c.2.length) : DB B z W5 (c :: rest) sv (r + m) wv (Q.drop m) ex := by
  have hq := h.hq
  have hok0 : OkB (c.2 :: rest.map (·.2)) r wv := h.ok
  have hc := cont_head hok0 hm
  have h2 := hc.2.1
  rw [List.map_cons] at hq
  rw [hq] at hc h2
  obtain ⟨hok, hcont⟩ := hc.2.2.1 hlt
  refine ⟨h.zB, Nat.le_trans h.hB hM.same.size, hM.cs, ?_, hok, h.exb, hcont, by have := h.bd; simp; omega⟩
  have e1 : ((Q.drop m).length : Int) = (Q.length : Int) - m := by simp; omega
  have e2 : ((r + m : Nat) : Int) = (r : Int) + m := by omega
  rw [e1, e2]
  exact hM.zb

/-- The row of chunks is moved up by one. -/
theorem move_up {B : Nat} {W7 : World} {c : Ch} {rest : List Ch} {cb cap : Nat} (h : Chs B W7 (c :: rest) (.slice (some ⟨cb, 0, none⟩) (rest.length + 1) cap)) :
    ∃ W8 cur8, (∀ sc, (cap = 1 → (Builtin.copy_ #[87, 87] 3 #[.slice (some ⟨cb, 0, none⟩) rest.length cap, .slice (some ⟨cb, 0, none⟩) rest.length sc]).run Tryd.prog W7 = .ok (.int .i64 rest.length) W8) ∧
        (¬ cap = 1 → (Builtin.copy_ #[87, 87] 3 #[.slice (some ⟨cb, 0, none⟩) rest.length cap, .slice (some ⟨cb, 1, none⟩) rest.length sc]).run Tryd.prog W7 = .ok (.int .i64 rest.length) W8)) ∧
      Blk W8 cb cur8 24 ∧ cur8.size = cap ∧ cur8.toList.take rest.length = rest.map chV ∧ Same (fun k => k = cb) W7 W8 := by
  obtain ⟨hl, hr⟩ := h.own
  rcases hr with ⟨h0, _⟩ | ⟨g, cp, cur, hv, hb, hg, hn, hmx, hs, ht⟩
  · cases h0
  · cases hv
    simp only [List.length_cons, Nat.mul_one] at hn hs ht hl
    have htl : cur.toList.take (rest.length + 1) = chV c :: rest.map chV := by simpa using ht
    by_cases h0 : rest = []
    · subst h0
      refine ⟨W7, cur, fun sc => ⟨fun _ => ?_, fun _ => ?_⟩, hg, hs, by simp, Same.refl _ _⟩
      · exact run_copy_none (P := Tryd.prog) W7 87 87 3 24 _ _ 0 _ 0 _ Tryd.underlying87 size24 rfl
      · exact run_copy_none (P := Tryd.prog) W7 87 87 3 24 _ _ 0 _ 0 _ Tryd.underlying87 size24 rfl
    · have hp : 0 < rest.length := List.length_pos_iff.2 h0
      have hcs : ∀ j v, (rest.map chV)[j]? = some v → W7.cell? ((⟨cb, 1, none⟩ : Addr).add j) = some v := by
        intro j v hv
        have hj : j < rest.length := by
          have := (List.getElem?_eq_some_iff.1 hv).1
          simpa using this
        have := h.own.cells (g := cb) rfl (j + 1) v (by simpa using hv)
        rw [Addr.add_lit] at this ⊢
        rw [← this]
        congr 2
        omega
      have hrun := fun sc => run_copy_row Tryd.prog W7 87 87 3 24 cb 0 rest.length cap ⟨cb, 1, none⟩ rest.length sc cur 24 (rest.map chV) Tryd.underlying87 size24 hg (by simp) hcs (by simp; omega) (fun v hv => by
        simp only [List.mem_map] at hv
        obtain ⟨x, _, rfl⟩ := hv
        rfl)
      have e : (List.take 0 cur.toList ++ rest.map chV ++ List.drop (0 + (rest.map chV).length) cur.toList).toArray = (rest.map chV ++ cur.toList.drop rest.length).toArray := by simp
      rw [e] at hrun
      refine ⟨W7.setRow cb (rest.map chV ++ cur.toList.drop rest.length).toArray, (rest.map chV ++ cur.toList.drop rest.length).toArray, fun sc => ⟨fun e => by omega, fun _ => ?_⟩, setRow_heap W7 cb cur _ 24 _ hg, ?_, ?_, ⟨rfl, rfl, rfl, by simp [World.setRow], fun k _ hk => setRow_other W7 cb k _ hk⟩⟩
      · rw [hrun sc]
        simp [goInt]
      · simp
        omega
      · simp

theorem read_moved {B z pb : Nat} {w W5 W8 : World} {c : Ch} {rest : List Ch} {cb cap r m wv : Nat} {Q : List UInt8} {ex : Int} {cur8 : Array Value} (h : DB B z w (c :: rest) (.slice (some ⟨cb, 0, none⟩) (rest.length + 1) cap) r wv Q ex)
    (hM : Mid B z pb w W5 c rest (.slice (some ⟨cb, 0, none⟩) (rest.length + 1) cap) r m wv Q ex) (hF : ¬ Foot z (.slice (some ⟨cb, 0, none⟩) (rest.length + 1) cap) (c :: rest) pb)
    (hm : m ≤ avail c.2 (rest.map (·.2)) r wv) (heq : r + m = c.2.length) (hB8 : Blk W8 cb cur8 24) (hs : cur8.size = cap) (ht : cur8.toList.take rest.length = rest.map chV) (hS8 : Same (fun k => k = cb) W5 W8) (hcap : rest.length + 1 ≤ cap) (hcm : cap ≤ 9223372036854775807) :
    DB B z (((W8.setCell ⟨cb, rest.length, none⟩ (.slice none 0 0)).setCell ⟨z, 0, none⟩ (.slice (some ⟨cb, 0, none⟩) rest.length cap)).setCell ⟨z, 1, none⟩ (.int .i64 0)) rest (.slice (some ⟨cb, 0, none⟩) rest.length cap) 0 wv (Q.drop m) ex ∧
      Same (fun k => k = z ∨ k = cb) W5 (((W8.setCell ⟨cb, rest.length, none⟩ (.slice none 0 0)).setCell ⟨z, 0, none⟩ (.slice (some ⟨cb, 0, none⟩) rest.length cap)).setCell ⟨z, 1, none⟩ (.int .i64 0)) ∧ pb ≠ z ∧ pb ≠ cb := by
  have hzB := h.zB
  have hcb : B ≤ cb := (h.cs.own.lt cb rfl).1
  have hzc : ¬ z = cb := by omega
  have hq := h.hq
  have hok0 : OkB (c.2 :: rest.map (·.2)) r wv := h.ok
  have hc := cont_head hok0 hm
  have h2 := hc.2.1
  rw [List.map_cons] at hq
  rw [hq] at hc h2
  obtain ⟨hok, hcont⟩ := hc.2.2.2 heq
  have s9 : Same (fun k => k = z ∨ k = cb) W5 (((W8.setCell ⟨cb, rest.length, none⟩ (.slice none 0 0)).setCell ⟨z, 0, none⟩ (.slice (some ⟨cb, 0, none⟩) rest.length cap)).setCell ⟨z, 1, none⟩ (.int .i64 0)) :=
    (((hS8.mono (fun k _ e => .inr e)).setCell (p := ⟨cb, rest.length, none⟩) (fun _ => .inr rfl) _).setCell (p := ⟨z, 0, none⟩) (fun _ => .inl rfl) _).setCell (p := ⟨z, 1, none⟩) (fun _ => .inl rfl) _
  have hbc : Blk (((W8.setCell ⟨cb, rest.length, none⟩ (.slice none 0 0)).setCell ⟨z, 0, none⟩ (.slice (some ⟨cb, 0, none⟩) rest.length cap)).setCell ⟨z, 1, none⟩ (.int .i64 0)) cb (cur8.setIfInBounds rest.length (.slice none 0 0)) 24 :=
    ((hB8.set rest.length _).other' (fun e => hzc e.symm)).other' (fun e => hzc e.symm)
  have hnd := h.cs.nd
  rw [List.map_cons, List.nodup_cons] at hnd
  refine ⟨⟨hzB, ?_, ⟨⟨by simp, .inr ⟨cb, cap, _, rfl, hcb, hbc, by omega, by unfold maxLen; omega, by simp [hs], ?_⟩⟩, fun x hx => ?_, hnd.2⟩, ?_, hok, h.exb, hcont, by have := h.bd; simp; omega⟩, s9, fun e => hF (.inl e), fun e => hF (.inr (.inl (by rw [e]; rfl)))⟩
  · exact Nat.le_trans h.hB (Nat.le_trans hM.same.size s9.size)
  · rw [← ht]
    simp only [Array.toList_setIfInBounds, Nat.mul_one, List.take_set]
    exact List.set_eq_of_length_le (by simp; omega)
  · obtain ⟨a1, a2, a3⟩ := hM.cs.blk x (List.mem_cons_of_mem _ hx)
    refine ⟨a1, a2, a3.same s9 (fun e => ?_)⟩
    rcases e with e | e
    · omega
    · exact a2 (by rw [e]; rfl)
  · have e1 : ((Q.drop m).length : Int) = (Q.length : Int) - m := by simp; omega
    rw [e1]
    have hb := (((hM.zb.same hS8 hzc).other' (g := cb) (o := rest.length) (u := .slice none 0 0) hzc).set' (o := 0) (u := .slice (some ⟨cb, 0, none⟩) rest.length cap) rfl).set' (o := 1) (u := .int .i64 0) rfl
    simpa using hb

theorem read_splice {dst q Q c : List UInt8} {j m o r : Nat} (hd1 : (c.drop r).take m = Q.take m) (hQ : q.drop j = Q) (hpo : o = j) (h1 : (q.take j).length + (Q.take m).length ≤ dst.length) (hj : j ≤ q.length) :
    splice (splice dst 0 (q.take j)) o ((c.drop r).take m) = splice dst 0 (q.take (j + m)) := by
  have hlj : (q.take j).length = j := by simp; omega
  rw [hpo, hd1, ← hQ, List.take_add]
  rw [← hQ] at h1
  have := splice_splice dst (q.take j) ((q.drop j).take m) h1
  rw [hlj] at this
  exact this

def RdRel (B z : Nat) (w : World) (F0 : Nat → Prop) (pb : Nat) (dst q : List UInt8) (k : Nat) (v t : Value) (wr : World) : Prop :=
  ∃ (j : Nat) (chs : List Ch) (sv : Value) (r wv : Nat) (ex : Int) (o cp : Nat), k + j = dst.length ∧ j ≤ dst.length ∧ j ≤ q.length ∧ t = .int .i64 j ∧ v = .slice (some ⟨pb, o, none⟩) (dst.length - j) cp ∧ dst.length - j ≤ cp ∧ cp ≤ 9223372036854775807 ∧ (j < dst.length → o = j) ∧
    DB B z wr chs sv r wv (q.drop j) ex ∧ Same (fun k => F0 k ∨ k = pb) w wr ∧ (∀ k, Foot z sv chs k → F0 k) ∧ Blk wr pb (U8 (splice dst 0 (q.take j))).toArray 5
def ReadPost (B z : Nat) (w : World) (F0 : Nat → Prop) (pb : Nat) (dst q : List UInt8) (e : Ending) (w' : World) : Prop :=
  ∃ m, m = Nat.min dst.length q.length ∧ e = .returned (.tuple #[.int .i64 m, .nilIface]) ∧ ∃ chs sv r wv ex, DB B z w' chs sv r wv (q.drop m) ex ∧ Same (fun k => F0 k ∨ k = pb) w w' ∧ (∀ k, Foot z sv chs k → F0 k) ∧ Blk w' pb (U8 (splice dst 0 (q.take m))).toArray 5

theorem read_some (B z : Nat) (w : World) (chs : List Ch) (sv : Value) (r wv : Nat) (q : List UInt8) (ex : Int) (h : DB B z w chs sv r wv q ex) (pb cp : Nat) (dst : List UInt8) (hcp : dst.length ≤ cp) (hcp' : cp ≤ 9223372036854775807)
    (hF : ¬ Foot z sv chs pb) (hB : Blk w pb (U8 dst).toArray 5) (hn : dst.length ≤ 100000) (hq : 0 < q.length) :
    Calls Tryd.prog 47 #[.pointer (some ⟨z, 0, none⟩), .slice (some ⟨pb, 0, none⟩) dst.length cp] w (ReadPost B z w (Foot z sv chs) pb dst q) := by
  have H := Lib.hid h
  have HB := Lib.hid hB
  have hqb := h.bd
  obtain ⟨z0, z1, z2, z3, z4⟩ := h.z0
  have hq0 : ((q.length : Int) == 0) = false := beq_eq_false_iff_ne.2 (by omega)
  clear h hB
  go_enter Tryd.func47, Tryd.ntmps47
  go_wp2
  go_loopg [1, 6] dst.length (fun k v t wr => RdRel B z w (Foot z sv chs) pb dst q k v t wr)
  case atStart => exact ⟨0, chs, sv, r, wv, ex, 0, cp, rfl, Nat.zero_le _, Nat.zero_le _, rfl, rfl, hcp, hcp', fun _ => rfl, by simpa using H.out, Same.refl _ _, fun k hk => hk, by simpa [splice_zero] using HB.out⟩
  case round =>
    obtain ⟨j, chs1, sv1, r1, wv1, ex1, o, cp1, hk, hjl, hjq, rfl, rfl, hc1, hc2, ho, hD, hS, hf, hPb⟩ := hrel
    obtain ⟨Q, hQ⟩ : ∃ Q, q.drop j = Q := ⟨_, rfl⟩
    have hQl : Q.length = q.length - j := by rw [← hQ]; simp
    rw [hQ] at hD
    obtain ⟨y0, y1, y2, y3, y4⟩ := hD.z0
    obtain ⟨N, hNe⟩ : ∃ N, dst.length - j = N := ⟨_, rfl⟩
    rw [hNe] at hc1 ⊢
    have hNl : N ≤ 100000 := by omega
    have hQb : Q.length ≤ 1048576 := by omega
    have A := Lib.hid (And.intro hk (And.intro ho (And.intro hS (And.intro hf (And.intro hPb (And.intro hQ (And.intro hQl hNe)))))))
    by_cases hj : 0 < N ∧ 0 < Q.length
    · obtain ⟨hj1, hj2⟩ := hj
      have hj1' : (0 : Int) < (N : Int) := by omega
      have hj2' : (0 : Int) < (Q.length : Int) := by omega
      obtain ⟨c, rest, rfl⟩ : ∃ c rest, chs1 = c :: rest := by
        obtain ⟨b, rs, e⟩ := cont_nil (bs := chs1.map (·.2)) (r := r1) (wv := wv1) (by rw [hD.hq]; exact hj2)
        cases chs1 with
        | nil => simp at e
        | cons c rest => exact ⟨c, rest, rfl⟩
      obtain ⟨cb, cap, rfl, hn1, hcap1, hcell⟩ := hD.cs.form
      have c0 : wr.cell? ⟨cb, 0, none⟩ = some (.slice (some ⟨c.1, 0, none⟩) c.2.length c.2.length) := hcell 0 c rfl
      have hok0 : OkB (c.2 :: rest.map (·.2)) r1 wv1 := hD.ok
      have hq1 : cont (c.2 :: rest.map (·.2)) r1 wv1 = Q := hD.hq
      have hav := avail_pos hok0 (by rw [hq1]; exact hj2)
      have hSz := hok0.sz c.2 (by simp)
      have hLp := hSz.pos
      obtain ⟨m, hm, m1, m2, m3⟩ : ∃ m, m = Nat.min (avail c.2 (rest.map (·.2)) r1 wv1) N ∧ 1 ≤ m ∧ m ≤ N ∧ m ≤ avail c.2 (rest.map (·.2)) r1 wv1 := ⟨_, rfl, by simp only [Nat.min_def]; split <;> omega, by simp only [Nat.min_def]; split <;> omega, by simp only [Nat.min_def]; split <;> omega⟩
      have hch := cont_head hok0 m3
      rw [hq1] at hch
      obtain ⟨hd1, hd2, -, -⟩ := hch
      have hrl := hok0.hd c.2 _ rfl
      have hrm : r1 + m ≤ c.2.length := by
        have h1 := hok0.lst
        unfold avail at m3
        split at m3
        · rename_i e
          have := hok0.lst [] c.2 (by rw [e]; rfl)
          omega
        · omega
      have hcb := hD.cs.blk c (List.mem_cons_self ..)
      have hFp : ¬ Foot z (.slice (some ⟨cb, 0, none⟩) (rest.length + 1) cap) (c :: rest) pb := fun e => hF (hf pb e)
      have hdl : ((c.2.drop r1).take m).length = m := by simp; omega
      have hsrc : ∀ kk i, i < ((c.2.drop r1).take m).length → (wr.drewN kk).cell? ((⟨c.1, r1, none⟩ : Addr).add i) = some (.int .u8 ((((c.2.drop r1).take m).getD i 0).toNat : Int)) := by
        intro kk i hi
        rw [Addr.add_lit]
        have h1 := (hcb.2.2.drewN kk).cell (r1 + i)
        rw [h1]
        have h2 := U8.get c.2 (r1 + i) (by omega)
        rw [hdl] at hi
        simp only [List.getElem?_toArray]
        rw [h2]
        simp [List.getD, List.getElem?_drop, hi]
      have hpo : o = j := ho (by omega)
      have hr1b : r1 ≤ 16384 := by omega
      have HD := Lib.hid hD
      have HO := Lib.hid (And.intro hSz (And.intro hd1 (And.intro hm (And.intro hFp (And.intro hdl (And.intro hsrc (And.intro hpo hPb)))))))
      clear hD hk ho hS hf hPb hQ hQl hNe hok0 hq1 hav hSz hd1 hm hFp hcb hdl hsrc hcell hpo z0 z1 z2 z3 z4 hq0 hLp
      go_wp2_with fail
      refine (first_bytes _ _ _ _ _ _ _ _ _ _ HD.out).mono ?_
      rintro e w1 ⟨cp2, kk, rfl, rfl⟩
      obtain ⟨hSz, hd1, hm, hFp, hdl, hsrc, hpo, hPb⟩ := HO.out
      obtain ⟨W3, hcp3, hB3, hS3⟩ := copy_bytes (w := wr.drewN kk) (g := pb) (o := o) (dLen := N) (dCap := cp1) (b := splice dst 0 (q.take j)) (sa := ⟨c.1, r1, none⟩) (sLen := avail c.2 (rest.map (·.2)) r1 wv1) (sCap := cp2) (d := (c.2.drop r1).take m) (hPb.drewN kk) (by rw [hdl]; exact hm)
        (by have hNe := A.out.2.2.2.2.2.2.2; rw [hdl, length_splice _ _ _ (by simp; omega)]; omega) (hsrc kk)
      rw [hdl] at hcp3
      have hS3' : Same (fun k => k = pb) wr W3 := ((Same.refl _ wr).drewN kk).trans hS3 (fun _ _ h => h)
      have hMid := read_mid (m := m) HD.out hS3' hFp
      have hz : ¬ z = pb := fun e => hFp (.inl e.symm)
      have hb3 := HD.out.zb.same hS3' hz
      have x1 : W3.cell? ⟨z, 1, none⟩ = some (.int .i64 r1) := hb3.cell 1
      have x3 : W3.cell? ⟨z, 3, none⟩ = some (.int .i64 Q.length) := hb3.cell 3
      have g1 : W3.frozen? ⟨z, 1, none⟩ = false := hb3.free 1
      have g3 : W3.frozen? ⟨z, 3, none⟩ = false := hb3.free 3
      have HM := Lib.hid (And.intro hMid (And.intro hB3 hS3'))
      clear hSz hd1 hm hFp hdl hsrc hpo hPb hB3 hS3 hS3' hMid hb3
      go_wp2_with fail
      all_goals
        obtain ⟨hMid, hB3, hS3'⟩ := HM.out
        obtain ⟨W5, hW5⟩ : ∃ W5, W5 = ((W3.setCell ⟨z, 1, none⟩ (.int .i64 ((r1 : Int) + m))).setCell ⟨z, 3, none⟩ (.int .i64 ((Q.length : Int) - m))) := ⟨_, rfl⟩
        have hB5 : Blk W5 pb (U8 (splice (splice dst 0 (q.take j)) o ((c.2.drop r1).take m))).toArray 5 := by
          rw [hW5]
          exact (hB3.other' (fun e => hz e.symm)).other' (fun e => hz e.symm)
        rw [← hW5] at hMid ⊢
        obtain ⟨v1, v3⟩ : W5.cell? ⟨z, 0, none⟩ = some (.slice (some ⟨cb, 0, none⟩) (rest.length + 1) cap) ∧ W5.cell? ⟨z, 1, none⟩ = some (.int .i64 ((r1 : Int) + m)) := ⟨hMid.zb.cell 0, hMid.zb.cell 1⟩
        have v0 : W5.cell? ⟨cb, 0, none⟩ = some (.slice (some ⟨c.1, 0, none⟩) c.2.length c.2.length) := by
          obtain ⟨cb', cap', e, _, _, h4⟩ := hMid.cs.form
          cases e
          exact h4 0 c rfl
        have HM5 := Lib.hid (And.intro hMid hB5)
        clear hMid hB3 hS3' hW5 hB5 x1 x3 g1 g3
        go_quiet (fail)
        have v1' : (W5.drewN nq).cell? ⟨z, 0, none⟩ = some (.slice (some ⟨cb, 0, none⟩) (rest.length + 1) cap) := v1
        have v0' : (W5.drewN nq).cell? ⟨cb, 0, none⟩ = some (.slice (some ⟨c.1, 0, none⟩) c.2.length c.2.length) := v0
        have HM7 := Lib.hid (And.intro (HM5.out.1.drewN nq) (HM5.out.2.drewN nq))
        clear v0 v1 v3 HM5 HM
        generalize W5.drewN nq = W7 at *
        by_cases heq : r1 + m = c.2.length
        · have hcmp : (((r1 : Int) + m) == (c.2.length : Int)) = true := beq_iff_eq.2 (by omega)
          have hSz : Sz c.2.length := HD.out.ok.sz c.2 (by simp)
          have HSz := Lib.hid hSz
          have hcap0 : ¬ cap = 0 := by omega
          have hzc : ¬ z = cb := by have := HD.out.zB; have := (HD.out.cs.own.lt cb rfl).1; omega
          have hzc' : ¬ cb = z := fun e => hzc e.symm
          have h0R : (0 : Int) ≤ (rest.length : Int) := by omega
          have hRc : (rest.length : Int) ≤ (cap : Int) := by omega
          have hRc' : rest.length ≤ cap := by omega
          have h1R : (1 : Int) ≤ (rest.length : Int) + 1 := by omega
          clear hSz
          go_wp2_with fail
          refine (put_chunk _ _ _ _ HSz.out).mono ?_
          rintro e w' ⟨rfl, rfl⟩
          go_wp2_with fail
          obtain ⟨Wd, hWd⟩ : ∃ Wd, W7.drew = Wd := ⟨_, rfl⟩
          have hMd := HM7.out.1.drew
          have hBd := HM7.out.2.drew
          rw [hWd] at hMd hBd
          have d1 : Wd.cell? ⟨z, 0, none⟩ = some (.slice (some ⟨cb, 0, none⟩) (rest.length + 1) cap) := hMd.zb.cell 0
          obtain ⟨W8, cur8, hcp8, hB8, hs8, ht8, hS8⟩ := move_up hMd.cs
          have hz8 := hMd.zb.same hS8 hzc
          obtain ⟨u8', e8⟩ : ∃ u, W8.cell? ⟨cb, rest.length, none⟩ = some u := by
            rw [hB8.cell]
            exact ⟨_, Array.getElem?_eq_getElem (by omega)⟩
          have f8 : W8.frozen? ⟨cb, rest.length, none⟩ = false := hB8.free _
          have e80 : W8.cell? ⟨z, 0, none⟩ = some (.slice (some ⟨cb, 0, none⟩) (rest.length + 1) cap) := hz8.cell 0
          have e81 : W8.cell? ⟨z, 1, none⟩ = some (.int .i64 ((r1 : Int) + m)) := hz8.cell 1
          have f80 : W8.frozen? ⟨z, 0, none⟩ = false := hz8.free 0
          have f81 : W8.frozen? ⟨z, 1, none⟩ = false := hz8.free 1
          have hmv := read_moved HD.out hMd HO.out.2.2.2.1 m3 heq hB8 hs8 ht8 hS8 hn1 hcap1
          have HMV := Lib.hid (And.intro hmv (And.intro hMd.same hBd))
          refine still_tail 11 Wd hWd (by kernel_rfl) (by kernel_rfl) ?_
          clear hmv hMd hBd hB8 hs8 ht8 hS8 hz8 hWd HM7
          simp only [List.take_succ_cons, List.take_zero, List.drop_succ_cons, List.drop_zero]
          by_cases hcap1' : cap = 1
          · have hcp8' := fun sc => (hcp8 sc).1 hcap1'
            have hR0 : rest = [] := List.eq_nil_of_length_eq_zero (by omega)
            subst hR0
            subst hcap1'
            simp only [List.length_nil, Int.natCast_zero, Nat.zero_add] at hcp8' d1 e8 f8 e80
            clear hcp8 h0R hRc hRc' h1R hn1 hcap1 hcap0
            repeat still_step
            refine wpStill_nil ?_
            go_wp2_with fail
            go_roundg (gk - m)
            case measure => have := A.out.1; have := A.out.2.2.2.2.2.2.2; omega
            case rel =>
              obtain ⟨hk, ho, hS, hf, hPb, hQ, hQl, hNe⟩ := A.out
              obtain ⟨hSz, hd1, hm, hFp, hdl, hsrc, hpo, hPb0⟩ := HO.out
              obtain ⟨⟨hD9, hS9, hp1, hp2⟩, hSM, hB5⟩ := HMV.out
              have hB9 := hB5.same hS9 (fun e => by rcases e with e | e; exact hp1 e; exact hp2 e)
              have e1 : Q.drop m = q.drop (j + m) := by rw [← hQ, List.drop_drop]
              have e2 : splice (splice dst 0 (q.take j)) o ((c.2.drop r1).take m) = splice dst 0 (q.take (j + m)) := read_splice hd1 hQ hpo (by simp; omega) (by omega)
              rw [e2] at hB9
              rw [e1] at hD9
              refine ⟨j + m, [], _, 0, wv1, ex1, _, _, by omega, by omega, by omega, by simp, by rw [show dst.length - (j + m) = N - m by omega], by omega, by omega, fun h => by omega, hD9, (hS.trans hSM (fun k _ e => ?_)).trans hS9 (fun k _ e => ?_), fun k e => ?_, hB9⟩
              · rcases e with e | e
                · exact .inl (e ▸ hf z (.inl rfl))
                · exact .inr e
              · rcases e with e | e
                · exact .inl (e ▸ hf z (.inl rfl))
                · exact .inl (e ▸ hf cb (.inr (.inl rfl)))
              · rcases e with e | e | ⟨x, hx, e⟩
                · exact hf k (.inl e)
                · exact hf k (.inr (.inl e))
                · exact hf k (.inr (.inr ⟨x, List.mem_cons_of_mem _ hx, e⟩))
          · have hcp8' := fun sc => (hcp8 sc).2 hcap1'
            clear hcp8
            repeat still_step
            refine wpStill_nil ?_
            go_wp2_with fail
            go_roundg (gk - m)
            case measure => have := A.out.1; have := A.out.2.2.2.2.2.2.2; omega
            case rel =>
              obtain ⟨hk, ho, hS, hf, hPb, hQ, hQl, hNe⟩ := A.out
              obtain ⟨hSz, hd1, hm, hFp, hdl, hsrc, hpo, hPb0⟩ := HO.out
              obtain ⟨⟨hD9, hS9, hp1, hp2⟩, hSM, hB5⟩ := HMV.out
              have hB9 := hB5.same hS9 (fun e => by rcases e with e | e; exact hp1 e; exact hp2 e)
              have e1 : Q.drop m = q.drop (j + m) := by rw [← hQ, List.drop_drop]
              have e2 : splice (splice dst 0 (q.take j)) o ((c.2.drop r1).take m) = splice dst 0 (q.take (j + m)) := read_splice hd1 hQ hpo (by simp; omega) (by omega)
              rw [e2] at hB9
              rw [e1] at hD9
              refine ⟨j + m, rest, _, 0, wv1, ex1, _, _, by omega, by omega, by omega, by simp, by rw [show dst.length - (j + m) = N - m by omega], by omega, by omega, fun h => by omega, hD9, (hS.trans hSM (fun k _ e => ?_)).trans hS9 (fun k _ e => ?_), fun k e => ?_, hB9⟩
              · rcases e with e | e
                · exact .inl (e ▸ hf z (.inl rfl))
                · exact .inr e
              · rcases e with e | e
                · exact .inl (e ▸ hf z (.inl rfl))
                · exact .inl (e ▸ hf cb (.inr (.inl rfl)))
              · rcases e with e | e | ⟨x, hx, e⟩
                · exact hf k (.inl e)
                · exact hf k (.inr (.inl e))
                · exact hf k (.inr (.inr ⟨x, List.mem_cons_of_mem _ hx, e⟩))
        · have hcmp : (((r1 : Int) + m) == (c.2.length : Int)) = false := beq_eq_false_iff_ne.2 (by omega)
          go_wp2_with fail
          go_roundg (gk - m)
          case measure => have := A.out.1; have := A.out.2.2.2.2.2.2.2; omega
          case rel =>
            obtain ⟨hk, ho, hS, hf, hPb, hQ, hQl, hNe⟩ := A.out
            obtain ⟨hSz, hd1, hm, hFp, hdl, hsrc, hpo, hPb0⟩ := HO.out
            have hD5 := read_keep HD.out HM7.out.1 m3 (by omega)
            have e1 : Q.drop m = q.drop (j + m) := by rw [← hQ, List.drop_drop]
            have hB5 := HM7.out.2
            have e2 : splice (splice dst 0 (q.take j)) o ((c.2.drop r1).take m) = splice dst 0 (q.take (j + m)) := read_splice hd1 hQ hpo (by simp; omega) (by omega)
            rw [e2] at hB5
            rw [e1] at hD5
            refine ⟨j + m, c :: rest, _, r1 + m, wv1, ex1, _, _, by omega, by omega, by omega, by simp, by rw [show dst.length - (j + m) = N - m by omega], by omega, by omega, fun h => by omega, hD5, hS.trans HM7.out.1.same (fun k _ e => ?_), hf, hB5⟩
            rcases e with e | e
            · exact .inl (e ▸ hf z (.inl rfl))
            · exact .inr e
    · by_cases hj1 : 0 < N
      · have hQ0 : Q.length = 0 := by omega
        have hj1' : (0 : Int) < (N : Int) := by omega
        have hj2' : decide ((0 : Int) < (Q.length : Int)) = false := decide_eq_false (by omega)
        have hje : j = Nat.min dst.length q.length := by
          have := A.out.2.2.2.2.2.2.2
          simp only [Nat.min_def]
          split <;> omega
        have HR := Lib.hid (And.intro hje (And.intro hD (And.intro hS (And.intro hf (And.intro hPb hQ)))))
        clear hk ho hS hf hPb hQ hD hje hNe hQl z0 z1 z2 z3 z4 hq0
        go_wp2
        go_ret2
        obtain ⟨hje, hD, hS, hf, hPb, hQ⟩ := HR.out
        rw [← hQ] at hD
        exact ⟨j, hje, rfl, chs1, sv1, r1, wv1, ex1, hD, hS, hf, hPb⟩
      · have hN0 : N = 0 := by omega
        have hje : j = Nat.min dst.length q.length := by
          have := A.out.2.2.2.2.2.2.2
          simp only [Nat.min_def]
          split <;> omega
        have HR := Lib.hid (And.intro hje (And.intro hD (And.intro hS (And.intro hf (And.intro hPb hQ)))))
        clear hk ho hS hf hPb hQ hD hje hNe hQl z0 z1 z2 z3 z4 hq0 A
        subst hN0
        go_wp2
        go_ret2
        obtain ⟨hje, hD, hS, hf, hPb, hQ⟩ := HR.out
        rw [← hQ] at hD
        exact ⟨j, hje, rfl, chs1, sv1, r1, wv1, ex1, hD, hS, hf, hPb⟩
end Go.Proofs.YtalpilbpgkijlaaDoor
