/- impl.Buffer's closure at a write and at a read (the walks). Condition: at most 1,048,576 bytes; the package's error lies in its variable. -/
import Derived.Test.YtalpilbpgkijlaaDoorBufStep
namespace Go.Proofs.YtalpilbpgkijlaaDoor
open Go.RowKit
set_option maxRecDepth 100000
set_option maxHeartbeats 2000000

theorem DB.far {B z b : Nat} {w : World} {chs : List Ch} {sv : Value} {r wv : Nat} {q : List UInt8} {ex : Int} (h : DB B z w chs sv r wv q ex) (hb : b < B) (hz : b ≠ z) : ¬ Foot z sv chs b := by
  rintro (e | e | ⟨c, hc, e⟩)
  · exact hz e
  · have := (h.cs.own.lt b e).1; omega
  · have := (h.cs.blk c hc).1; omega

theorem balloc (w : World) (o : Obj) : (w.alloc o).heap.size = w.heap.size + 1 := by simp
/-- What a step leaves of the data buffer. -/
def BStep (B z : Nat) (w : World) (chs : List Ch) (sv : Value) (q' : List UInt8) (w' : World) : Prop :=
  ∃ chs' sv' r' wv' ex', DB B z w' chs' sv' r' wv' q' ex' ∧ Same (Foot z sv chs) w w' ∧ (∀ k, Foot z sv' chs' k → Foot z sv chs k ∨ w.heap.size ≤ k)

def BwPost (B z : Nat) (w : World) (chs : List Ch) (sv : Value) (q l : List UInt8) (e : Ending) (w' : World) : Prop := e = .returned (ResV.plain l.length true false).agg ∧ BStep B z w chs sv (q ++ l) w'

theorem clos_bwrite (B bv z : Nat) (w : World) (chs : List Ch) (sv : Value) (r wv : Nat) (q : List UInt8) (ex : Int) (h : DB B z w chs sv r wv q ex) (hb : Blk w bv #[.pointer (some ⟨z, 0, none⟩)] 62) (_hbB : bv < B) (_hbz : bv ≠ z)
    (which n : Int) (ad : Option Addr) (ln cp : Nat) (l : List UInt8) (hl : BytesAt (fun k => ¬ Foot z sv chs k) w ad ln cp l) (hbd : q.length + l.length ≤ 1048576) :
    Calls Tryd.prog 28 #[.agg #[.int .i64 0, .int .i64 which, .int .i64 n, .slice ad ln cp], .pointer (some ⟨bv, 0, none⟩)] w (BwPost B z w chs sv q l) := by
  have b0 : w.cell? ⟨bv, 0, none⟩ = some (.pointer (some ⟨z, 0, none⟩)) := hb.cell 0
  have hlb := hb.lt
  have nb0 : ¬ bv = w.heap.size := by omega
  have nb1 : ¬ bv = w.heap.size + 1 := by omega
  have HC := Lib.hid (And.intro h hl)
  have hlen : l.length ≤ 1048576 := by omega
  clear h hl hb
  go_enter Tryd.func28, Tryd.ntmps28
  go_wp2_with fail
  obtain ⟨W2, hW2⟩ : ∃ W2, W2 = ((w.alloc (.cells #[.int .i64 0, .int .i64 which, .int .i64 n, .slice ad ln cp] 26)).alloc (.cells #[.int .i64 0, .bool false, .slice none 0 0, .bool false] 32)) := ⟨_, rfl⟩
  have hs2 : Same (fun _ => False) w W2 := by rw [hW2]; exact ((Same.refl _ _).alloc _).alloc _
  have hz2 : W2.heap.size = w.heap.size + 2 := by rw [hW2]; simp
  have hr2 : Blk W2 (w.heap.size + 1) #[.int .i64 0, .bool false, .slice none 0 0, .bool false] 32 := by
    rw [hW2]
    have := Blk.new (w.alloc (.cells #[.int .i64 0, .int .i64 which, .int .i64 n, .slice ad ln cp] 26)) #[.int .i64 0, .bool false, .slice none 0 0, .bool false] 32
    rw [balloc] at this
    exact this
  rw [← hW2]
  have hD2 : DB B z W2 chs sv r wv q ex := HC.out.1.same hs2 (fun _ _ h => h)
  have hl2 : BytesAt (fun k => ¬ Foot z sv chs k) W2 ad ln cp l := HC.out.2.same hs2 (fun k _ h => ⟨fun h => h, h⟩)
  refine (zwrite_any B z W2 chs sv r wv q ex hD2 ad ln cp l hl2 hbd).mono ?_
  rintro e w' ⟨rfl, chs', sv', r', wv', ex', hD', hS', hf'⟩
  have hnf : ¬ Foot z sv chs (w.heap.size + 1) := fun e => by have := HC.out.1.lt _ e; omega
  have hr' := hr2.same hS' hnf
  have k0 : w'.cell? ⟨w.heap.size + 1, 0, none⟩ = some (.int .i64 0) := hr'.cell 0
  have k1 : w'.cell? ⟨w.heap.size + 1, 1, none⟩ = some (.bool false) := hr'.cell 1
  have k2 : w'.cell? ⟨w.heap.size + 1, 2, none⟩ = some (.slice none 0 0) := hr'.cell 2
  have k3 : w'.cell? ⟨w.heap.size + 1, 3, none⟩ = some (.bool false) := hr'.cell 3
  have f0 : w'.frozen? ⟨w.heap.size + 1, 0, none⟩ = false := hr'.free 0
  have f1 : w'.frozen? ⟨w.heap.size + 1, 1, none⟩ = false := hr'.free 1
  have f2 : w'.frozen? ⟨w.heap.size + 1, 2, none⟩ = false := hr'.free 2
  have f3 : w'.frozen? ⟨w.heap.size + 1, 3, none⟩ = false := hr'.free 3
  have hnf' : ∀ k, Foot z sv' chs' k → ¬ k = w.heap.size + 1 := fun k hk e => by
    subst e
    rcases hf' _ hk with h | h
    · exact hnf h
    · omega
  have HP := Lib.hid (And.intro hD' (And.intro hS' (And.intro hf' (And.intro hs2 (And.intro hz2 hnf')))))
  clear hD' hS' hf' hs2 hz2 hnf' hnf hr' hr2 hD2 hl2 hW2
  go_wp2_with fail
  refine bodyPost_ret (v := (ResV.plain l.length true false).agg) (by simp [results, Tryd.results28, go_sem, ResV.plain, ResV.agg, k0, k1, k2, k3]) rfl ?_
  obtain ⟨hD', hS', hf', hs2, hz2, hnf'⟩ := HP.out
  have s3 : ∀ v0 v1 v2 v3, Same (fun k => k = w.heap.size + 1) w' ((((w'.setCell ⟨w.heap.size + 1, 0, none⟩ v0).setCell ⟨w.heap.size + 1, 1, none⟩ v1).setCell ⟨w.heap.size + 1, 2, none⟩ v2).setCell ⟨w.heap.size + 1, 3, none⟩ v3) := fun v0 v1 v2 v3 =>
    ((((Same.refl (fun k => k = w.heap.size + 1) w').setCell (p := ⟨w.heap.size + 1, 0, none⟩) (fun _ => rfl) _).setCell (p := ⟨w.heap.size + 1, 1, none⟩) (fun _ => rfl) _).setCell (p := ⟨w.heap.size + 1, 2, none⟩) (fun _ => rfl) _).setCell (p := ⟨w.heap.size + 1, 3, none⟩) (fun _ => rfl) _
  refine ⟨rfl, chs', sv', r', wv', ex', hD'.same (s3 _ _ _ _) hnf', ((hs2.mono (G := Foot z sv chs) (fun _ _ h => h.elim)).trans hS' (fun _ _ h => h)).trans (s3 _ _ _ _) (fun k hk e => by omega), fun k hk => ?_⟩
  rcases hf' k hk with h | h
  · exact .inl h
  · exact .inr (by omega)

/-- How many bytes a read asks for. -/
def Lim (n : Int) (k : Nat) : Prop := (n ≤ 0 ∧ k = 0) ∨ (0 < n ∧ n ≤ 100000 ∧ n = (k : Int)) ∨ (100000 < n ∧ k = 100000)
def BrPost (B z : Nat) (w : World) (chs : List Ch) (sv : Value) (q : List UInt8) (k : Nat) (e : Ending) (w' : World) : Prop :=
  e = .returned (ResV.agg ⟨((q.drop (Nat.min k q.length)).length : Int), decide (0 < q.length), some ⟨w.heap.size + 2, 0, none⟩, Nat.min k q.length, k, false⟩) ∧ (∃ chs' sv' r' wv' ex', DB B z w' chs' sv' r' wv' (q.drop (Nat.min k q.length)) ex' ∧ Same (Foot z sv chs) w w' ∧ (∀ k, Foot z sv' chs' k → Foot z sv chs k)) ∧
    BytesAt (fun b => b = w.heap.size + 2) w' (some ⟨w.heap.size + 2, 0, none⟩) (Nat.min k q.length) k (q.take (Nat.min k q.length))
theorem br_post {B z k m : Nat} {w W3 w' Wd W5 : World} {chs chs' : List Ch} {sv sv' : Value} {r' wv' : Nat} {q R : List UInt8} {ex' : Int} (hm : m = Nat.min k q.length) (hR : q.drop m = R) (hD : DB B z Wd chs' sv' r' wv' R ex') (hs3 : Same (fun _ => False) w W3) (_hz3 : W3.heap.size = w.heap.size + 3)
    (hS' : Same (fun k => Foot z sv chs k ∨ k = w.heap.size + 2) W3 w') (hSd : Same (fun _ => False) w' Wd) (hf' : ∀ k, Foot z sv' chs' k → Foot z sv chs k) (hlt : ∀ k, Foot z sv chs k → k < w.heap.size)
    (hP : Blk Wd (w.heap.size + 2) (U8 (splice (Zs k) 0 (q.take m))).toArray 5) (hk : k ≤ 100000) (h5 : Same (fun k => k = w.heap.size + 1) Wd W5) (b : Bool) (hb : decide (0 < q.length) = b) :
    BrPost B z w chs sv q k (.returned (ResV.agg ⟨(R.length : Int), b, some ⟨w.heap.size + 2, 0, none⟩, m, k, false⟩)) W5 := by
  have hmk : m ≤ k := by rw [hm]; exact Nat.min_le_left _ _
  have hmq : m ≤ q.length := by rw [hm]; exact Nat.min_le_right _ _
  unfold BrPost
  rw [← hm, hR, hb]
  refine ⟨rfl, ⟨chs', sv', r', wv', ex', hD.same h5 (fun k hk e => ?_), ?_, hf'⟩, by simp; omega, hmk, by unfold maxLen; omega, (fun e => by cases e), fun p hp i hi => ?_⟩
  · have := hlt k (hf' k hk)
    omega
  · refine (((hs3.mono (G := Foot z sv chs) (fun _ _ h => h.elim)).trans hS' (fun k hk e => ?_)).trans hSd (fun _ _ h => h.elim)).trans h5 (fun k hk e => by omega)
    rcases e with e | e
    · exact e
    · omega
  · obtain rfl := Option.some.inj hp
    refine ⟨rfl, rfl, ?_⟩
    have h1 := (hP.same h5 (by omega)).cell i
    simp only [Nat.zero_add]
    rw [h1]
    have hl : (q.take m).length = m := by simp; omega
    have h2 := U8.get (splice (Zs k) 0 (q.take m)) i (by rw [length_splice _ _ _ (by rw [hl, Zs.length]; omega), Zs.length]; omega)
    simp only [List.getElem?_toArray]
    rw [h2]
    congr 4
    unfold splice
    simp only [List.take_zero, List.nil_append, List.getD]
    rw [List.getElem?_append_left (by omega)]

theorem clos_bread (B bv z : Nat) (w : World) (chs : List Ch) (sv : Value) (r wv : Nat) (q : List UInt8) (ex : Int) (h : DB B z w chs sv r wv q ex) (hb : Blk w bv #[.pointer (some ⟨z, 0, none⟩)] 62) (hbB : bv < B) (hbz : bv ≠ z) (p : Addr)
    (hg : w.cell? ⟨0, 0, none⟩ = some (.iface 108 (.pointer (some p)))) (h0 : ¬ Foot z sv chs 0) (what which n : Int) (hx : what ≠ 0) (ad : Option Addr) (ln cp k : Nat) (hk : Lim n k) (hq : 0 < q.length) :
    Calls Tryd.prog 28 #[.agg #[.int .i64 what, .int .i64 which, .int .i64 n, .slice ad ln cp], .pointer (some ⟨bv, 0, none⟩)] w (BrPost B z w chs sv q k) := by
  have b0 : w.cell? ⟨bv, 0, none⟩ = some (.pointer (some ⟨z, 0, none⟩)) := hb.cell 0
  have hlb := hb.lt
  have hlz := h.zb.lt
  have nb0 : ¬ bv = w.heap.size := by omega
  have nb1 : ¬ bv = w.heap.size + 1 := by omega
  have b3 : ∀ o o' o'', (((w.alloc o).alloc o').alloc o'').cell? ⟨bv, 0, none⟩ = some (.pointer (some ⟨z, 0, none⟩)) := fun o o' o'' => (((hb.alloc o).alloc o').alloc o'').cell 0
  have hx0 : (what == 0) = false := beq_eq_false_iff_ne.2 hx
  have hk1 : k ≤ 100000 := by unfold Lim at hk; omega
  have hmk : ∀ W, (Instr.makeSlice 24 (.int .i64 (k : Int)) (.int .i64 (k : Int))).run Tryd.prog W = .ok (.slice (some ⟨W.heap.size, 0, none⟩) k k) (W.alloc (zrow k)) := mk_bytes k (by omega)
  have hm0 : ∀ W, (Instr.makeSlice 24 (.int .i64 0) (.int .i64 0)).run Tryd.prog W = .ok (.slice (some ⟨W.heap.size, 0, none⟩) 0 0) (W.alloc (zrow 0)) := mk_bytes 0 (by omega)
  have hm1 : ∀ W, (Instr.makeSlice 24 (.int .i64 100000) (.int .i64 100000)).run Tryd.prog W = .ok (.slice (some ⟨W.heap.size, 0, none⟩) 100000 100000) (W.alloc (zrow 100000)) := mk_bytes 100000 (by omega)
  have HC := Lib.hid (And.intro h (And.intro hb hg))
  clear h hb hg hx
  go_enter Tryd.func28, Tryd.ntmps28
  rcases hk with ⟨hn, rfl⟩ | ⟨hn, hn', rfl⟩ | ⟨hn, rfl⟩
  · go_wp2_with fail
    obtain ⟨W3, hW3⟩ : ∃ W3, W3 = (((w.alloc (.cells #[.int .i64 what, .int .i64 which, .int .i64 n, .slice ad ln cp] 26)).alloc (.cells #[.int .i64 0, .bool false, .slice none 0 0, .bool false] 32)).alloc (zrow 0)) := ⟨_, rfl⟩
    rw [← hW3]
    have hs3 : Same (fun _ => False) w W3 := by rw [hW3]; exact (((Same.refl _ _).alloc _).alloc _).alloc _
    have hz3 : W3.heap.size = w.heap.size + 3 := by rw [hW3, balloc, balloc, balloc]
    have hr3 : Blk W3 (w.heap.size + 1) #[.int .i64 0, .bool false, .slice none 0 0, .bool false] 32 := by
      rw [hW3]
      have := (Blk.new (w.alloc (.cells #[.int .i64 what, .int .i64 which, .int .i64 n, .slice ad ln cp] 26)) #[.int .i64 0, .bool false, .slice none 0 0, .bool false] 32).alloc (zrow 0)
      rw [balloc] at this
      exact this
    have hp3 : Blk W3 (w.heap.size + 2) (U8 (Zs 0)).toArray 5 := by
      rw [hW3]
      have := Blk.new ((w.alloc (.cells #[.int .i64 what, .int .i64 which, .int .i64 n, .slice ad ln cp] 26)).alloc (.cells #[.int .i64 0, .bool false, .slice none 0 0, .bool false] 32)) (U8 (Zs 0)).toArray 5
      rw [balloc, balloc] at this
      exact this
    have hD3 := HC.out.1.same hs3 (fun _ _ h => h)
    have hg3 := hs3.cell (p := ⟨0, 0, none⟩) (fun h => h) HC.out.2.2
    have hb3 := HC.out.2.1.same hs3 (fun h => h)
    have hnfp : ¬ Foot z sv chs (w.heap.size + 2) := fun e => by have := HC.out.1.lt _ e; omega
    have hnfr : ¬ Foot z sv chs (w.heap.size + 1) := fun e => by have := HC.out.1.lt _ e; omega
    have hnfb := HC.out.1.far hbB hbz
    have hzr := zread_some B z W3 chs sv r wv q ex hD3 (w.heap.size + 2) 0 (Zs 0) (by rw [Zs.length]; exact Nat.le_refl _) (by omega) hnfp hp3 (by rw [Zs.length]; omega) hq
    rw [Zs.length] at hzr
    refine hzr.mono ?_
    clear hzr
    rintro e w' ⟨m, hm, rfl, chs', sv', r', wv', ex', hD', hS', hf', hP'⟩
    rw [Zs.length] at hm
    have hmk' : m ≤ 0 := by rw [hm]; exact Nat.min_le_left _ _
    have hmq : m ≤ q.length := by rw [hm]; exact Nat.min_le_right _ _
    have hr' := hr3.same hS' (fun e => by rcases e with e | e; exact hnfr e; omega)
    have hb' := hb3.same hS' (fun e => by rcases e with e | e; exact hnfb e; omega)
    have hg' := hS'.cell (p := ⟨0, 0, none⟩) (fun e => by rcases e with e | e; exact h0 e; simp only at e; omega) hg3
    obtain ⟨Wd, hWd⟩ : ∃ Wd, w'.drew = Wd := ⟨_, rfl⟩
    have hSd : Same (fun _ => False) w' Wd := by rw [← hWd]; exact (Same.refl _ _).drew
    have hDd := hD'.same hSd (fun _ _ h => h)
    have hrd := hr'.same hSd (fun h => h)
    have hgd := hSd.cell (p := ⟨0, 0, none⟩) (fun h => h) hg'
    have k0 : Wd.cell? ⟨w.heap.size + 1, 0, none⟩ = some (.int .i64 0) := hrd.cell 0
    have k1 : Wd.cell? ⟨w.heap.size + 1, 1, none⟩ = some (.bool false) := hrd.cell 1
    have k2 : Wd.cell? ⟨w.heap.size + 1, 2, none⟩ = some (.slice none 0 0) := hrd.cell 2
    have k3 : Wd.cell? ⟨w.heap.size + 1, 3, none⟩ = some (.bool false) := hrd.cell 3
    have f0 : Wd.frozen? ⟨w.heap.size + 1, 0, none⟩ = false := hrd.free 0
    have f1 : Wd.frozen? ⟨w.heap.size + 1, 1, none⟩ = false := hrd.free 1
    have f2 : Wd.frozen? ⟨w.heap.size + 1, 2, none⟩ = false := hrd.free 2
    have f3 : Wd.frozen? ⟨w.heap.size + 1, 3, none⟩ = false := hrd.free 3
    have bd : Wd.cell? ⟨bv, 0, none⟩ = some (.pointer (some ⟨z, 0, none⟩)) := (hb'.same hSd (fun h => h)).cell 0
    have hPd := hP'.same hSd (fun h => h)
    have hmI : (m : Int) ≤ 0 := by omega
    obtain rfl : m = 0 := by omega
    simp only [Int.natCast_zero]
    obtain ⟨R, hR⟩ : ∃ R, q.drop 0 = R := ⟨_, rfl⟩
    rw [hR] at hDd
    have HQ := Lib.hid (And.intro hm (And.intro hmk' (And.intro hmq hR)))
    have HP := Lib.hid (And.intro hDd (And.intro hgd (And.intro hSd (And.intro hs3 (And.intro hz3 (And.intro hS' (And.intro hf' hPd)))))))
    clear hDd hgd hSd hs3 hz3 hS' hf' hPd hP' hD' hr' hb' hg' hrd hD3 hg3 hb3 hp3 hr3 hm hmq hR hmk hm0 hm1 hW3 b0 b3
    go_wp2_with fail
    refine still_tail 9 Wd hWd (by kernel_rfl) (by kernel_rfl) ?_
    clear hWd
    simp only [List.take_succ_cons, List.take_zero, List.drop_succ_cons, List.drop_zero]
    still_step
    still_call ((zbuf_len _ _ _ _ _ _ _ _ _ HP.out.1).mono fun _ _ h => ⟨h.1, h.2.symm⟩)
    still_step
    still_call ((err_nil Wd p HP.out.2.1).mono fun _ _ h => ⟨h.1, h.2.symm⟩)
    repeat still_step
    refine wpStill_nil ?_
    go_wp2_with fail
    refine bodyPost_ret (v := ResV.agg ⟨(R.length : Int), true, some ⟨w.heap.size + 2, 0, none⟩, 0, 0, false⟩) (by simp [results, Tryd.results28, go_sem, ResV.agg, k0, k1, k2, k3]) rfl ?_
    obtain ⟨hm, hmk', hmq, hR⟩ := HQ.out
    obtain ⟨hDd, hgd, hSd, hs3, hz3, hS', hf', hPd⟩ := HP.out
    exact br_post hm hR hDd hs3 hz3 hS' hSd hf' HC.out.1.lt hPd hk1 (((((Same.refl (fun k => k = w.heap.size + 1) Wd).setCell (p := ⟨w.heap.size + 1, 0, none⟩) (fun _ => rfl) _).setCell (p := ⟨w.heap.size + 1, 1, none⟩) (fun _ => rfl) _).setCell (p := ⟨w.heap.size + 1, 2, none⟩) (fun _ => rfl) _).setCell (p := ⟨w.heap.size + 1, 3, none⟩) (fun _ => rfl) _) true (decide_eq_true hq)
  · have hk0 : ¬ k = 0 := by omega
    go_wp2_with fail
    obtain ⟨W3, hW3⟩ : ∃ W3, W3 = (((w.alloc (.cells #[.int .i64 what, .int .i64 which, .int .i64 (k : Int), .slice ad ln cp] 26)).alloc (.cells #[.int .i64 0, .bool false, .slice none 0 0, .bool false] 32)).alloc (zrow k)) := ⟨_, rfl⟩
    rw [← hW3]
    have hs3 : Same (fun _ => False) w W3 := by rw [hW3]; exact (((Same.refl _ _).alloc _).alloc _).alloc _
    have hz3 : W3.heap.size = w.heap.size + 3 := by rw [hW3, balloc, balloc, balloc]
    have hr3 : Blk W3 (w.heap.size + 1) #[.int .i64 0, .bool false, .slice none 0 0, .bool false] 32 := by
      rw [hW3]
      have := (Blk.new (w.alloc (.cells #[.int .i64 what, .int .i64 which, .int .i64 (k : Int), .slice ad ln cp] 26)) #[.int .i64 0, .bool false, .slice none 0 0, .bool false] 32).alloc (zrow k)
      rw [balloc] at this
      exact this
    have hp3 : Blk W3 (w.heap.size + 2) (U8 (Zs k)).toArray 5 := by
      rw [hW3]
      have := Blk.new ((w.alloc (.cells #[.int .i64 what, .int .i64 which, .int .i64 (k : Int), .slice ad ln cp] 26)).alloc (.cells #[.int .i64 0, .bool false, .slice none 0 0, .bool false] 32)) (U8 (Zs k)).toArray 5
      rw [balloc, balloc] at this
      exact this
    have hD3 := HC.out.1.same hs3 (fun _ _ h => h)
    have hg3 := hs3.cell (p := ⟨0, 0, none⟩) (fun h => h) HC.out.2.2
    have hb3 := HC.out.2.1.same hs3 (fun h => h)
    have hnfp : ¬ Foot z sv chs (w.heap.size + 2) := fun e => by have := HC.out.1.lt _ e; omega
    have hnfr : ¬ Foot z sv chs (w.heap.size + 1) := fun e => by have := HC.out.1.lt _ e; omega
    have hnfb := HC.out.1.far hbB hbz
    have hzr := zread_some B z W3 chs sv r wv q ex hD3 (w.heap.size + 2) k (Zs k) (by rw [Zs.length]; exact Nat.le_refl _) (by omega) hnfp hp3 (by rw [Zs.length]; omega) hq
    rw [Zs.length] at hzr
    refine hzr.mono ?_
    clear hzr
    rintro e w' ⟨m, hm, rfl, chs', sv', r', wv', ex', hD', hS', hf', hP'⟩
    rw [Zs.length] at hm
    have hmk' : m ≤ k := by rw [hm]; exact Nat.min_le_left _ _
    have hmq : m ≤ q.length := by rw [hm]; exact Nat.min_le_right _ _
    have hr' := hr3.same hS' (fun e => by rcases e with e | e; exact hnfr e; omega)
    have hb' := hb3.same hS' (fun e => by rcases e with e | e; exact hnfb e; omega)
    have hg' := hS'.cell (p := ⟨0, 0, none⟩) (fun e => by rcases e with e | e; exact h0 e; simp only at e; omega) hg3
    obtain ⟨Wd, hWd⟩ : ∃ Wd, w'.drew = Wd := ⟨_, rfl⟩
    have hSd : Same (fun _ => False) w' Wd := by rw [← hWd]; exact (Same.refl _ _).drew
    have hDd := hD'.same hSd (fun _ _ h => h)
    have hrd := hr'.same hSd (fun h => h)
    have hgd := hSd.cell (p := ⟨0, 0, none⟩) (fun h => h) hg'
    have k0 : Wd.cell? ⟨w.heap.size + 1, 0, none⟩ = some (.int .i64 0) := hrd.cell 0
    have k1 : Wd.cell? ⟨w.heap.size + 1, 1, none⟩ = some (.bool false) := hrd.cell 1
    have k2 : Wd.cell? ⟨w.heap.size + 1, 2, none⟩ = some (.slice none 0 0) := hrd.cell 2
    have k3 : Wd.cell? ⟨w.heap.size + 1, 3, none⟩ = some (.bool false) := hrd.cell 3
    have f0 : Wd.frozen? ⟨w.heap.size + 1, 0, none⟩ = false := hrd.free 0
    have f1 : Wd.frozen? ⟨w.heap.size + 1, 1, none⟩ = false := hrd.free 1
    have f2 : Wd.frozen? ⟨w.heap.size + 1, 2, none⟩ = false := hrd.free 2
    have f3 : Wd.frozen? ⟨w.heap.size + 1, 3, none⟩ = false := hrd.free 3
    have bd : Wd.cell? ⟨bv, 0, none⟩ = some (.pointer (some ⟨z, 0, none⟩)) := (hb'.same hSd (fun h => h)).cell 0
    have hPd := hP'.same hSd (fun h => h)
    have hmI : (m : Int) ≤ (k : Nat) := by omega
    obtain ⟨R, hR⟩ : ∃ R, q.drop m = R := ⟨_, rfl⟩
    rw [hR] at hDd
    have HQ := Lib.hid (And.intro hm (And.intro hmk' (And.intro hmq hR)))
    have HP := Lib.hid (And.intro hDd (And.intro hgd (And.intro hSd (And.intro hs3 (And.intro hz3 (And.intro hS' (And.intro hf' hPd)))))))
    clear hDd hgd hSd hs3 hz3 hS' hf' hPd hP' hD' hr' hb' hg' hrd hD3 hg3 hb3 hp3 hr3 hm hmq hR hmk hm0 hm1 hW3 b0 b3
    go_wp2_with fail
    refine still_tail 9 Wd hWd (by kernel_rfl) (by kernel_rfl) ?_
    clear hWd
    simp only [List.take_succ_cons, List.take_zero, List.drop_succ_cons, List.drop_zero]
    still_step
    still_call ((zbuf_len _ _ _ _ _ _ _ _ _ HP.out.1).mono fun _ _ h => ⟨h.1, h.2.symm⟩)
    still_step
    still_call ((err_nil Wd p HP.out.2.1).mono fun _ _ h => ⟨h.1, h.2.symm⟩)
    repeat still_step
    refine wpStill_nil ?_
    go_wp2_with fail
    refine bodyPost_ret (v := ResV.agg ⟨(R.length : Int), true, some ⟨w.heap.size + 2, 0, none⟩, m, k, false⟩) (by simp [results, Tryd.results28, go_sem, ResV.agg, k0, k1, k2, k3]) rfl ?_
    obtain ⟨hm, hmk', hmq, hR⟩ := HQ.out
    obtain ⟨hDd, hgd, hSd, hs3, hz3, hS', hf', hPd⟩ := HP.out
    exact br_post hm hR hDd hs3 hz3 hS' hSd hf' HC.out.1.lt hPd hk1 (((((Same.refl (fun k => k = w.heap.size + 1) Wd).setCell (p := ⟨w.heap.size + 1, 0, none⟩) (fun _ => rfl) _).setCell (p := ⟨w.heap.size + 1, 1, none⟩) (fun _ => rfl) _).setCell (p := ⟨w.heap.size + 1, 2, none⟩) (fun _ => rfl) _).setCell (p := ⟨w.heap.size + 1, 3, none⟩) (fun _ => rfl) _) true (decide_eq_true hq)
  · go_wp2_with fail
    obtain ⟨W3, hW3⟩ : ∃ W3, W3 = (((w.alloc (.cells #[.int .i64 what, .int .i64 which, .int .i64 n, .slice ad ln cp] 26)).alloc (.cells #[.int .i64 0, .bool false, .slice none 0 0, .bool false] 32)).alloc (zrow 100000)) := ⟨_, rfl⟩
    rw [← hW3]
    have hs3 : Same (fun _ => False) w W3 := by rw [hW3]; exact (((Same.refl _ _).alloc _).alloc _).alloc _
    have hz3 : W3.heap.size = w.heap.size + 3 := by rw [hW3, balloc, balloc, balloc]
    have hr3 : Blk W3 (w.heap.size + 1) #[.int .i64 0, .bool false, .slice none 0 0, .bool false] 32 := by
      rw [hW3]
      have := (Blk.new (w.alloc (.cells #[.int .i64 what, .int .i64 which, .int .i64 n, .slice ad ln cp] 26)) #[.int .i64 0, .bool false, .slice none 0 0, .bool false] 32).alloc (zrow 100000)
      rw [balloc] at this
      exact this
    have hp3 : Blk W3 (w.heap.size + 2) (U8 (Zs 100000)).toArray 5 := by
      rw [hW3]
      have := Blk.new ((w.alloc (.cells #[.int .i64 what, .int .i64 which, .int .i64 n, .slice ad ln cp] 26)).alloc (.cells #[.int .i64 0, .bool false, .slice none 0 0, .bool false] 32)) (U8 (Zs 100000)).toArray 5
      rw [balloc, balloc] at this
      exact this
    have hD3 := HC.out.1.same hs3 (fun _ _ h => h)
    have hg3 := hs3.cell (p := ⟨0, 0, none⟩) (fun h => h) HC.out.2.2
    have hb3 := HC.out.2.1.same hs3 (fun h => h)
    have hnfp : ¬ Foot z sv chs (w.heap.size + 2) := fun e => by have := HC.out.1.lt _ e; omega
    have hnfr : ¬ Foot z sv chs (w.heap.size + 1) := fun e => by have := HC.out.1.lt _ e; omega
    have hnfb := HC.out.1.far hbB hbz
    have hzr := zread_some B z W3 chs sv r wv q ex hD3 (w.heap.size + 2) 100000 (Zs 100000) (by rw [Zs.length]; exact Nat.le_refl _) (by omega) hnfp hp3 (by rw [Zs.length]; omega) hq
    rw [Zs.length] at hzr
    refine hzr.mono ?_
    clear hzr
    rintro e w' ⟨m, hm, rfl, chs', sv', r', wv', ex', hD', hS', hf', hP'⟩
    rw [Zs.length] at hm
    have hmk' : m ≤ 100000 := by rw [hm]; exact Nat.min_le_left _ _
    have hmq : m ≤ q.length := by rw [hm]; exact Nat.min_le_right _ _
    have hr' := hr3.same hS' (fun e => by rcases e with e | e; exact hnfr e; omega)
    have hb' := hb3.same hS' (fun e => by rcases e with e | e; exact hnfb e; omega)
    have hg' := hS'.cell (p := ⟨0, 0, none⟩) (fun e => by rcases e with e | e; exact h0 e; simp only at e; omega) hg3
    obtain ⟨Wd, hWd⟩ : ∃ Wd, w'.drew = Wd := ⟨_, rfl⟩
    have hSd : Same (fun _ => False) w' Wd := by rw [← hWd]; exact (Same.refl _ _).drew
    have hDd := hD'.same hSd (fun _ _ h => h)
    have hrd := hr'.same hSd (fun h => h)
    have hgd := hSd.cell (p := ⟨0, 0, none⟩) (fun h => h) hg'
    have k0 : Wd.cell? ⟨w.heap.size + 1, 0, none⟩ = some (.int .i64 0) := hrd.cell 0
    have k1 : Wd.cell? ⟨w.heap.size + 1, 1, none⟩ = some (.bool false) := hrd.cell 1
    have k2 : Wd.cell? ⟨w.heap.size + 1, 2, none⟩ = some (.slice none 0 0) := hrd.cell 2
    have k3 : Wd.cell? ⟨w.heap.size + 1, 3, none⟩ = some (.bool false) := hrd.cell 3
    have f0 : Wd.frozen? ⟨w.heap.size + 1, 0, none⟩ = false := hrd.free 0
    have f1 : Wd.frozen? ⟨w.heap.size + 1, 1, none⟩ = false := hrd.free 1
    have f2 : Wd.frozen? ⟨w.heap.size + 1, 2, none⟩ = false := hrd.free 2
    have f3 : Wd.frozen? ⟨w.heap.size + 1, 3, none⟩ = false := hrd.free 3
    have bd : Wd.cell? ⟨bv, 0, none⟩ = some (.pointer (some ⟨z, 0, none⟩)) := (hb'.same hSd (fun h => h)).cell 0
    have hPd := hP'.same hSd (fun h => h)
    have hmI : (m : Int) ≤ 100000 := by omega
    obtain ⟨R, hR⟩ : ∃ R, q.drop m = R := ⟨_, rfl⟩
    rw [hR] at hDd
    have HQ := Lib.hid (And.intro hm (And.intro hmk' (And.intro hmq hR)))
    have HP := Lib.hid (And.intro hDd (And.intro hgd (And.intro hSd (And.intro hs3 (And.intro hz3 (And.intro hS' (And.intro hf' hPd)))))))
    clear hDd hgd hSd hs3 hz3 hS' hf' hPd hP' hD' hr' hb' hg' hrd hD3 hg3 hb3 hp3 hr3 hm hmq hR hmk hm0 hm1 hW3 b0 b3
    go_wp2_with fail
    refine still_tail 9 Wd hWd (by kernel_rfl) (by kernel_rfl) ?_
    clear hWd
    simp only [List.take_succ_cons, List.take_zero, List.drop_succ_cons, List.drop_zero]
    still_step
    still_call ((zbuf_len _ _ _ _ _ _ _ _ _ HP.out.1).mono fun _ _ h => ⟨h.1, h.2.symm⟩)
    still_step
    still_call ((err_nil Wd p HP.out.2.1).mono fun _ _ h => ⟨h.1, h.2.symm⟩)
    repeat still_step
    refine wpStill_nil ?_
    go_wp2_with fail
    refine bodyPost_ret (v := ResV.agg ⟨(R.length : Int), true, some ⟨w.heap.size + 2, 0, none⟩, m, 100000, false⟩) (by simp [results, Tryd.results28, go_sem, ResV.agg, k0, k1, k2, k3]) rfl ?_
    obtain ⟨hm, hmk', hmq, hR⟩ := HQ.out
    obtain ⟨hDd, hgd, hSd, hs3, hz3, hS', hf', hPd⟩ := HP.out
    exact br_post hm hR hDd hs3 hz3 hS' hSd hf' HC.out.1.lt hPd hk1 (((((Same.refl (fun k => k = w.heap.size + 1) Wd).setCell (p := ⟨w.heap.size + 1, 0, none⟩) (fun _ => rfl) _).setCell (p := ⟨w.heap.size + 1, 1, none⟩) (fun _ => rfl) _).setCell (p := ⟨w.heap.size + 1, 2, none⟩) (fun _ => rfl) _).setCell (p := ⟨w.heap.size + 1, 3, none⟩) (fun _ => rfl) _) true (decide_eq_true hq)
theorem clos_bempty (B bv z : Nat) (w : World) (chs : List Ch) (sv : Value) (r wv : Nat) (ex : Int) (h : DB B z w chs sv r wv [] ex) (hb : Blk w bv #[.pointer (some ⟨z, 0, none⟩)] 62) (hbB : bv < B) (hbz : bv ≠ z) (p : Addr)
    (hg : w.cell? ⟨0, 0, none⟩ = some (.iface 108 (.pointer (some p)))) (h0 : ¬ Foot z sv chs 0) (what which n : Int) (hx : what ≠ 0) (ad : Option Addr) (ln cp k : Nat) (hk : Lim n k) :
    Calls Tryd.prog 28 #[.agg #[.int .i64 what, .int .i64 which, .int .i64 n, .slice ad ln cp], .pointer (some ⟨bv, 0, none⟩)] w (BrPost B z w chs sv [] k) := by
  have b0 : w.cell? ⟨bv, 0, none⟩ = some (.pointer (some ⟨z, 0, none⟩)) := hb.cell 0
  have hlb := hb.lt
  have hlz := h.zb.lt
  have nb0 : ¬ bv = w.heap.size := by omega
  have nb1 : ¬ bv = w.heap.size + 1 := by omega
  have b3 : ∀ o o' o'', (((w.alloc o).alloc o').alloc o'').cell? ⟨bv, 0, none⟩ = some (.pointer (some ⟨z, 0, none⟩)) := fun o o' o'' => (((hb.alloc o).alloc o').alloc o'').cell 0
  have hx0 : (what == 0) = false := beq_eq_false_iff_ne.2 hx
  have hk1 : k ≤ 100000 := by unfold Lim at hk; omega
  have hmk : ∀ W, (Instr.makeSlice 24 (.int .i64 (k : Int)) (.int .i64 (k : Int))).run Tryd.prog W = .ok (.slice (some ⟨W.heap.size, 0, none⟩) k k) (W.alloc (zrow k)) := mk_bytes k (by omega)
  have hm0 : ∀ W, (Instr.makeSlice 24 (.int .i64 0) (.int .i64 0)).run Tryd.prog W = .ok (.slice (some ⟨W.heap.size, 0, none⟩) 0 0) (W.alloc (zrow 0)) := mk_bytes 0 (by omega)
  have hm1 : ∀ W, (Instr.makeSlice 24 (.int .i64 100000) (.int .i64 100000)).run Tryd.prog W = .ok (.slice (some ⟨W.heap.size, 0, none⟩) 100000 100000) (W.alloc (zrow 100000)) := mk_bytes 100000 (by omega)
  have HC := Lib.hid (And.intro h (And.intro hb hg))
  clear h hb hg hx
  go_enter Tryd.func28, Tryd.ntmps28
  rcases hk with ⟨hn, rfl⟩ | ⟨hn, hn', rfl⟩ | ⟨hn, rfl⟩
  · go_wp2_with fail
    obtain ⟨W3, hW3⟩ : ∃ W3, W3 = (((w.alloc (.cells #[.int .i64 what, .int .i64 which, .int .i64 n, .slice ad ln cp] 26)).alloc (.cells #[.int .i64 0, .bool false, .slice none 0 0, .bool false] 32)).alloc (zrow 0)) := ⟨_, rfl⟩
    rw [← hW3]
    have hs3 : Same (fun _ => False) w W3 := by rw [hW3]; exact (((Same.refl _ _).alloc _).alloc _).alloc _
    have hz3 : W3.heap.size = w.heap.size + 3 := by rw [hW3, balloc, balloc, balloc]
    have hr3 : Blk W3 (w.heap.size + 1) #[.int .i64 0, .bool false, .slice none 0 0, .bool false] 32 := by
      rw [hW3]
      have := (Blk.new (w.alloc (.cells #[.int .i64 what, .int .i64 which, .int .i64 n, .slice ad ln cp] 26)) #[.int .i64 0, .bool false, .slice none 0 0, .bool false] 32).alloc (zrow 0)
      rw [balloc] at this
      exact this
    have hp3 : Blk W3 (w.heap.size + 2) (U8 (Zs 0)).toArray 5 := by
      rw [hW3]
      have := Blk.new ((w.alloc (.cells #[.int .i64 what, .int .i64 which, .int .i64 n, .slice ad ln cp] 26)).alloc (.cells #[.int .i64 0, .bool false, .slice none 0 0, .bool false] 32)) (U8 (Zs 0)).toArray 5
      rw [balloc, balloc] at this
      exact this
    have hD3 := HC.out.1.same hs3 (fun _ _ h => h)
    have hg3 := hs3.cell (p := ⟨0, 0, none⟩) (fun h => h) HC.out.2.2
    have hb3 := HC.out.2.1.same hs3 (fun h => h)
    have hnfp : ¬ Foot z sv chs (w.heap.size + 2) := fun e => by have := HC.out.1.lt _ e; omega
    have hnfr : ¬ Foot z sv chs (w.heap.size + 1) := fun e => by have := HC.out.1.lt _ e; omega
    have hnfb := HC.out.1.far hbB hbz
    refine (zread_empty B z W3 chs sv r wv ex hD3 p hg3 _).mono ?_
    rintro e w' ⟨rfl, kk, rfl⟩
    obtain ⟨w', hw'⟩ : ∃ w', W3.drewN kk = w' := ⟨_, rfl⟩
    have hS0 : Same (fun _ => False) W3 w' := by rw [← hw']; exact (Same.refl _ _).drewN kk
    rw [hw']
    clear hw'
    have hS' : Same (fun k => Foot z sv chs k ∨ k = w.heap.size + 2) W3 w' := hS0.mono (fun _ _ h => h.elim)
    have hD' := hD3.same hS0 (fun _ _ h => h)
    have hf' : ∀ k, Foot z sv chs k → Foot z sv chs k := fun _ h => h
    have hr' := hr3.same hS' (fun e => by rcases e with e | e; exact hnfr e; omega)
    have hb' := hb3.same hS' (fun e => by rcases e with e | e; exact hnfb e; omega)
    have hg' := hS'.cell (p := ⟨0, 0, none⟩) (fun e => by rcases e with e | e; exact h0 e; simp only at e; omega) hg3
    obtain ⟨Wd, hWd⟩ : ∃ Wd, w'.drew = Wd := ⟨_, rfl⟩
    have hSd : Same (fun _ => False) w' Wd := by rw [← hWd]; exact (Same.refl _ _).drew
    have hDd := hD'.same hSd (fun _ _ h => h)
    have hrd := hr'.same hSd (fun h => h)
    have hgd := hSd.cell (p := ⟨0, 0, none⟩) (fun h => h) hg'
    have k0 : Wd.cell? ⟨w.heap.size + 1, 0, none⟩ = some (.int .i64 0) := hrd.cell 0
    have k1 : Wd.cell? ⟨w.heap.size + 1, 1, none⟩ = some (.bool false) := hrd.cell 1
    have k2 : Wd.cell? ⟨w.heap.size + 1, 2, none⟩ = some (.slice none 0 0) := hrd.cell 2
    have k3 : Wd.cell? ⟨w.heap.size + 1, 3, none⟩ = some (.bool false) := hrd.cell 3
    have f0 : Wd.frozen? ⟨w.heap.size + 1, 0, none⟩ = false := hrd.free 0
    have f1 : Wd.frozen? ⟨w.heap.size + 1, 1, none⟩ = false := hrd.free 1
    have f2 : Wd.frozen? ⟨w.heap.size + 1, 2, none⟩ = false := hrd.free 2
    have f3 : Wd.frozen? ⟨w.heap.size + 1, 3, none⟩ = false := hrd.free 3
    have bd : Wd.cell? ⟨bv, 0, none⟩ = some (.pointer (some ⟨z, 0, none⟩)) := (hb'.same hSd (fun h => h)).cell 0
    have hPd : Blk Wd (w.heap.size + 2) (U8 (splice (Zs 0) 0 [])).toArray 5 := by rw [splice_zero]; exact (hp3.same hS0 (fun h => h)).same hSd (fun h => h)
    have HPD := Lib.hid hPd
    clear hPd
    have HP := Lib.hid (And.intro hDd (And.intro hgd (And.intro hSd (And.intro hs3 (And.intro hz3 (And.intro hS' hf'))))))
    clear hDd hgd hSd hs3 hz3 hS' hf' hD' hr' hb' hg' hrd hD3 hg3 hb3 hp3 hr3 hmk hm0 hm1 hW3 b0 b3 hS0
    go_wp2_with fail
    refine still_tail 9 Wd hWd (by kernel_rfl) (by kernel_rfl) ?_
    clear hWd
    simp only [List.take_succ_cons, List.take_zero, List.drop_succ_cons, List.drop_zero]
    still_step
    still_call ((zbuf_len _ _ _ _ _ _ _ _ _ HP.out.1).mono fun _ _ h => ⟨h.1, h.2.symm⟩)
    still_step
    still_call ((err_is Wd p HP.out.2.1).mono fun _ _ h => ⟨h.1, h.2.symm⟩)
    repeat still_step
    refine wpStill_nil ?_
    go_wp2_with fail
    refine bodyPost_ret (v := ResV.agg ⟨0, false, some ⟨w.heap.size + 2, 0, none⟩, 0, 0, false⟩) (by simp [results, Tryd.results28, go_sem, ResV.agg, k0, k1, k2, k3]) rfl ?_
    obtain ⟨hDd, hgd, hSd, hs3, hz3, hS', hf'⟩ := HP.out
    exact br_post (m := 0) (q := []) (R := []) (by simp) rfl hDd hs3 hz3 hS' hSd hf' HC.out.1.lt HPD.out hk1 (((((Same.refl (fun k => k = w.heap.size + 1) Wd).setCell (p := ⟨w.heap.size + 1, 0, none⟩) (fun _ => rfl) _).setCell (p := ⟨w.heap.size + 1, 1, none⟩) (fun _ => rfl) _).setCell (p := ⟨w.heap.size + 1, 2, none⟩) (fun _ => rfl) _).setCell (p := ⟨w.heap.size + 1, 3, none⟩) (fun _ => rfl) _) false rfl
  · have hk0 : ¬ k = 0 := by omega
    go_wp2_with fail
    obtain ⟨W3, hW3⟩ : ∃ W3, W3 = (((w.alloc (.cells #[.int .i64 what, .int .i64 which, .int .i64 (k : Int), .slice ad ln cp] 26)).alloc (.cells #[.int .i64 0, .bool false, .slice none 0 0, .bool false] 32)).alloc (zrow k)) := ⟨_, rfl⟩
    rw [← hW3]
    have hs3 : Same (fun _ => False) w W3 := by rw [hW3]; exact (((Same.refl _ _).alloc _).alloc _).alloc _
    have hz3 : W3.heap.size = w.heap.size + 3 := by rw [hW3, balloc, balloc, balloc]
    have hr3 : Blk W3 (w.heap.size + 1) #[.int .i64 0, .bool false, .slice none 0 0, .bool false] 32 := by
      rw [hW3]
      have := (Blk.new (w.alloc (.cells #[.int .i64 what, .int .i64 which, .int .i64 (k : Int), .slice ad ln cp] 26)) #[.int .i64 0, .bool false, .slice none 0 0, .bool false] 32).alloc (zrow k)
      rw [balloc] at this
      exact this
    have hp3 : Blk W3 (w.heap.size + 2) (U8 (Zs k)).toArray 5 := by
      rw [hW3]
      have := Blk.new ((w.alloc (.cells #[.int .i64 what, .int .i64 which, .int .i64 (k : Int), .slice ad ln cp] 26)).alloc (.cells #[.int .i64 0, .bool false, .slice none 0 0, .bool false] 32)) (U8 (Zs k)).toArray 5
      rw [balloc, balloc] at this
      exact this
    have hD3 := HC.out.1.same hs3 (fun _ _ h => h)
    have hg3 := hs3.cell (p := ⟨0, 0, none⟩) (fun h => h) HC.out.2.2
    have hb3 := HC.out.2.1.same hs3 (fun h => h)
    have hnfp : ¬ Foot z sv chs (w.heap.size + 2) := fun e => by have := HC.out.1.lt _ e; omega
    have hnfr : ¬ Foot z sv chs (w.heap.size + 1) := fun e => by have := HC.out.1.lt _ e; omega
    have hnfb := HC.out.1.far hbB hbz
    refine (zread_empty B z W3 chs sv r wv ex hD3 p hg3 _).mono ?_
    rintro e w' ⟨rfl, kk, rfl⟩
    obtain ⟨w', hw'⟩ : ∃ w', W3.drewN kk = w' := ⟨_, rfl⟩
    have hS0 : Same (fun _ => False) W3 w' := by rw [← hw']; exact (Same.refl _ _).drewN kk
    rw [hw']
    clear hw'
    have hS' : Same (fun k => Foot z sv chs k ∨ k = w.heap.size + 2) W3 w' := hS0.mono (fun _ _ h => h.elim)
    have hD' := hD3.same hS0 (fun _ _ h => h)
    have hf' : ∀ k, Foot z sv chs k → Foot z sv chs k := fun _ h => h
    have hr' := hr3.same hS' (fun e => by rcases e with e | e; exact hnfr e; omega)
    have hb' := hb3.same hS' (fun e => by rcases e with e | e; exact hnfb e; omega)
    have hg' := hS'.cell (p := ⟨0, 0, none⟩) (fun e => by rcases e with e | e; exact h0 e; simp only at e; omega) hg3
    obtain ⟨Wd, hWd⟩ : ∃ Wd, w'.drew = Wd := ⟨_, rfl⟩
    have hSd : Same (fun _ => False) w' Wd := by rw [← hWd]; exact (Same.refl _ _).drew
    have hDd := hD'.same hSd (fun _ _ h => h)
    have hrd := hr'.same hSd (fun h => h)
    have hgd := hSd.cell (p := ⟨0, 0, none⟩) (fun h => h) hg'
    have k0 : Wd.cell? ⟨w.heap.size + 1, 0, none⟩ = some (.int .i64 0) := hrd.cell 0
    have k1 : Wd.cell? ⟨w.heap.size + 1, 1, none⟩ = some (.bool false) := hrd.cell 1
    have k2 : Wd.cell? ⟨w.heap.size + 1, 2, none⟩ = some (.slice none 0 0) := hrd.cell 2
    have k3 : Wd.cell? ⟨w.heap.size + 1, 3, none⟩ = some (.bool false) := hrd.cell 3
    have f0 : Wd.frozen? ⟨w.heap.size + 1, 0, none⟩ = false := hrd.free 0
    have f1 : Wd.frozen? ⟨w.heap.size + 1, 1, none⟩ = false := hrd.free 1
    have f2 : Wd.frozen? ⟨w.heap.size + 1, 2, none⟩ = false := hrd.free 2
    have f3 : Wd.frozen? ⟨w.heap.size + 1, 3, none⟩ = false := hrd.free 3
    have bd : Wd.cell? ⟨bv, 0, none⟩ = some (.pointer (some ⟨z, 0, none⟩)) := (hb'.same hSd (fun h => h)).cell 0
    have hPd : Blk Wd (w.heap.size + 2) (U8 (splice (Zs k) 0 [])).toArray 5 := by rw [splice_zero]; exact (hp3.same hS0 (fun h => h)).same hSd (fun h => h)
    have HPD := Lib.hid hPd
    clear hPd
    have HP := Lib.hid (And.intro hDd (And.intro hgd (And.intro hSd (And.intro hs3 (And.intro hz3 (And.intro hS' hf'))))))
    clear hDd hgd hSd hs3 hz3 hS' hf' hD' hr' hb' hg' hrd hD3 hg3 hb3 hp3 hr3 hmk hm0 hm1 hW3 b0 b3 hS0
    go_wp2_with fail
    refine still_tail 9 Wd hWd (by kernel_rfl) (by kernel_rfl) ?_
    clear hWd
    simp only [List.take_succ_cons, List.take_zero, List.drop_succ_cons, List.drop_zero]
    still_step
    still_call ((zbuf_len _ _ _ _ _ _ _ _ _ HP.out.1).mono fun _ _ h => ⟨h.1, h.2.symm⟩)
    still_step
    still_call ((err_is Wd p HP.out.2.1).mono fun _ _ h => ⟨h.1, h.2.symm⟩)
    repeat still_step
    refine wpStill_nil ?_
    go_wp2_with fail
    refine bodyPost_ret (v := ResV.agg ⟨0, false, some ⟨w.heap.size + 2, 0, none⟩, 0, k, false⟩) (by simp [results, Tryd.results28, go_sem, ResV.agg, k0, k1, k2, k3]) rfl ?_
    obtain ⟨hDd, hgd, hSd, hs3, hz3, hS', hf'⟩ := HP.out
    exact br_post (m := 0) (q := []) (R := []) (by simp) rfl hDd hs3 hz3 hS' hSd hf' HC.out.1.lt HPD.out hk1 (((((Same.refl (fun k => k = w.heap.size + 1) Wd).setCell (p := ⟨w.heap.size + 1, 0, none⟩) (fun _ => rfl) _).setCell (p := ⟨w.heap.size + 1, 1, none⟩) (fun _ => rfl) _).setCell (p := ⟨w.heap.size + 1, 2, none⟩) (fun _ => rfl) _).setCell (p := ⟨w.heap.size + 1, 3, none⟩) (fun _ => rfl) _) false rfl
  · go_wp2_with fail
    obtain ⟨W3, hW3⟩ : ∃ W3, W3 = (((w.alloc (.cells #[.int .i64 what, .int .i64 which, .int .i64 n, .slice ad ln cp] 26)).alloc (.cells #[.int .i64 0, .bool false, .slice none 0 0, .bool false] 32)).alloc (zrow 100000)) := ⟨_, rfl⟩
    rw [← hW3]
    have hs3 : Same (fun _ => False) w W3 := by rw [hW3]; exact (((Same.refl _ _).alloc _).alloc _).alloc _
    have hz3 : W3.heap.size = w.heap.size + 3 := by rw [hW3, balloc, balloc, balloc]
    have hr3 : Blk W3 (w.heap.size + 1) #[.int .i64 0, .bool false, .slice none 0 0, .bool false] 32 := by
      rw [hW3]
      have := (Blk.new (w.alloc (.cells #[.int .i64 what, .int .i64 which, .int .i64 n, .slice ad ln cp] 26)) #[.int .i64 0, .bool false, .slice none 0 0, .bool false] 32).alloc (zrow 100000)
      rw [balloc] at this
      exact this
    have hp3 : Blk W3 (w.heap.size + 2) (U8 (Zs 100000)).toArray 5 := by
      rw [hW3]
      have := Blk.new ((w.alloc (.cells #[.int .i64 what, .int .i64 which, .int .i64 n, .slice ad ln cp] 26)).alloc (.cells #[.int .i64 0, .bool false, .slice none 0 0, .bool false] 32)) (U8 (Zs 100000)).toArray 5
      rw [balloc, balloc] at this
      exact this
    have hD3 := HC.out.1.same hs3 (fun _ _ h => h)
    have hg3 := hs3.cell (p := ⟨0, 0, none⟩) (fun h => h) HC.out.2.2
    have hb3 := HC.out.2.1.same hs3 (fun h => h)
    have hnfp : ¬ Foot z sv chs (w.heap.size + 2) := fun e => by have := HC.out.1.lt _ e; omega
    have hnfr : ¬ Foot z sv chs (w.heap.size + 1) := fun e => by have := HC.out.1.lt _ e; omega
    have hnfb := HC.out.1.far hbB hbz
    refine (zread_empty B z W3 chs sv r wv ex hD3 p hg3 _).mono ?_
    rintro e w' ⟨rfl, kk, rfl⟩
    obtain ⟨w', hw'⟩ : ∃ w', W3.drewN kk = w' := ⟨_, rfl⟩
    have hS0 : Same (fun _ => False) W3 w' := by rw [← hw']; exact (Same.refl _ _).drewN kk
    rw [hw']
    clear hw'
    have hS' : Same (fun k => Foot z sv chs k ∨ k = w.heap.size + 2) W3 w' := hS0.mono (fun _ _ h => h.elim)
    have hD' := hD3.same hS0 (fun _ _ h => h)
    have hf' : ∀ k, Foot z sv chs k → Foot z sv chs k := fun _ h => h
    have hr' := hr3.same hS' (fun e => by rcases e with e | e; exact hnfr e; omega)
    have hb' := hb3.same hS' (fun e => by rcases e with e | e; exact hnfb e; omega)
    have hg' := hS'.cell (p := ⟨0, 0, none⟩) (fun e => by rcases e with e | e; exact h0 e; simp only at e; omega) hg3
    obtain ⟨Wd, hWd⟩ : ∃ Wd, w'.drew = Wd := ⟨_, rfl⟩
    have hSd : Same (fun _ => False) w' Wd := by rw [← hWd]; exact (Same.refl _ _).drew
    have hDd := hD'.same hSd (fun _ _ h => h)
    have hrd := hr'.same hSd (fun h => h)
    have hgd := hSd.cell (p := ⟨0, 0, none⟩) (fun h => h) hg'
    have k0 : Wd.cell? ⟨w.heap.size + 1, 0, none⟩ = some (.int .i64 0) := hrd.cell 0
    have k1 : Wd.cell? ⟨w.heap.size + 1, 1, none⟩ = some (.bool false) := hrd.cell 1
    have k2 : Wd.cell? ⟨w.heap.size + 1, 2, none⟩ = some (.slice none 0 0) := hrd.cell 2
    have k3 : Wd.cell? ⟨w.heap.size + 1, 3, none⟩ = some (.bool false) := hrd.cell 3
    have f0 : Wd.frozen? ⟨w.heap.size + 1, 0, none⟩ = false := hrd.free 0
    have f1 : Wd.frozen? ⟨w.heap.size + 1, 1, none⟩ = false := hrd.free 1
    have f2 : Wd.frozen? ⟨w.heap.size + 1, 2, none⟩ = false := hrd.free 2
    have f3 : Wd.frozen? ⟨w.heap.size + 1, 3, none⟩ = false := hrd.free 3
    have bd : Wd.cell? ⟨bv, 0, none⟩ = some (.pointer (some ⟨z, 0, none⟩)) := (hb'.same hSd (fun h => h)).cell 0
    have hPd : Blk Wd (w.heap.size + 2) (U8 (splice (Zs 100000) 0 [])).toArray 5 := by rw [splice_zero]; exact (hp3.same hS0 (fun h => h)).same hSd (fun h => h)
    have HPD := Lib.hid hPd
    clear hPd
    have HP := Lib.hid (And.intro hDd (And.intro hgd (And.intro hSd (And.intro hs3 (And.intro hz3 (And.intro hS' hf'))))))
    clear hDd hgd hSd hs3 hz3 hS' hf' hD' hr' hb' hg' hrd hD3 hg3 hb3 hp3 hr3 hmk hm0 hm1 hW3 b0 b3 hS0
    go_wp2_with fail
    refine still_tail 9 Wd hWd (by kernel_rfl) (by kernel_rfl) ?_
    clear hWd
    simp only [List.take_succ_cons, List.take_zero, List.drop_succ_cons, List.drop_zero]
    still_step
    still_call ((zbuf_len _ _ _ _ _ _ _ _ _ HP.out.1).mono fun _ _ h => ⟨h.1, h.2.symm⟩)
    still_step
    still_call ((err_is Wd p HP.out.2.1).mono fun _ _ h => ⟨h.1, h.2.symm⟩)
    repeat still_step
    refine wpStill_nil ?_
    go_wp2_with fail
    refine bodyPost_ret (v := ResV.agg ⟨0, false, some ⟨w.heap.size + 2, 0, none⟩, 0, 100000, false⟩) (by simp [results, Tryd.results28, go_sem, ResV.agg, k0, k1, k2, k3]) rfl ?_
    obtain ⟨hDd, hgd, hSd, hs3, hz3, hS', hf'⟩ := HP.out
    exact br_post (m := 0) (q := []) (R := []) (by simp) rfl hDd hs3 hz3 hS' hSd hf' HC.out.1.lt HPD.out hk1 (((((Same.refl (fun k => k = w.heap.size + 1) Wd).setCell (p := ⟨w.heap.size + 1, 0, none⟩) (fun _ => rfl) _).setCell (p := ⟨w.heap.size + 1, 1, none⟩) (fun _ => rfl) _).setCell (p := ⟨w.heap.size + 1, 2, none⟩) (fun _ => rfl) _).setCell (p := ⟨w.heap.size + 1, 3, none⟩) (fun _ => rfl) _) false rfl
end Go.Proofs.YtalpilbpgkijlaaDoor
