/- The data buffer in memory; its first chunk's bytes, its length (the walks). No condition. -/
import Derived.Test.YtalpilbpgkijlaaDoorBufPlain
namespace Go.Proofs.YtalpilbpgkijlaaDoor
open Go.RowKit
set_option maxRecDepth 100000
set_option maxHeartbeats 1000000

abbrev Ch := Nat × List UInt8
def chV (c : Ch) : Value := .slice (some ⟨c.1, 0, none⟩) c.2.length c.2.length
/-- Chunks in memory: a block each, and a row of slices. -/
structure Chs (B : Nat) (w : World) (chs : List Ch) (sv : Value) : Prop where
  own : w.ownsRow B 24 1 sv chs.length (chs.map chV)
  blk : ∀ c ∈ chs, B ≤ c.1 ∧ sv.ownBlock ≠ some c.1 ∧ Blk w c.1 (U8 c.2).toArray 5
  nd : (chs.map (·.1)).Nodup
/-- A data buffer. -/
structure DB (B z : Nat) (w : World) (chs : List Ch) (sv : Value) (r wv : Nat) (q : List UInt8) (ex : Int) : Prop where
  zB : z < B
  hB : B ≤ w.heap.size
  cs : Chs B w chs sv
  zb : Blk w z #[sv, .int .i64 r, .int .i64 wv, .int .i64 q.length, .int .i64 ex] 91
  ok : OkB (chs.map (·.2)) r wv
  exb : Bd ex
  hq : cont (chs.map (·.2)) r wv = q
  bd : q.length ≤ 1048576

theorem DB.z0 {B z : Nat} {w : World} {chs : List Ch} {sv : Value} {r wv : Nat} {q : List UInt8} {ex : Int} (h : DB B z w chs sv r wv q ex) :
    w.cell? ⟨z, 0, none⟩ = some sv ∧ w.cell? ⟨z, 1, none⟩ = some (.int .i64 r) ∧ w.cell? ⟨z, 2, none⟩ = some (.int .i64 wv) ∧ w.cell? ⟨z, 3, none⟩ = some (.int .i64 q.length) ∧ w.cell? ⟨z, 4, none⟩ = some (.int .i64 ex) :=
  ⟨h.zb.cell 0, h.zb.cell 1, h.zb.cell 2, h.zb.cell 3, h.zb.cell 4⟩
/-- The row of slices where there is a chunk. -/
theorem Chs.form {B : Nat} {w : World} {c : Ch} {rest : List Ch} {sv : Value} (h : Chs B w (c :: rest) sv) :
    ∃ cb cap, sv = .slice (some ⟨cb, 0, none⟩) (rest.length + 1) cap ∧ rest.length + 1 ≤ cap ∧ cap ≤ 9223372036854775807 ∧ ∀ i (x : Ch), (c :: rest)[i]? = some x → w.cell? ⟨cb, i, none⟩ = some (chV x) := by
  have hown := h.own
  rcases h.own.2 with ⟨_, h0⟩ | ⟨g, cap, cur, rfl, hb, hg, hn, hm, hs, ht⟩
  · simp at h0
  · refine ⟨g, cap, rfl, hn, by unfold maxLen at hm; omega, fun i x hx => ?_⟩
    have := hown.cells (g := g) rfl i (chV x) (by simp only [List.getElem?_map, hx, Option.map_some])
    rw [Addr.add_lit] at this
    simpa using this

theorem buf_len (B z : Nat) (w : World) (chs : List Ch) (sv : Value) (r wv : Nat) (q : List UInt8) (ex : Int) (h : DB B z w chs sv r wv q ex) :
    Calls Tryd.prog 48 #[.pointer (some ⟨z, 0, none⟩)] w fun e w' => e = .returned (.int .i64 q.length) ∧ w = w' := by
  obtain ⟨z0, z1, z2, z3, z4⟩ := h.z0
  clear h
  go_enter Tryd.func48, Tryd.ntmps48
  go_wp2
  go_ret
  exact ⟨rfl, rfl⟩
theorem zbuf_len (B z : Nat) (w : World) (chs : List Ch) (sv : Value) (r wv : Nat) (q : List UInt8) (ex : Int) (h : DB B z w chs sv r wv q ex) :
    Calls Tryd.prog 31 #[.pointer (some ⟨z, 0, none⟩)] w fun e w' => e = .returned (.int .i64 q.length) ∧ w = w' := by
  have H := Lib.hid h
  obtain ⟨z0, z1, z2, z3, z4⟩ := h.z0
  clear h
  go_enter Tryd.func31, Tryd.ntmps31
  go_wp2_with fail
  refine (buf_len _ _ _ _ _ _ _ _ _ H.out).mono ?_
  rintro e w' ⟨rfl, rfl⟩
  go_wp2
  go_ret
  exact ⟨rfl, rfl⟩

def FirstPost (c : Ch) (rest : List Ch) (r wv : Nat) (w : World) (e : Ending) (w' : World) : Prop :=
  ∃ cp k, e = .returned (.slice (some ⟨c.1, r, none⟩) (avail c.2 (rest.map (·.2)) r wv) cp) ∧ w.drewN k = w'

theorem first_bytes (B z : Nat) (w : World) (c : Ch) (rest : List Ch) (sv : Value) (r wv : Nat) (q : List UInt8) (ex : Int) (h : DB B z w (c :: rest) sv r wv q ex) :
    Calls Tryd.prog 57 #[.pointer (some ⟨z, 0, none⟩)] w (FirstPost c rest r wv w) := by
  obtain ⟨z0, z1, z2, z3, z4⟩ := h.z0
  obtain ⟨cb, cap, rfl, hn, hcap, hcell⟩ := h.cs.form
  have c0 := hcell 0 c rfl
  have hr : r < c.2.length := h.ok.hd c.2 (rest.map (·.2)) rfl
  have hL := (h.ok.sz c.2 (by simp)).pos
  have hr' : (r : Int) < (c.2.length : Int) := by omega
  have hne : ¬ c.2.length = r := by omega
  cases rest with
  | nil =>
    have h1 := h.ok.one c.2 rfl
    have h2 := h.ok.lst [] c.2 rfl
    clear h hcell
    unfold chV at c0
    generalize c.2.length = L at *
    go_enter Tryd.func57, Tryd.ntmps57
    go_wp2
    go_quiet (fail)
    go_wp2
    go_ret
    exact ⟨_, _, rfl, rfl⟩
  | cons d rest =>
    have hk : ((((d :: rest).length : Nat) : Int) + 1 == 1) = false := by simp; omega
    have hk0 : 0 < (d :: rest).length := by simp
    have hav : avail c.2 ((d :: rest).map (·.2)) r wv = c.2.length - r := by simp [avail]
    have HA := Lib.hid hav
    clear h hcell hav
    unfold chV at c0
    generalize c.2.length = L at *
    generalize (d :: rest).length = N at *
    go_enter Tryd.func57, Tryd.ntmps57
    go_wp2
    go_quiet (fail)
    go_wp2
    go_ret
    exact ⟨_, _, by rw [HA.out]; rfl, rfl⟩

/-- The blocks of a data buffer. -/
def Foot (z : Nat) (sv : Value) (chs : List Ch) (k : Nat) : Prop := k = z ∨ sv.ownBlock = some k ∨ ∃ c ∈ chs, c.1 = k
theorem DB.lt {B z : Nat} {w : World} {chs : List Ch} {sv : Value} {r wv : Nat} {q : List UInt8} {ex : Int} (h : DB B z w chs sv r wv q ex) : ∀ k, Foot z sv chs k → k < w.heap.size := by
  rintro k (rfl | hk | ⟨c, hc, rfl⟩)
  · exact h.zb.lt
  · exact (h.cs.own.lt k hk).2
  · exact (h.cs.blk c hc).2.2.lt
theorem Chs.same {B : Nat} {w w' : World} {chs : List Ch} {sv : Value} {F : Nat → Prop} (h : Chs B w chs sv) (hs : Same F w w') (h1 : ∀ k, sv.ownBlock = some k → ¬ F k) (h2 : ∀ c ∈ chs, ¬ F c.1) : Chs B w' chs sv :=
  ⟨ownsRow_same h.own hs h1, fun c hc => ⟨(h.blk c hc).1, (h.blk c hc).2.1, (h.blk c hc).2.2.same hs (h2 c hc)⟩, h.nd⟩
theorem DB.same {B z : Nat} {w w' : World} {chs : List Ch} {sv : Value} {r wv : Nat} {q : List UInt8} {ex : Int} {F : Nat → Prop} (h : DB B z w chs sv r wv q ex) (hs : Same F w w') (hF : ∀ k, Foot z sv chs k → ¬ F k) : DB B z w' chs sv r wv q ex :=
  ⟨h.zB, Nat.le_trans h.hB hs.size, h.cs.same hs (fun k hk => hF k (.inr (.inl hk))) (fun c hc => hF c.1 (.inr (.inr ⟨c, hc, rfl⟩))), h.zb.same hs (hF z (.inl rfl)), h.ok, h.exb, h.hq, h.bd⟩
/-- What a store into the buffer's own block leaves of its chunks. -/
theorem Chs.setz {B z o : Nat} {w : World} {chs : List Ch} {sv u : Value} (h : Chs B w chs sv) (hz : z < B) : Chs B (w.setCell ⟨z, o, none⟩ u) chs sv :=
  h.same (F := fun k => k = z) (((Same.refl (fun k => k = z) w).setCell (p := ⟨z, o, none⟩) (fun _ => rfl) u)) (fun k hk hc => by have := (h.own.lt k hk).1; omega) (fun c hc hk => by have := (h.blk c hc).1; omega)
end Go.Proofs.YtalpilbpgkijlaaDoor
