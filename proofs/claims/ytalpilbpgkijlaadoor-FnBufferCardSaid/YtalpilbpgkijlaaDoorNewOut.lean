/- ZZNewOutflows(4): a connection's windows and four streams', in new memory (the walk). No condition. -/
import Derived.Test.YtalpilbpgkijlaaDoorOutDefs
import Derived.Test.YtalpilbpgkijlaaDoorApp
import Derived.Deep.RegionLaw
import Derived.Deep.AppendLies
namespace Go.Proofs.YtalpilbpgkijlaaDoor
open Go.RowKit
set_option maxRecDepth 100000
set_option maxHeartbeats 3200000

theorem info97 : (Tryd.prog.info? 97).map (fun i => (i.zero, i.size, i.bytes)) = some (some (.pointer none), 1, 8) := by kernel_rfl

/-- Streams' windows in memory: a block each, each with 65,535 less nothing: the difference 0. -/
def Strs (w : World) (z : Nat) (sv : Value) (ps : List Nat) : Prop :=
  w.ownsRow (z + 1) 97 1 sv ps.length (ps.map fun p => .pointer (some ⟨p, 0, none⟩)) ∧ ps.Nodup ∧ ∀ p ∈ ps, z < p ∧ sv.ownBlock ≠ some p ∧ Blk w p #[.int .i32 0, .pointer (some ⟨z, 0, none⟩)] 102

def NewRel (w : World) (k : Nat) (i : Value) (wr : World) : Prop :=
  ∃ (ps : List Nat) (sv : Value), k + ps.length = 4 ∧ i = .int .i64 ps.length ∧ Same (fun _ => False) w wr ∧ Blk wr w.heap.size #[.int .i32 65535, .int .i32 65535, .bool false, sv] 96 ∧ Strs wr w.heap.size sv ps

def NewPost (w : World) (e : Ending) (w' : World) : Prop :=
  e = .returned (.pointer (some ⟨w.heap.size, 0, none⟩)) ∧ ∃ (ps : List Nat) (sv : Value), ps.length = 4 ∧ Same (fun _ => False) w w' ∧ Blk w' w.heap.size #[.int .i32 65535, .int .i32 65535, .bool false, sv] 96 ∧ Strs w' w.heap.size sv ps

theorem new_next {w wr w1 : World} {ps : List Nat} {sv : Value} {k gg cap : Nat} (hk : k + ps.length = 4) (hj : ps.length < 4) (hS : Same (fun _ => False) w wr) (hz : Blk wr w.heap.size #[.int .i32 65535, .int .i32 65535, .bool false, sv] 96)
    (hO : wr.ownsRow (w.heap.size + 1) 97 1 sv ps.length (ps.map fun p => .pointer (some ⟨p, 0, none⟩))) (hNd : ps.Nodup) (hps : ∀ p ∈ ps, w.heap.size < p ∧ sv.ownBlock ≠ some p ∧ Blk wr p #[.int .i32 0, .pointer (some ⟨w.heap.size, 0, none⟩)] 102)
    (hown1 : w1.ownsRow (w.heap.size + 1) 97 1 (.slice (some ⟨gg, 0, none⟩) (ps.length + 1) cap) (ps.length + 1) ((ps.map fun p => .pointer (some ⟨p, 0, none⟩)) ++ [.pointer (some ⟨wr.heap.size, 0, none⟩)]))
    (hgrow : ((wr.alloc (.cells #[.int .i32 0, .pointer (some ⟨w.heap.size, 0, none⟩)] 102)).alloc (.cells #[.pointer (some ⟨wr.heap.size, 0, none⟩)] 97)).drew.grownBy w1 sv.ownBlock) (hat : sv.ownBlock = some gg ∨ gg = wr.heap.size + 2) :
    NewRel w (k - 1) (.int .i64 ((ps.length : Int) + 1)) (w1.setCell ⟨w.heap.size, 3, none⟩ (.slice (some ⟨gg, 0, none⟩) (ps.length + 1) cap)) := by
  have hzl := hz.lt
  have hlt := hO.lt
  have s1 : Same (fun k => sv.ownBlock = some k) wr w1 :=
    ((((Same.refl (fun _ => False) wr).alloc _).alloc _).drew.mono (G := fun k => sv.ownBlock = some k) (fun _ _ h => h.elim)).trans (Same.of_grown hgrow) (fun _ _ h => h)
  have hnz : ¬ sv.ownBlock = some w.heap.size := fun h => by have := (hlt _ h).1; omega
  have bN : Blk w1 wr.heap.size #[.int .i32 0, .pointer (some ⟨w.heap.size, 0, none⟩)] 102 := by
    refine Blk.same (((Blk.new wr _ _).alloc _).drew) (Same.of_grown hgrow) (fun h => ?_)
    have := (hlt _ h).2; omega
  refine ⟨ps ++ [wr.heap.size], .slice (some ⟨gg, 0, none⟩) (ps.length + 1) cap, by simp; omega, by simp, ?_, ?_, ?_, ?_, ?_⟩
  · refine (hS.trans s1 (fun k hk h => ?_)).setCell (fun h => ?_) _
    · have := (hlt k h).1; omega
    · simp at h
  · exact (hz.same s1 hnz).set' rfl
  · have h := ownsRow_setCell_below hown1 (a := ⟨w.heap.size, 3, none⟩) (by simp) (.slice (some ⟨gg, 0, none⟩) (ps.length + 1) cap)
    simpa using h
  · rw [List.nodup_append]
    refine ⟨hNd, by simp, ?_⟩
    intro a ha b hb
    have hlt' := (hps a ha).2.2.lt
    simp only [List.mem_singleton] at hb
    omega
  · intro p hp
    rw [List.mem_append] at hp
    rcases hp with hp | hp
    · obtain ⟨h1, h2, h3⟩ := hps p hp
      have hlt' := h3.lt
      refine ⟨h1, fun h => ?_, (h3.same s1 h2).other' (by omega)⟩
      simp only [Value.ownBlock, Option.some.injEq] at h
      rcases hat with h' | h'
      · rw [h] at h'; exact h2 h'
      · omega
    · simp only [List.mem_singleton] at hp
      subst hp
      refine ⟨hzl, fun h => ?_, bN.other' (by omega)⟩
      simp only [Value.ownBlock, Option.some.injEq] at h
      rcases hat with h' | h'
      · have := (hlt _ h').2; omega
      · omega

theorem new_out (w : World) : Calls Tryd.prog 33 #[.int .i64 4] w (NewPost w) := by
  go_enter Tryd.func33, Tryd.ntmps33
  go_wp2_with (go_at_call 49; go_in)
  go_end0
  go_wp2
  go_loopg [4] 4 (fun k i wr => NewRel w k i wr)
  case atStart =>
    exact ⟨[], .slice none 0 0, rfl, rfl, (Same.refl _ _).alloc _, Blk.new _ _ _, World.ownsRow_nil _ _ _ _, List.nodup_nil, fun p h => by cases h⟩
  case round =>
    obtain ⟨ps, sv, hk, rfl, hS, hz, hOwn, hNd, hps⟩ := hrel
    by_cases hj : ps.length < 4
    · obtain ⟨i0, hi, hz0, hz1, hz2⟩ := info_parts info97
      have hzl := hz.lt
      have z3 : wr.cell? ⟨w.heap.size, 3, none⟩ = some sv := hz.cell 3
      have f3 : wr.frozen? ⟨w.heap.size, 3, none⟩ = false := hz.free 3
      have hnez : sv.ownBlock ≠ some w.heap.size := fun h => by have := (hOwn.lt _ h).1; omega
      have hlt4 : (ps.length : Int) < 4 := by omega
      have hlt4' : ¬ ((ps.length : Int) < 0) := by omega
      have hzne : ¬ w.heap.size = wr.heap.size := by omega
      have hzne1 : ¬ w.heap.size = wr.heap.size + 1 := by omega
      have A := Lib.hid (And.intro hk (And.intro hS (And.intro hz (And.intro hNd hps))))
      clear hk hS hz hNd hps
      have HO := Lib.hid hOwn
      clear hOwn
      go_wp2_with fail
      go_region_law
        ((refine step_append_lies _ (by rfl) _ _ _ (by rfl) (w.heap.size + 1) 97 i0 _ 1 8 Tryd.underlying94 hi hz0 hz1 hz2 rfl (by omega) sv ps.length (ps.map fun p => .pointer (some ⟨p, 0, none⟩)) (by rfl) (((HO.out.alloc _).alloc _).drew)
            ⟨wr.heap.size + 1, 0, none⟩ 1 1 [.pointer (some ⟨wr.heap.size, 0, none⟩)] (by rfl) (by rfl) (cells_new2 wr _ [.pointer (some ⟨wr.heap.size, 0, none⟩)] 97) (by simp [Value.oneCell'])
            (by omega) (by unfold maxLen; omega) (by omega) (by simp; omega) (wr.heap.size + 2) (by simp) ?_; intro gg cap w1 hown1 hgrow hat hlt; have c3 : w1.cell? ⟨w.heap.size, 3, none⟩ = some sv := hgrow.cell (a := ⟨w.heap.size, 3, none⟩) (((A.out.2.2.1.alloc _).alloc _).drew.cell 3) (Ne.symm hnez); have g3 : w1.frozen? ⟨w.heap.size, 3, none⟩ = false := (hgrow.frozen_far ⟨w.heap.size, 3, none⟩ (by simp; omega) (Ne.symm hnez)).trans (((A.out.2.2.1.alloc _).alloc _).drew.free 3)))
      go_wp2
      · go_roundg (gk - 1)
        case measure => (have := A.out.1; omega)
        case rel => exact new_next A.out.1 hj A.out.2.1 A.out.2.2.1 HO.out A.out.2.2.2.1 A.out.2.2.2.2 hown1 hgrow hat
      · go_roundg (gk - 1)
        case measure => (have := A.out.1; omega)
        case rel => exact new_next A.out.1 hj A.out.2.1 A.out.2.2.1 HO.out A.out.2.2.2.1 A.out.2.2.2.2 hown1 hgrow hat
      · go_roundg (gk - 1)
        case measure => (have := A.out.1; omega)
        case rel => exact new_next A.out.1 hj A.out.2.1 A.out.2.2.1 HO.out A.out.2.2.2.1 A.out.2.2.2.2 hown1 hgrow hat
    · have h4 : ps.length = 4 := by omega
      have A := Lib.hid (And.intro h4 (And.intro hS (And.intro hz (And.intro hOwn (And.intro hNd hps)))))
      clear h4 hk hS hz hOwn hNd hps
      have hge : ¬ ((ps.length : Int) < 4) := by omega
      go_wp2
      go_ret
      exact ⟨rfl, ps, sv, A.out.1, A.out.2.1, A.out.2.2.1, A.out.2.2.2⟩
end Go.Proofs.YtalpilbpgkijlaaDoor
