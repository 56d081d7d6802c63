/- What the closure of impl.Inflow does at one step, case by case (the walks). No condition. -/
import Derived.Test.YtalpilbpgkijlaaDoorInDefs
namespace Go.Proofs.YtalpilbpgkijlaaDoor
open Go.RowKit
set_option maxRecDepth 100000
set_option maxHeartbeats 1000000

theorem clos_bothno (b : Nat) (a0 u0 a1 u1 : Int) (ad : Option Addr) (ln cp : Nat) (w : World) (hS : Blk w b #[.int .i32 a0, .int .i32 u0, .int .i32 a1, .int .i32 u1] 52) (ha : 0 ≤ a0) (ha' : a0 ≤ 2147483647) (hc : 0 ≤ a1) (hc' : a1 ≤ 2147483647) (which n : Int) (hw0 : 0 ≤ which) (hw1 : which ≤ 1) (hn : 0 ≤ n) (hn' : n ≤ 2147483647) (hlt0 : a0 < n ∨ a1 < n) :
    Calls Tryd.prog 22 #[.agg #[.int .i64 3, .int .i64 which, .int .i64 n, .slice ad ln cp], .pointer (some ⟨b, 0, none⟩)] w fun e w' => InPost b w (.plain 0 false false) a0 u0 a1 u1 e w' := by
  have hlt := hS.lt
  have hne : ¬ b = w.heap.size := by omega
  have hne1 : ¬ b = w.heap.size + 1 := by omega
  have c0 : w.cell? ⟨b, 0, none⟩ = some (.int .i32 a0) := by rw [hS.cell]; rfl
  have c1 : w.cell? ⟨b, 1, none⟩ = some (.int .i32 u0) := by rw [hS.cell]; rfl
  have c2 : w.cell? ⟨b, 2, none⟩ = some (.int .i32 a1) := by rw [hS.cell]; rfl
  have c3 : w.cell? ⟨b, 3, none⟩ = some (.int .i32 u1) := by rw [hS.cell]; rfl
  have f0 : w.frozen? ⟨b, 0, none⟩ = false := hS.free _
  have f1 : w.frozen? ⟨b, 1, none⟩ = false := hS.free _
  have f2 : w.frozen? ⟨b, 2, none⟩ = false := hS.free _
  have f3 : w.frozen? ⟨b, 3, none⟩ = false := hS.free _
  have HS := Lib.hid hS
  clear hS
  go_enter Tryd.func22, Tryd.ntmps22
  have HM := Lib.hid hlt0
  clear hlt0
  go_wp2_with fail
  refine (mboth_no b a0 a1 n _ ha ha' hc hc' hn hn' HM.out (((HS.out.alloc _).alloc _).cell 0) (((HS.out.alloc _).alloc _).cell 2)).mono ?_
  rintro e w' ⟨rfl, q, rfl⟩
  go_wp2
  refine bodyPost_ret (v := (ResV.plain 0 false false).agg) (by simp [results, Tryd.results22, go_sem, ResV.plain, ResV.agg]) rfl ?_
  exact ⟨rfl, by (repeat (first | (with_reducible exact HS.out) | (with_reducible apply Blk.drewN) | (with_reducible apply Blk.drew) | (with_reducible apply Blk.alloc) | (with_reducible refine Blk.other' ?_ hne) | (with_reducible refine Blk.other' ?_ hne1) | (with_reducible apply Blk.set') | rfl)), by (repeat (first | (with_reducible exact Same.refl _ _) | (with_reducible apply Same.drewN) | (with_reducible apply Same.drew) | (with_reducible apply Same.alloc) | (with_reducible apply Same.set') | (intro h; first | rfl | omega | (exfalso; simp at h <;> omega))))⟩

theorem clos_both (b : Nat) (a0 u0 a1 u1 : Int) (ad : Option Addr) (ln cp : Nat) (w : World) (hS : Blk w b #[.int .i32 a0, .int .i32 u0, .int .i32 a1, .int .i32 u1] 52) (ha : 0 ≤ a0) (ha' : a0 ≤ 2147483647) (_hc : 0 ≤ a1) (hc' : a1 ≤ 2147483647) (which n : Int) (hw0 : 0 ≤ which) (hw1 : which ≤ 1) (hn : 0 ≤ n) (hlt0 : n ≤ a0) (hlt1 : n ≤ a1) :
    Calls Tryd.prog 22 #[.agg #[.int .i64 3, .int .i64 which, .int .i64 n, .slice ad ln cp], .pointer (some ⟨b, 0, none⟩)] w fun e w' => InPost b w (.plain 0 true false) (a0 - n) u0 (a1 - n) u1 e w' := by
  have hlt := hS.lt
  have hne : ¬ b = w.heap.size := by omega
  have hne1 : ¬ b = w.heap.size + 1 := by omega
  have c0 : w.cell? ⟨b, 0, none⟩ = some (.int .i32 a0) := by rw [hS.cell]; rfl
  have c1 : w.cell? ⟨b, 1, none⟩ = some (.int .i32 u0) := by rw [hS.cell]; rfl
  have c2 : w.cell? ⟨b, 2, none⟩ = some (.int .i32 a1) := by rw [hS.cell]; rfl
  have c3 : w.cell? ⟨b, 3, none⟩ = some (.int .i32 u1) := by rw [hS.cell]; rfl
  have f0 : w.frozen? ⟨b, 0, none⟩ = false := hS.free _
  have f1 : w.frozen? ⟨b, 1, none⟩ = false := hS.free _
  have f2 : w.frozen? ⟨b, 2, none⟩ = false := hS.free _
  have f3 : w.frozen? ⟨b, 3, none⟩ = false := hS.free _
  have HS := Lib.hid hS
  clear hS
  go_enter Tryd.func22, Tryd.ntmps22
  go_wp2_with fail
  refine (mboth_yes b a0 a1 n _ ha' hc' hn hlt0 hlt1 (((HS.out.alloc _).alloc _).cell 0) (((HS.out.alloc _).alloc _).cell 2) (((HS.out.alloc _).alloc _).free 0) (((HS.out.alloc _).alloc _).free 2)).mono ?_
  rintro e w' ⟨rfl, q, rfl⟩
  go_wp2
  refine bodyPost_ret (v := (ResV.plain 0 true false).agg) (by simp [results, Tryd.results22, go_sem, ResV.plain, ResV.agg]) rfl ?_
  exact ⟨rfl, by (repeat (first | (with_reducible exact HS.out) | (with_reducible apply Blk.drewN) | (with_reducible apply Blk.drew) | (with_reducible apply Blk.alloc) | (with_reducible refine Blk.other' ?_ hne) | (with_reducible refine Blk.other' ?_ hne1) | (with_reducible apply Blk.set') | rfl)), by (repeat (first | (with_reducible exact Same.refl _ _) | (with_reducible apply Same.drewN) | (with_reducible apply Same.drew) | (with_reducible apply Same.alloc) | (with_reducible apply Same.set') | (intro h; first | rfl | omega | (exfalso; simp at h <;> omega))))⟩

theorem clos_whichlo (b : Nat) (a0 u0 a1 u1 : Int) (ad : Option Addr) (ln cp : Nat) (w : World) (hS : Blk w b #[.int .i32 a0, .int .i32 u0, .int .i32 a1, .int .i32 u1] 52) (what which n : Int) (hx : which < 0) :
    Calls Tryd.prog 22 #[.agg #[.int .i64 what, .int .i64 which, .int .i64 n, .slice ad ln cp], .pointer (some ⟨b, 0, none⟩)] w fun e w' => InPost b w (.plain 0 false false) a0 u0 a1 u1 e w' := by
  have hlt := hS.lt
  have hne : ¬ b = w.heap.size := by omega
  have hne1 : ¬ b = w.heap.size + 1 := by omega
  have c0 : w.cell? ⟨b, 0, none⟩ = some (.int .i32 a0) := by rw [hS.cell]; rfl
  have c1 : w.cell? ⟨b, 1, none⟩ = some (.int .i32 u0) := by rw [hS.cell]; rfl
  have c2 : w.cell? ⟨b, 2, none⟩ = some (.int .i32 a1) := by rw [hS.cell]; rfl
  have c3 : w.cell? ⟨b, 3, none⟩ = some (.int .i32 u1) := by rw [hS.cell]; rfl
  have f0 : w.frozen? ⟨b, 0, none⟩ = false := hS.free _
  have f1 : w.frozen? ⟨b, 1, none⟩ = false := hS.free _
  have f2 : w.frozen? ⟨b, 2, none⟩ = false := hS.free _
  have f3 : w.frozen? ⟨b, 3, none⟩ = false := hS.free _
  have HS := Lib.hid hS
  clear hS
  go_enter Tryd.func22, Tryd.ntmps22
  go_wp2
  refine bodyPost_ret (v := (ResV.plain 0 false false).agg) (by simp [results, Tryd.results22, go_sem, ResV.plain, ResV.agg]) rfl ?_
  exact ⟨rfl, by (repeat (first | (with_reducible exact HS.out) | (with_reducible apply Blk.drewN) | (with_reducible apply Blk.drew) | (with_reducible apply Blk.alloc) | (with_reducible refine Blk.other' ?_ hne) | (with_reducible refine Blk.other' ?_ hne1) | (with_reducible apply Blk.set') | rfl)), by (repeat (first | (with_reducible exact Same.refl _ _) | (with_reducible apply Same.drewN) | (with_reducible apply Same.drew) | (with_reducible apply Same.alloc) | (with_reducible apply Same.set') | (intro h; first | rfl | omega | (exfalso; simp at h <;> omega))))⟩

theorem clos_whichhi (b : Nat) (a0 u0 a1 u1 : Int) (ad : Option Addr) (ln cp : Nat) (w : World) (hS : Blk w b #[.int .i32 a0, .int .i32 u0, .int .i32 a1, .int .i32 u1] 52) (what which n : Int) (hx : 1 < which) :
    Calls Tryd.prog 22 #[.agg #[.int .i64 what, .int .i64 which, .int .i64 n, .slice ad ln cp], .pointer (some ⟨b, 0, none⟩)] w fun e w' => InPost b w (.plain 0 false false) a0 u0 a1 u1 e w' := by
  have hlt := hS.lt
  have hne : ¬ b = w.heap.size := by omega
  have hne1 : ¬ b = w.heap.size + 1 := by omega
  have c0 : w.cell? ⟨b, 0, none⟩ = some (.int .i32 a0) := by rw [hS.cell]; rfl
  have c1 : w.cell? ⟨b, 1, none⟩ = some (.int .i32 u0) := by rw [hS.cell]; rfl
  have c2 : w.cell? ⟨b, 2, none⟩ = some (.int .i32 a1) := by rw [hS.cell]; rfl
  have c3 : w.cell? ⟨b, 3, none⟩ = some (.int .i32 u1) := by rw [hS.cell]; rfl
  have f0 : w.frozen? ⟨b, 0, none⟩ = false := hS.free _
  have f1 : w.frozen? ⟨b, 1, none⟩ = false := hS.free _
  have f2 : w.frozen? ⟨b, 2, none⟩ = false := hS.free _
  have f3 : w.frozen? ⟨b, 3, none⟩ = false := hS.free _
  have HS := Lib.hid hS
  clear hS
  go_enter Tryd.func22, Tryd.ntmps22
  go_wp2
  refine bodyPost_ret (v := (ResV.plain 0 false false).agg) (by simp [results, Tryd.results22, go_sem, ResV.plain, ResV.agg]) rfl ?_
  exact ⟨rfl, by (repeat (first | (with_reducible exact HS.out) | (with_reducible apply Blk.drewN) | (with_reducible apply Blk.drew) | (with_reducible apply Blk.alloc) | (with_reducible refine Blk.other' ?_ hne) | (with_reducible refine Blk.other' ?_ hne1) | (with_reducible apply Blk.set') | rfl)), by (repeat (first | (with_reducible exact Same.refl _ _) | (with_reducible apply Same.drewN) | (with_reducible apply Same.drew) | (with_reducible apply Same.alloc) | (with_reducible apply Same.set') | (intro h; first | rfl | omega | (exfalso; simp at h <;> omega))))⟩

theorem clos_whatlo (b : Nat) (a0 u0 a1 u1 : Int) (ad : Option Addr) (ln cp : Nat) (w : World) (hS : Blk w b #[.int .i32 a0, .int .i32 u0, .int .i32 a1, .int .i32 u1] 52) (what which n : Int) (hw0 : 0 ≤ which) (hw1 : which ≤ 1) (hx : what < 0) :
    Calls Tryd.prog 22 #[.agg #[.int .i64 what, .int .i64 which, .int .i64 n, .slice ad ln cp], .pointer (some ⟨b, 0, none⟩)] w fun e w' => InPost b w (.plain 0 false false) a0 u0 a1 u1 e w' := by
  have hlt := hS.lt
  have hne : ¬ b = w.heap.size := by omega
  have hne1 : ¬ b = w.heap.size + 1 := by omega
  have c0 : w.cell? ⟨b, 0, none⟩ = some (.int .i32 a0) := by rw [hS.cell]; rfl
  have c1 : w.cell? ⟨b, 1, none⟩ = some (.int .i32 u0) := by rw [hS.cell]; rfl
  have c2 : w.cell? ⟨b, 2, none⟩ = some (.int .i32 a1) := by rw [hS.cell]; rfl
  have c3 : w.cell? ⟨b, 3, none⟩ = some (.int .i32 u1) := by rw [hS.cell]; rfl
  have f0 : w.frozen? ⟨b, 0, none⟩ = false := hS.free _
  have f1 : w.frozen? ⟨b, 1, none⟩ = false := hS.free _
  have f2 : w.frozen? ⟨b, 2, none⟩ = false := hS.free _
  have f3 : w.frozen? ⟨b, 3, none⟩ = false := hS.free _
  have HS := Lib.hid hS
  clear hS
  go_enter Tryd.func22, Tryd.ntmps22
  go_wp2
  refine bodyPost_ret (v := (ResV.plain 0 false false).agg) (by simp [results, Tryd.results22, go_sem, ResV.plain, ResV.agg]) rfl ?_
  exact ⟨rfl, by (repeat (first | (with_reducible exact HS.out) | (with_reducible apply Blk.drewN) | (with_reducible apply Blk.drew) | (with_reducible apply Blk.alloc) | (with_reducible refine Blk.other' ?_ hne) | (with_reducible refine Blk.other' ?_ hne1) | (with_reducible apply Blk.set') | rfl)), by (repeat (first | (with_reducible exact Same.refl _ _) | (with_reducible apply Same.drewN) | (with_reducible apply Same.drew) | (with_reducible apply Same.alloc) | (with_reducible apply Same.set') | (intro h; first | rfl | omega | (exfalso; simp at h <;> omega))))⟩

theorem clos_whathi (b : Nat) (a0 u0 a1 u1 : Int) (ad : Option Addr) (ln cp : Nat) (w : World) (hS : Blk w b #[.int .i32 a0, .int .i32 u0, .int .i32 a1, .int .i32 u1] 52) (what which n : Int) (hw0 : 0 ≤ which) (hw1 : which ≤ 1) (hx : 3 < what) :
    Calls Tryd.prog 22 #[.agg #[.int .i64 what, .int .i64 which, .int .i64 n, .slice ad ln cp], .pointer (some ⟨b, 0, none⟩)] w fun e w' => InPost b w (.plain 0 false false) a0 u0 a1 u1 e w' := by
  have hlt := hS.lt
  have hne : ¬ b = w.heap.size := by omega
  have hne1 : ¬ b = w.heap.size + 1 := by omega
  have c0 : w.cell? ⟨b, 0, none⟩ = some (.int .i32 a0) := by rw [hS.cell]; rfl
  have c1 : w.cell? ⟨b, 1, none⟩ = some (.int .i32 u0) := by rw [hS.cell]; rfl
  have c2 : w.cell? ⟨b, 2, none⟩ = some (.int .i32 a1) := by rw [hS.cell]; rfl
  have c3 : w.cell? ⟨b, 3, none⟩ = some (.int .i32 u1) := by rw [hS.cell]; rfl
  have f0 : w.frozen? ⟨b, 0, none⟩ = false := hS.free _
  have f1 : w.frozen? ⟨b, 1, none⟩ = false := hS.free _
  have f2 : w.frozen? ⟨b, 2, none⟩ = false := hS.free _
  have f3 : w.frozen? ⟨b, 3, none⟩ = false := hS.free _
  have HS := Lib.hid hS
  clear hS
  go_enter Tryd.func22, Tryd.ntmps22
  go_wp2
  refine bodyPost_ret (v := (ResV.plain 0 false false).agg) (by simp [results, Tryd.results22, go_sem, ResV.plain, ResV.agg]) rfl ?_
  exact ⟨rfl, by (repeat (first | (with_reducible exact HS.out) | (with_reducible apply Blk.drewN) | (with_reducible apply Blk.drew) | (with_reducible apply Blk.alloc) | (with_reducible refine Blk.other' ?_ hne) | (with_reducible refine Blk.other' ?_ hne1) | (with_reducible apply Blk.set') | rfl)), by (repeat (first | (with_reducible exact Same.refl _ _) | (with_reducible apply Same.drewN) | (with_reducible apply Same.drew) | (with_reducible apply Same.alloc) | (with_reducible apply Same.set') | (intro h; first | rfl | omega | (exfalso; simp at h <;> omega))))⟩
end Go.Proofs.YtalpilbpgkijlaaDoor
