/- What the closure of impl.Inflow does at one step, case by case (the walks). No condition. -/
import Derived.Test.YtalpilbpgkijlaaDoorInDefs
namespace Go.Proofs.YtalpilbpgkijlaaDoor
open Go.RowKit
set_option maxRecDepth 100000
set_option maxHeartbeats 1000000

theorem clos_init0 (b : Nat) (a0 u0 a1 u1 : Int) (ad : Option Addr) (ln cp : Nat) (w : World) (hS : Blk w b #[.int .i32 a0, .int .i32 u0, .int .i32 a1, .int .i32 u1] 52) (n : Int) (h0n : 0 ≤ n) (hn : n ≤ 2147483647) :
    Calls Tryd.prog 22 #[.agg #[.int .i64 0, .int .i64 0, .int .i64 n, .slice ad ln cp], .pointer (some ⟨b, 0, none⟩)] w fun e w' => InPost b w (.plain 0 false false) n u0 a1 u1 e w' := by
  have hlt := hS.lt
  have hne : ¬ b = w.heap.size := by omega
  have hne1 : ¬ b = w.heap.size + 1 := by omega
  have c0 : w.cell? ⟨b, 0, none⟩ = some (.int .i32 a0) := by rw [hS.cell]; rfl
  have c1 : w.cell? ⟨b, 1, none⟩ = some (.int .i32 u0) := by rw [hS.cell]; rfl
  have c2 : w.cell? ⟨b, 2, none⟩ = some (.int .i32 a1) := by rw [hS.cell]; rfl
  have c3 : w.cell? ⟨b, 3, none⟩ = some (.int .i32 u1) := by rw [hS.cell]; rfl
  have f0 : w.frozen? ⟨b, 0, none⟩ = false := hS.free _
  have f1 : w.frozen? ⟨b, 1, none⟩ = false := hS.free _
  have f2 : w.frozen? ⟨b, 2, none⟩ = false := hS.free _
  have f3 : w.frozen? ⟨b, 3, none⟩ = false := hS.free _
  have HS := Lib.hid hS
  clear hS
  go_enter Tryd.func22, Tryd.ntmps22
  go_wp2
  refine still_tail 6 _ rfl (by kernel_rfl) (by kernel_rfl) ?_
  simp only [List.take_succ_cons, List.take_zero, List.drop_succ_cons, List.drop_zero]
  repeat still_step
  refine wpStill_nil ?_
  go_wp2
  go_end0
  go_wp2
  go_end0
  go_wp2
  refine bodyPost_ret (v := (ResV.plain 0 false false).agg) (by simp [results, Tryd.results22, go_sem, ResV.plain, ResV.agg]) rfl ?_
  exact ⟨rfl, by (repeat (first | (with_reducible exact HS.out) | (with_reducible apply Blk.drewN) | (with_reducible apply Blk.drew) | (with_reducible apply Blk.alloc) | (with_reducible refine Blk.other' ?_ hne) | (with_reducible refine Blk.other' ?_ hne1) | (with_reducible apply Blk.set') | rfl)), by (repeat (first | (with_reducible exact Same.refl _ _) | (with_reducible apply Same.drewN) | (with_reducible apply Same.drew) | (with_reducible apply Same.alloc) | (with_reducible apply Same.set') | (intro h; first | rfl | omega | (exfalso; simp at h <;> omega))))⟩

theorem clos_neg0 (b : Nat) (a0 u0 a1 u1 : Int) (ad : Option Addr) (ln cp : Nat) (w : World) (hS : Blk w b #[.int .i32 a0, .int .i32 u0, .int .i32 a1, .int .i32 u1] 52) (n : Int) (hn : n < 0) :
    Calls Tryd.prog 22 #[.agg #[.int .i64 1, .int .i64 0, .int .i64 n, .slice ad ln cp], .pointer (some ⟨b, 0, none⟩)] w fun e w' => InDies b w e w' := by
  have hlt := hS.lt
  have hne : ¬ b = w.heap.size := by omega
  have hne1 : ¬ b = w.heap.size + 1 := by omega
  have c0 : w.cell? ⟨b, 0, none⟩ = some (.int .i32 a0) := by rw [hS.cell]; rfl
  have c1 : w.cell? ⟨b, 1, none⟩ = some (.int .i32 u0) := by rw [hS.cell]; rfl
  have c2 : w.cell? ⟨b, 2, none⟩ = some (.int .i32 a1) := by rw [hS.cell]; rfl
  have c3 : w.cell? ⟨b, 3, none⟩ = some (.int .i32 u1) := by rw [hS.cell]; rfl
  have f0 : w.frozen? ⟨b, 0, none⟩ = false := hS.free _
  have f1 : w.frozen? ⟨b, 1, none⟩ = false := hS.free _
  have f2 : w.frozen? ⟨b, 2, none⟩ = false := hS.free _
  have f3 : w.frozen? ⟨b, 3, none⟩ = false := hS.free _
  have HS := Lib.hid hS
  clear hS
  go_enter Tryd.func22, Tryd.ntmps22
  go_wp2
  refine still_tail 5 _ rfl (by kernel_rfl) (by kernel_rfl) ?_
  simp only [List.take_succ_cons, List.take_zero, List.drop_succ_cons, List.drop_zero]
  repeat still_step
  refine wpStill_nil ?_
  go_wp2_with fail
  refine (madd_neg b 0 n _ hn).mono ?_
  rintro e w' ⟨s, rfl, rfl⟩
  go_wp2
  exact ⟨rfl, ⟨_, rfl⟩, by (repeat (first | (with_reducible exact Same.refl _ _) | (with_reducible apply Same.drewN) | (with_reducible apply Same.drew) | (with_reducible apply Same.alloc) | (with_reducible apply Same.set') | (intro h; first | rfl | omega | (exfalso; simp at h <;> omega))))⟩

theorem clos_over0 (b : Nat) (a0 u0 a1 u1 : Int) (ad : Option Addr) (ln cp : Nat) (w : World) (hS : Blk w b #[.int .i32 a0, .int .i32 u0, .int .i32 a1, .int .i32 u1] 52) (hu : 0 ≤ u0) (hu' : u0 ≤ 2147483647) (ha : 0 ≤ a0) (ha' : a0 ≤ 2147483647) (n : Int) (hn : 0 ≤ n) (hn' : n ≤ 2147483647) (hov : 2147483647 < u0 + n + a0) :
    Calls Tryd.prog 22 #[.agg #[.int .i64 1, .int .i64 0, .int .i64 n, .slice ad ln cp], .pointer (some ⟨b, 0, none⟩)] w fun e w' => InDies b w e w' := by
  have hlt := hS.lt
  have hne : ¬ b = w.heap.size := by omega
  have hne1 : ¬ b = w.heap.size + 1 := by omega
  have c0 : w.cell? ⟨b, 0, none⟩ = some (.int .i32 a0) := by rw [hS.cell]; rfl
  have c1 : w.cell? ⟨b, 1, none⟩ = some (.int .i32 u0) := by rw [hS.cell]; rfl
  have c2 : w.cell? ⟨b, 2, none⟩ = some (.int .i32 a1) := by rw [hS.cell]; rfl
  have c3 : w.cell? ⟨b, 3, none⟩ = some (.int .i32 u1) := by rw [hS.cell]; rfl
  have f0 : w.frozen? ⟨b, 0, none⟩ = false := hS.free _
  have f1 : w.frozen? ⟨b, 1, none⟩ = false := hS.free _
  have f2 : w.frozen? ⟨b, 2, none⟩ = false := hS.free _
  have f3 : w.frozen? ⟨b, 3, none⟩ = false := hS.free _
  have HS := Lib.hid hS
  clear hS
  go_enter Tryd.func22, Tryd.ntmps22
  go_wp2
  refine still_tail 5 _ rfl (by kernel_rfl) (by kernel_rfl) ?_
  simp only [List.take_succ_cons, List.take_zero, List.drop_succ_cons, List.drop_zero]
  repeat still_step
  refine wpStill_nil ?_
  go_wp2_with fail
  refine (madd_over b 0 a0 u0 n _ hu hu' ha ha' hn hn' hov (((HS.out.alloc _).alloc _).drew.cell 0) (((HS.out.alloc _).alloc _).drew.cell 1)).mono ?_
  rintro e w' ⟨s, rfl, rfl⟩
  go_wp2
  exact ⟨rfl, ⟨_, rfl⟩, by (repeat (first | (with_reducible exact Same.refl _ _) | (with_reducible apply Same.drewN) | (with_reducible apply Same.drew) | (with_reducible apply Same.alloc) | (with_reducible apply Same.set') | (intro h; first | rfl | omega | (exfalso; simp at h <;> omega))))⟩

theorem clos_wait0 (b : Nat) (a0 u0 a1 u1 : Int) (ad : Option Addr) (ln cp : Nat) (w : World) (hS : Blk w b #[.int .i32 a0, .int .i32 u0, .int .i32 a1, .int .i32 u1] 52) (hu : 0 ≤ u0) (_hu' : u0 ≤ 2147483647) (_ha : 0 ≤ a0) (ha' : a0 ≤ 2147483647) (n : Int) (hn : 0 ≤ n) (hov : u0 + n + a0 ≤ 2147483647) (hs : u0 + n < 4096) (hb : u0 + n < a0) :
    Calls Tryd.prog 22 #[.agg #[.int .i64 1, .int .i64 0, .int .i64 n, .slice ad ln cp], .pointer (some ⟨b, 0, none⟩)] w fun e w' => InPost b w (.plain 0 false false) a0 (u0 + n) a1 u1 e w' := by
  have hlt := hS.lt
  have hne : ¬ b = w.heap.size := by omega
  have hne1 : ¬ b = w.heap.size + 1 := by omega
  have c0 : w.cell? ⟨b, 0, none⟩ = some (.int .i32 a0) := by rw [hS.cell]; rfl
  have c1 : w.cell? ⟨b, 1, none⟩ = some (.int .i32 u0) := by rw [hS.cell]; rfl
  have c2 : w.cell? ⟨b, 2, none⟩ = some (.int .i32 a1) := by rw [hS.cell]; rfl
  have c3 : w.cell? ⟨b, 3, none⟩ = some (.int .i32 u1) := by rw [hS.cell]; rfl
  have f0 : w.frozen? ⟨b, 0, none⟩ = false := hS.free _
  have f1 : w.frozen? ⟨b, 1, none⟩ = false := hS.free _
  have f2 : w.frozen? ⟨b, 2, none⟩ = false := hS.free _
  have f3 : w.frozen? ⟨b, 3, none⟩ = false := hS.free _
  have HS := Lib.hid hS
  clear hS
  go_enter Tryd.func22, Tryd.ntmps22
  go_wp2
  refine still_tail 5 _ rfl (by kernel_rfl) (by kernel_rfl) ?_
  simp only [List.take_succ_cons, List.take_zero, List.drop_succ_cons, List.drop_zero]
  repeat still_step
  refine wpStill_nil ?_
  go_wp2_with fail
  refine (madd_wait b 0 a0 u0 n _ hu ha' hn hov hs hb (((HS.out.alloc _).alloc _).drew.cell 0) (((HS.out.alloc _).alloc _).drew.cell 1) (((HS.out.alloc _).alloc _).drew.free 1)).mono ?_
  rintro e w' ⟨rfl, q, rfl⟩
  go_wp2
  refine bodyPost_ret (v := (ResV.plain 0 false false).agg) (by simp [results, Tryd.results22, go_sem, ResV.plain, ResV.agg]) rfl ?_
  exact ⟨rfl, by (repeat (first | (with_reducible exact HS.out) | (with_reducible apply Blk.drewN) | (with_reducible apply Blk.drew) | (with_reducible apply Blk.alloc) | (with_reducible refine Blk.other' ?_ hne) | (with_reducible refine Blk.other' ?_ hne1) | (with_reducible apply Blk.set') | rfl)), by (repeat (first | (with_reducible exact Same.refl _ _) | (with_reducible apply Same.drewN) | (with_reducible apply Same.drew) | (with_reducible apply Same.alloc) | (with_reducible apply Same.set') | (intro h; first | rfl | omega | (exfalso; simp at h <;> omega))))⟩

theorem clos_flush0 (b : Nat) (a0 u0 a1 u1 : Int) (ad : Option Addr) (ln cp : Nat) (w : World) (hS : Blk w b #[.int .i32 a0, .int .i32 u0, .int .i32 a1, .int .i32 u1] 52) (hu : 0 ≤ u0) (hu' : u0 ≤ 2147483647) (ha : 0 ≤ a0) (ha' : a0 ≤ 2147483647) (n : Int) (hn : 0 ≤ n) (hov : u0 + n + a0 ≤ 2147483647) (hs : 4096 ≤ u0 + n ∨ a0 ≤ u0 + n) :
    Calls Tryd.prog 22 #[.agg #[.int .i64 1, .int .i64 0, .int .i64 n, .slice ad ln cp], .pointer (some ⟨b, 0, none⟩)] w fun e w' => InPost b w (.plain (u0 + n) false false) (a0 + (u0 + n)) 0 a1 u1 e w' := by
  have hlt := hS.lt
  have hne : ¬ b = w.heap.size := by omega
  have hne1 : ¬ b = w.heap.size + 1 := by omega
  have c0 : w.cell? ⟨b, 0, none⟩ = some (.int .i32 a0) := by rw [hS.cell]; rfl
  have c1 : w.cell? ⟨b, 1, none⟩ = some (.int .i32 u0) := by rw [hS.cell]; rfl
  have c2 : w.cell? ⟨b, 2, none⟩ = some (.int .i32 a1) := by rw [hS.cell]; rfl
  have c3 : w.cell? ⟨b, 3, none⟩ = some (.int .i32 u1) := by rw [hS.cell]; rfl
  have f0 : w.frozen? ⟨b, 0, none⟩ = false := hS.free _
  have f1 : w.frozen? ⟨b, 1, none⟩ = false := hS.free _
  have f2 : w.frozen? ⟨b, 2, none⟩ = false := hS.free _
  have f3 : w.frozen? ⟨b, 3, none⟩ = false := hS.free _
  have HS := Lib.hid hS
  clear hS
  go_enter Tryd.func22, Tryd.ntmps22
  have HM := Lib.hid hs
  clear hs
  go_wp2
  refine still_tail 5 _ rfl (by kernel_rfl) (by kernel_rfl) ?_
  simp only [List.take_succ_cons, List.take_zero, List.drop_succ_cons, List.drop_zero]
  repeat still_step
  refine wpStill_nil ?_
  go_wp2_with fail
  refine (madd_flush b 0 a0 u0 n _ hu ha hn hov HM.out (((HS.out.alloc _).alloc _).drew.cell 0) (((HS.out.alloc _).alloc _).drew.cell 1) (((HS.out.alloc _).alloc _).drew.free 0) (((HS.out.alloc _).alloc _).drew.free 1)).mono ?_
  rintro e w' ⟨rfl, q, rfl⟩
  go_wp2
  refine bodyPost_ret (v := (ResV.plain (u0 + n) false false).agg) (by simp [results, Tryd.results22, go_sem, ResV.plain, ResV.agg]) rfl ?_
  exact ⟨rfl, by (repeat (first | (with_reducible exact HS.out) | (with_reducible apply Blk.drewN) | (with_reducible apply Blk.drew) | (with_reducible apply Blk.alloc) | (with_reducible refine Blk.other' ?_ hne) | (with_reducible refine Blk.other' ?_ hne1) | (with_reducible apply Blk.set') | rfl)), by (repeat (first | (with_reducible exact Same.refl _ _) | (with_reducible apply Same.drewN) | (with_reducible apply Same.drew) | (with_reducible apply Same.alloc) | (with_reducible apply Same.set') | (intro h; first | rfl | omega | (exfalso; simp at h <;> omega))))⟩

theorem clos_takeno0 (b : Nat) (a0 u0 a1 u1 : Int) (ad : Option Addr) (ln cp : Nat) (w : World) (hS : Blk w b #[.int .i32 a0, .int .i32 u0, .int .i32 a1, .int .i32 u1] 52) (_hu : 0 ≤ u0) (_hu' : u0 ≤ 2147483647) (ha : 0 ≤ a0) (ha' : a0 ≤ 2147483647) (n : Int) (_hn : 0 ≤ n) (hn' : n ≤ 2147483647) (hlt0 : a0 < n) :
    Calls Tryd.prog 22 #[.agg #[.int .i64 2, .int .i64 0, .int .i64 n, .slice ad ln cp], .pointer (some ⟨b, 0, none⟩)] w fun e w' => InPost b w (.plain 0 false false) a0 u0 a1 u1 e w' := by
  have hlt := hS.lt
  have hne : ¬ b = w.heap.size := by omega
  have hne1 : ¬ b = w.heap.size + 1 := by omega
  have c0 : w.cell? ⟨b, 0, none⟩ = some (.int .i32 a0) := by rw [hS.cell]; rfl
  have c1 : w.cell? ⟨b, 1, none⟩ = some (.int .i32 u0) := by rw [hS.cell]; rfl
  have c2 : w.cell? ⟨b, 2, none⟩ = some (.int .i32 a1) := by rw [hS.cell]; rfl
  have c3 : w.cell? ⟨b, 3, none⟩ = some (.int .i32 u1) := by rw [hS.cell]; rfl
  have f0 : w.frozen? ⟨b, 0, none⟩ = false := hS.free _
  have f1 : w.frozen? ⟨b, 1, none⟩ = false := hS.free _
  have f2 : w.frozen? ⟨b, 2, none⟩ = false := hS.free _
  have f3 : w.frozen? ⟨b, 3, none⟩ = false := hS.free _
  have HS := Lib.hid hS
  clear hS
  go_enter Tryd.func22, Tryd.ntmps22
  go_wp2
  refine still_tail 6 _ rfl (by kernel_rfl) (by kernel_rfl) ?_
  simp only [List.take_succ_cons, List.take_zero, List.drop_succ_cons, List.drop_zero]
  repeat still_step
  refine wpStill_nil ?_
  go_wp2_with fail
  refine (mtake_no b 0 a0 n _ ha ha' (by omega) hlt0 (((HS.out.alloc _).alloc _).drew.cell 0)).mono ?_
  rintro e w' ⟨rfl, rfl⟩
  go_wp2
  refine bodyPost_ret (v := (ResV.plain 0 false false).agg) (by simp [results, Tryd.results22, go_sem, ResV.plain, ResV.agg]) rfl ?_
  exact ⟨rfl, by (repeat (first | (with_reducible exact HS.out) | (with_reducible apply Blk.drewN) | (with_reducible apply Blk.drew) | (with_reducible apply Blk.alloc) | (with_reducible refine Blk.other' ?_ hne) | (with_reducible refine Blk.other' ?_ hne1) | (with_reducible apply Blk.set') | rfl)), by (repeat (first | (with_reducible exact Same.refl _ _) | (with_reducible apply Same.drewN) | (with_reducible apply Same.drew) | (with_reducible apply Same.alloc) | (with_reducible apply Same.set') | (intro h; first | rfl | omega | (exfalso; simp at h <;> omega))))⟩

theorem clos_take0 (b : Nat) (a0 u0 a1 u1 : Int) (ad : Option Addr) (ln cp : Nat) (w : World) (hS : Blk w b #[.int .i32 a0, .int .i32 u0, .int .i32 a1, .int .i32 u1] 52) (_hu : 0 ≤ u0) (_hu' : u0 ≤ 2147483647) (ha : 0 ≤ a0) (ha' : a0 ≤ 2147483647) (n : Int) (hn : 0 ≤ n) (hlt0 : n ≤ a0) :
    Calls Tryd.prog 22 #[.agg #[.int .i64 2, .int .i64 0, .int .i64 n, .slice ad ln cp], .pointer (some ⟨b, 0, none⟩)] w fun e w' => InPost b w (.plain 0 true false) (a0 - n) u0 a1 u1 e w' := by
  have hlt := hS.lt
  have hne : ¬ b = w.heap.size := by omega
  have hne1 : ¬ b = w.heap.size + 1 := by omega
  have c0 : w.cell? ⟨b, 0, none⟩ = some (.int .i32 a0) := by rw [hS.cell]; rfl
  have c1 : w.cell? ⟨b, 1, none⟩ = some (.int .i32 u0) := by rw [hS.cell]; rfl
  have c2 : w.cell? ⟨b, 2, none⟩ = some (.int .i32 a1) := by rw [hS.cell]; rfl
  have c3 : w.cell? ⟨b, 3, none⟩ = some (.int .i32 u1) := by rw [hS.cell]; rfl
  have f0 : w.frozen? ⟨b, 0, none⟩ = false := hS.free _
  have f1 : w.frozen? ⟨b, 1, none⟩ = false := hS.free _
  have f2 : w.frozen? ⟨b, 2, none⟩ = false := hS.free _
  have f3 : w.frozen? ⟨b, 3, none⟩ = false := hS.free _
  have HS := Lib.hid hS
  clear hS
  go_enter Tryd.func22, Tryd.ntmps22
  go_wp2
  refine still_tail 6 _ rfl (by kernel_rfl) (by kernel_rfl) ?_
  simp only [List.take_succ_cons, List.take_zero, List.drop_succ_cons, List.drop_zero]
  repeat still_step
  refine wpStill_nil ?_
  go_wp2_with fail
  refine (mtake_yes b 0 a0 n _ ha' hn hlt0 (((HS.out.alloc _).alloc _).drew.cell 0) (((HS.out.alloc _).alloc _).drew.free 0)).mono ?_
  rintro e w' ⟨rfl, rfl⟩
  go_wp2
  refine bodyPost_ret (v := (ResV.plain 0 true false).agg) (by simp [results, Tryd.results22, go_sem, ResV.plain, ResV.agg]) rfl ?_
  exact ⟨rfl, by (repeat (first | (with_reducible exact HS.out) | (with_reducible apply Blk.drewN) | (with_reducible apply Blk.drew) | (with_reducible apply Blk.alloc) | (with_reducible refine Blk.other' ?_ hne) | (with_reducible refine Blk.other' ?_ hne1) | (with_reducible apply Blk.set') | rfl)), by (repeat (first | (with_reducible exact Same.refl _ _) | (with_reducible apply Same.drewN) | (with_reducible apply Same.drew) | (with_reducible apply Same.alloc) | (with_reducible apply Same.set') | (intro h; first | rfl | omega | (exfalso; simp at h <;> omega))))⟩
end Go.Proofs.YtalpilbpgkijlaaDoor
