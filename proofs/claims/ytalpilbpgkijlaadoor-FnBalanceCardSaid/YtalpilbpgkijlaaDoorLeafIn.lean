/- What the functions of the inbound window do, called alone (the walks of init, add, take, takeInflows and their thin methods). No condition. -/
import Derived.Test.YtalpilbpgkijlaaDoorKit
namespace Go.Proofs.YtalpilbpgkijlaaDoor
open Go.RowKit
set_option maxRecDepth 100000


theorem add_neg (p : Value) (n : Int) (w : World) (hn : n < 0) :
    Calls Tryd.prog 43 #[p, .int .i64 n] w fun e w' => Dies w e w' := by
  go_enter Tryd.func43, Tryd.ntmps43
  go_wp2
  exact ⟨rfl, _, rfl, rfl⟩

theorem add_over (b off : Nat) (a u n : Int) (w : World) (hu : 0 ≤ u) (hu' : u ≤ 2147483647) (ha : 0 ≤ a) (ha' : a ≤ 2147483647) (hn : 0 ≤ n) (hn' : n ≤ 2147483647) (hov : 2147483647 < u + n + a)
    (h0 : w.cell? ⟨b, off, none⟩ = some (.int .i32 a)) (h1 : w.cell? ⟨b, off + 1, none⟩ = some (.int .i32 u)) :
    Calls Tryd.prog 43 #[.pointer (some ⟨b, off, none⟩), .int .i64 n] w fun e w' => Dies w e w' := by
  go_enter Tryd.func43, Tryd.ntmps43
  go_wp2
  exact ⟨rfl, _, rfl, rfl⟩

theorem add_wait (b off : Nat) (a u n : Int) (w : World) (hu : 0 ≤ u) (ha' : a ≤ 2147483647) (hn : 0 ≤ n) (hov : u + n + a ≤ 2147483647) (hs : u + n < 4096) (hb : u + n < a)
    (h0 : w.cell? ⟨b, off, none⟩ = some (.int .i32 a)) (h1 : w.cell? ⟨b, off + 1, none⟩ = some (.int .i32 u)) (f1 : w.frozen? ⟨b, off + 1, none⟩ = false) :
    Calls Tryd.prog 43 #[.pointer (some ⟨b, off, none⟩), .int .i64 n] w fun e w' => e = .returned (.int .i32 0) ∧ Drawn (w.setCell ⟨b, off + 1, none⟩ (.int .i32 (u + n))) w' := by
  go_enter Tryd.func43, Tryd.ntmps43
  go_wp2
  go_quiet (fail)
  go_wp2
  go_ret
  exact ⟨rfl, _, rfl⟩

theorem add_flush (b off : Nat) (a u n : Int) (w : World) (hu : 0 ≤ u) (ha : 0 ≤ a) (hn : 0 ≤ n) (hov : u + n + a ≤ 2147483647) (hs : 4096 ≤ u + n)
    (h0 : w.cell? ⟨b, off, none⟩ = some (.int .i32 a)) (h1 : w.cell? ⟨b, off + 1, none⟩ = some (.int .i32 u)) (f0 : w.frozen? ⟨b, off, none⟩ = false) (f1 : w.frozen? ⟨b, off + 1, none⟩ = false) :
    Calls Tryd.prog 43 #[.pointer (some ⟨b, off, none⟩), .int .i64 n] w fun e w' => e = .returned (.int .i32 (u + n)) ∧ Drawn (((w.setCell ⟨b, off + 1, none⟩ (.int .i32 (u + n))).setCell ⟨b, off, none⟩ (.int .i32 (a + (u + n)))).setCell ⟨b, off + 1, none⟩ (.int .i32 0)) w' := by
  have hd : decide (u + n < 4096) = false := by simpa using hs
  go_enter Tryd.func43, Tryd.ntmps43
  go_wp2
  go_quiet (fail)
  go_wp2
  go_region
  go_wp2
  all_goals go_ret

  all_goals exact ⟨rfl, _, rfl⟩

theorem add_flush2 (b off : Nat) (a u n : Int) (w : World) (hu : 0 ≤ u) (ha : 0 ≤ a) (hn : 0 ≤ n) (hov : u + n + a ≤ 2147483647) (hs : u + n < 4096) (hb : a ≤ u + n)
    (h0 : w.cell? ⟨b, off, none⟩ = some (.int .i32 a)) (h1 : w.cell? ⟨b, off + 1, none⟩ = some (.int .i32 u)) (f0 : w.frozen? ⟨b, off, none⟩ = false) (f1 : w.frozen? ⟨b, off + 1, none⟩ = false) :
    Calls Tryd.prog 43 #[.pointer (some ⟨b, off, none⟩), .int .i64 n] w fun e w' => e = .returned (.int .i32 (u + n)) ∧ Drawn (((w.setCell ⟨b, off + 1, none⟩ (.int .i32 (u + n))).setCell ⟨b, off, none⟩ (.int .i32 (a + (u + n)))).setCell ⟨b, off + 1, none⟩ (.int .i32 0)) w' := by
  go_enter Tryd.func43, Tryd.ntmps43
  go_wp2
  go_quiet (fail)
  go_wp2
  go_region
  go_wp2
  all_goals go_ret

  all_goals exact ⟨rfl, _, rfl⟩

theorem take_no (b off : Nat) (a n : Int) (w : World) (ha : 0 ≤ a) (ha' : a ≤ 2147483647) (_hn : n ≤ 4294967295) (hlt : a < n)
    (hc : w.cell? ⟨b, off, none⟩ = some (.int .i32 a)) :
    Calls Tryd.prog 44 #[.pointer (some ⟨b, off, none⟩), .int .u32 n] w fun e w' => e = .returned (.bool false) ∧ w = w' := by
  go_enter Tryd.func44, Tryd.ntmps44
  go_wp2
  go_ret
  exact ⟨rfl, rfl⟩

theorem take_yes (b off : Nat) (a n : Int) (w : World) (ha' : a ≤ 2147483647) (hn : 0 ≤ n) (hlt : n ≤ a)
    (hc : w.cell? ⟨b, off, none⟩ = some (.int .i32 a)) (hf : w.frozen? ⟨b, off, none⟩ = false) :
    Calls Tryd.prog 44 #[.pointer (some ⟨b, off, none⟩), .int .u32 n] w fun e w' => e = .returned (.bool true) ∧ w.setCell ⟨b, off, none⟩ (.int .i32 (a - n)) = w' := by
  go_enter Tryd.func44, Tryd.ntmps44
  go_wp2
  go_ret
  exact ⟨rfl, rfl⟩

theorem both_no (b : Nat) (a c n : Int) (w : World) (ha : 0 ≤ a) (ha' : a ≤ 2147483647) (_hc0 : 0 ≤ c) (_hc' : c ≤ 2147483647) (_hn : n ≤ 4294967295) (hlt : a < n)
    (h0 : w.cell? ⟨b, 0, none⟩ = some (.int .i32 a)) :
    Calls Tryd.prog 45 #[.pointer (some ⟨b, 0, none⟩), .pointer (some ⟨b, 2, none⟩), .int .u32 n] w fun e w' => e = .returned (.bool false) ∧ w = w' := by
  go_enter Tryd.func45, Tryd.ntmps45
  go_wp2
  go_ret
  exact ⟨rfl, rfl⟩

theorem both_no2 (b : Nat) (a c n : Int) (w : World) (ha' : a ≤ 2147483647) (hc0 : 0 ≤ c) (hc' : c ≤ 2147483647) (_hn : 0 ≤ n) (hlt : n ≤ a) (hlt2 : c < n)
    (h0 : w.cell? ⟨b, 0, none⟩ = some (.int .i32 a)) (h2 : w.cell? ⟨b, 2, none⟩ = some (.int .i32 c)) :
    Calls Tryd.prog 45 #[.pointer (some ⟨b, 0, none⟩), .pointer (some ⟨b, 2, none⟩), .int .u32 n] w fun e w' => e = .returned (.bool false) ∧ w = w' := by
  go_enter Tryd.func45, Tryd.ntmps45
  go_wp2
  go_ret
  exact ⟨rfl, rfl⟩

theorem both_yes (b : Nat) (a c n : Int) (w : World) (ha' : a ≤ 2147483647) (hc' : c ≤ 2147483647) (_hn : 0 ≤ n) (hlt : n ≤ a) (hlt2 : n ≤ c)
    (h0 : w.cell? ⟨b, 0, none⟩ = some (.int .i32 a)) (h2 : w.cell? ⟨b, 2, none⟩ = some (.int .i32 c)) (f0 : w.frozen? ⟨b, 0, none⟩ = false) (f2 : w.frozen? ⟨b, 2, none⟩ = false) :
    Calls Tryd.prog 45 #[.pointer (some ⟨b, 0, none⟩), .pointer (some ⟨b, 2, none⟩), .int .u32 n] w fun e w' => e = .returned (.bool true) ∧ (w.setCell ⟨b, 0, none⟩ (.int .i32 (a - n))).setCell ⟨b, 2, none⟩ (.int .i32 (c - n)) = w' := by
  go_enter Tryd.func45, Tryd.ntmps45
  go_wp2
  go_ret
  exact ⟨rfl, rfl⟩

theorem madd_neg (b off : Nat) (n : Int) (w : World) (hn : n < 0) :
    Calls Tryd.prog 24 #[.pointer (some ⟨b, off, none⟩), .int .i64 n] w fun e w' => Dies w e w' := by
  go_enter Tryd.func24, Tryd.ntmps24
  go_wp2_with (go_at_call 43; refine (add_neg _ _ _ hn).mono ?_; rintro e w' ⟨s, rfl, rfl⟩)
  exact ⟨rfl, _, rfl, rfl⟩

theorem madd_over (b off : Nat) (a u n : Int) (w : World) (hu : 0 ≤ u) (hu' : u ≤ 2147483647) (ha : 0 ≤ a) (ha' : a ≤ 2147483647) (hn : 0 ≤ n) (hn' : n ≤ 2147483647) (hov : 2147483647 < u + n + a)
    (h0 : w.cell? ⟨b, off, none⟩ = some (.int .i32 a)) (h1 : w.cell? ⟨b, off + 1, none⟩ = some (.int .i32 u)) :
    Calls Tryd.prog 24 #[.pointer (some ⟨b, off, none⟩), .int .i64 n] w fun e w' => Dies w e w' := by
  go_enter Tryd.func24, Tryd.ntmps24
  go_wp2_with (go_at_call 43; refine (add_over _ _ _ _ _ _ hu hu' ha ha' hn hn' hov h0 h1).mono ?_; rintro e w' ⟨s, rfl, rfl⟩)
  exact ⟨rfl, _, rfl, rfl⟩

theorem madd_wait (b off : Nat) (a u n : Int) (w : World) (hu : 0 ≤ u) (ha' : a ≤ 2147483647) (hn : 0 ≤ n) (hov : u + n + a ≤ 2147483647) (hs : u + n < 4096) (hb : u + n < a)
    (h0 : w.cell? ⟨b, off, none⟩ = some (.int .i32 a)) (h1 : w.cell? ⟨b, off + 1, none⟩ = some (.int .i32 u)) (f1 : w.frozen? ⟨b, off + 1, none⟩ = false) :
    Calls Tryd.prog 24 #[.pointer (some ⟨b, off, none⟩), .int .i64 n] w fun e w' => e = .returned (.int .i32 0) ∧ Drawn (w.setCell ⟨b, off + 1, none⟩ (.int .i32 (u + n))) w' := by
  go_enter Tryd.func24, Tryd.ntmps24
  go_wp2_with (go_at_call 43; refine (add_wait _ _ _ _ _ _ hu ha' hn hov hs hb h0 h1 f1).mono ?_; rintro e w' ⟨rfl, q, rfl⟩)
  go_ret
  exact ⟨rfl, _, rfl⟩

theorem madd_flush (b off : Nat) (a u n : Int) (w : World) (hu : 0 ≤ u) (ha : 0 ≤ a) (hn : 0 ≤ n) (hov : u + n + a ≤ 2147483647) (hs : 4096 ≤ u + n ∨ a ≤ u + n)
    (h0 : w.cell? ⟨b, off, none⟩ = some (.int .i32 a)) (h1 : w.cell? ⟨b, off + 1, none⟩ = some (.int .i32 u)) (f0 : w.frozen? ⟨b, off, none⟩ = false) (f1 : w.frozen? ⟨b, off + 1, none⟩ = false) :
    Calls Tryd.prog 24 #[.pointer (some ⟨b, off, none⟩), .int .i64 n] w fun e w' => e = .returned (.int .i32 (u + n)) ∧ Drawn (((w.setCell ⟨b, off + 1, none⟩ (.int .i32 (u + n))).setCell ⟨b, off, none⟩ (.int .i32 (a + (u + n)))).setCell ⟨b, off + 1, none⟩ (.int .i32 0)) w' := by
  have hadd : Calls Tryd.prog 43 #[.pointer (some ⟨b, off, none⟩), .int .i64 n] w fun e w' => e = .returned (.int .i32 (u + n)) ∧ Drawn (((w.setCell ⟨b, off + 1, none⟩ (.int .i32 (u + n))).setCell ⟨b, off, none⟩ (.int .i32 (a + (u + n)))).setCell ⟨b, off + 1, none⟩ (.int .i32 0)) w' := by
    by_cases h : 4096 ≤ u + n
    · exact add_flush b off a u n w hu ha hn hov h h0 h1 f0 f1
    · exact add_flush2 b off a u n w hu ha hn hov (by omega) (by omega) h0 h1 f0 f1
  clear hs
  have HA := Lib.hid hadd
  clear hadd
  go_enter Tryd.func24, Tryd.ntmps24
  go_wp2_with (go_at_call 43; refine HA.out.mono ?_; rintro e w' ⟨rfl, q, rfl⟩)
  go_ret
  exact ⟨rfl, _, rfl⟩

theorem mboth_no (b : Nat) (a c n : Int) (w : World) (ha : 0 ≤ a) (ha' : a ≤ 2147483647) (hc0 : 0 ≤ c) (hc' : c ≤ 2147483647) (_hn : 0 ≤ n) (_hn' : n ≤ 2147483647) (hlt : a < n ∨ c < n)
    (h0 : w.cell? ⟨b, 0, none⟩ = some (.int .i32 a)) (h2 : w.cell? ⟨b, 2, none⟩ = some (.int .i32 c)) :
    Calls Tryd.prog 26 #[.pointer (some ⟨b, 0, none⟩), .pointer (some ⟨b, 2, none⟩), .int .u32 n] w fun e w' => e = .returned (.bool false) ∧ Drawn w w' := by
  have hb : Calls Tryd.prog 45 #[.pointer (some ⟨b, 0, none⟩), .pointer (some ⟨b, 2, none⟩), .int .u32 n] w.drew fun e w' => e = .returned (.bool false) ∧ w.drew = w' := by
    by_cases h : a < n
    · exact both_no b a c n _ ha ha' hc0 hc' (by omega) h h0
    · exact both_no2 b a c n _ ha' hc0 hc' (by omega) (by omega) (by omega) h0 h2
  clear hlt
  have HB := Lib.hid hb
  clear hb
  go_enter Tryd.func26, Tryd.ntmps26
  go_wp2
  refine still_tail 7 _ rfl (by kernel_rfl) (by kernel_rfl) ?_
  simp only [List.take_succ_cons, List.take_zero, List.drop_succ_cons, List.drop_zero]
  repeat still_step
  refine wpStill_nil ?_
  go_wp2_with (go_at_call 45; refine HB.out.mono ?_; rintro e w' ⟨rfl, rfl⟩)
  go_ret
  exact ⟨rfl, 1, rfl⟩

theorem mboth_yes (b : Nat) (a c n : Int) (w : World) (ha' : a ≤ 2147483647) (hc' : c ≤ 2147483647) (_hn : 0 ≤ n) (hlt : n ≤ a) (hlt2 : n ≤ c)
    (h0 : w.cell? ⟨b, 0, none⟩ = some (.int .i32 a)) (h2 : w.cell? ⟨b, 2, none⟩ = some (.int .i32 c)) (f0 : w.frozen? ⟨b, 0, none⟩ = false) (f2 : w.frozen? ⟨b, 2, none⟩ = false) :
    Calls Tryd.prog 26 #[.pointer (some ⟨b, 0, none⟩), .pointer (some ⟨b, 2, none⟩), .int .u32 n] w fun e w' => e = .returned (.bool true) ∧ Drawn ((w.setCell ⟨b, 0, none⟩ (.int .i32 (a - n))).setCell ⟨b, 2, none⟩ (.int .i32 (c - n))) w' := by
  have hb : Calls Tryd.prog 45 #[.pointer (some ⟨b, 0, none⟩), .pointer (some ⟨b, 2, none⟩), .int .u32 n] w.drew fun e w' => e = .returned (.bool true) ∧ (w.drew.setCell ⟨b, 0, none⟩ (.int .i32 (a - n))).setCell ⟨b, 2, none⟩ (.int .i32 (c - n)) = w' :=
    both_yes b a c n _ ha' hc' _hn hlt hlt2 h0 h2 f0 f2
  have HB := Lib.hid hb
  clear hb
  go_enter Tryd.func26, Tryd.ntmps26
  go_wp2
  refine still_tail 7 _ rfl (by kernel_rfl) (by kernel_rfl) ?_
  simp only [List.take_succ_cons, List.take_zero, List.drop_succ_cons, List.drop_zero]
  repeat still_step
  refine wpStill_nil ?_
  go_wp2_with (go_at_call 45; refine HB.out.mono ?_; rintro e w' ⟨rfl, rfl⟩)
  go_ret
  exact ⟨rfl, 1, rfl⟩

theorem mtake_no (b off : Nat) (a n : Int) (w : World) (ha : 0 ≤ a) (ha' : a ≤ 2147483647) (hn : n ≤ 4294967295) (hlt : a < n)
    (hc : w.cell? ⟨b, off, none⟩ = some (.int .i32 a)) :
    Calls Tryd.prog 25 #[.pointer (some ⟨b, off, none⟩), .int .u32 n] w fun e w' => e = .returned (.bool false) ∧ w = w' := by
  go_enter Tryd.func25, Tryd.ntmps25
  go_wp2_with (go_at_call 44; refine (take_no _ _ _ _ _ ha ha' hn hlt hc).mono ?_; rintro e w' ⟨rfl, rfl⟩)
  go_ret
  exact ⟨rfl, rfl⟩

theorem mtake_yes (b off : Nat) (a n : Int) (w : World) (ha' : a ≤ 2147483647) (hn : 0 ≤ n) (hlt : n ≤ a)
    (hc : w.cell? ⟨b, off, none⟩ = some (.int .i32 a)) (hf : w.frozen? ⟨b, off, none⟩ = false) :
    Calls Tryd.prog 25 #[.pointer (some ⟨b, off, none⟩), .int .u32 n] w fun e w' => e = .returned (.bool true) ∧ w.setCell ⟨b, off, none⟩ (.int .i32 (a - n)) = w' := by
  go_enter Tryd.func25, Tryd.ntmps25
  go_wp2_with (go_at_call 44; refine (take_yes _ _ _ _ _ ha' hn hlt hc hf).mono ?_; rintro e w' ⟨rfl, rfl⟩)
  go_ret
  exact ⟨rfl, rfl⟩
end Go.Proofs.YtalpilbpgkijlaaDoor
