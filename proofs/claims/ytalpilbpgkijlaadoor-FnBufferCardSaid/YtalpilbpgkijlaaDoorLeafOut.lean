/- What the functions of the outbound windows do, called alone (the walks of 49 to 54). Condition: the numbers in memory are of their kind. -/
import Derived.Test.YtalpilbpgkijlaaDoorKit
namespace Go.Proofs.YtalpilbpgkijlaaDoor
open Go.RowKit
set_option maxRecDepth 100000
set_option maxHeartbeats 1000000
theorem ret_pair {a b : Int} (h : a = b) : Ending.returned (.tuple #[.int .i32 a, .bool true]) = .returned (.tuple #[.int .i32 b, .bool true]) := by rw [h]
def I32 (x : Int) : Prop := -2147483648 ≤ x ∧ x ≤ 2147483647

theorem chg_big (z : Nat) (ini cn : Int) (err : Bool) (sv : Value) (w : World) (hz : Blk w z #[.int .i32 ini, .int .i32 cn, .bool err, sv] 96) (hi : I32 ini) (hc : I32 cn) (n : Int) (hn : 2147483647 < n) :
    Calls Tryd.prog 50 #[.pointer (some ⟨z, 0, none⟩), .int .i64 n] w fun e w' => e = .returned (.bool false) ∧ w.setCell ⟨z, 2, none⟩ (.bool true) = w' := by
  have z0 : w.cell? ⟨z, 0, none⟩ = some (.int .i32 ini) := hz.cell 0
  have z1 : w.cell? ⟨z, 1, none⟩ = some (.int .i32 cn) := hz.cell 1
  have z2 : w.cell? ⟨z, 2, none⟩ = some (.bool err) := hz.cell 2
  have g0 : w.frozen? ⟨z, 0, none⟩ = false := hz.free 0
  have g1 : w.frozen? ⟨z, 1, none⟩ = false := hz.free 1
  have g2 : w.frozen? ⟨z, 2, none⟩ = false := hz.free 2
  obtain ⟨hi1, hi2⟩ := hi
  obtain ⟨hc1, hc2⟩ := hc
  clear hz
  go_enter Tryd.func50, Tryd.ntmps50
  go_wp2
  go_ret
  exact ⟨rfl, rfl⟩

theorem chg_any (z : Nat) (ini cn : Int) (err : Bool) (sv : Value) (w : World) (hz : Blk w z #[.int .i32 ini, .int .i32 cn, .bool err, sv] 96) (hi : I32 ini) (hc : I32 cn) (n : Int) (hn : n ≤ 2147483647) :
    Calls Tryd.prog 50 #[.pointer (some ⟨z, 0, none⟩), .int .i64 n] w fun e w' => e = .returned (.bool true) ∧ w.setCell ⟨z, 0, none⟩ (.int .i32 (wrap32 n)) = w' := by
  have z0 : w.cell? ⟨z, 0, none⟩ = some (.int .i32 ini) := hz.cell 0
  have z1 : w.cell? ⟨z, 1, none⟩ = some (.int .i32 cn) := hz.cell 1
  have z2 : w.cell? ⟨z, 2, none⟩ = some (.bool err) := hz.cell 2
  have g0 : w.frozen? ⟨z, 0, none⟩ = false := hz.free 0
  have g1 : w.frozen? ⟨z, 1, none⟩ = false := hz.free 1
  have g2 : w.frozen? ⟨z, 2, none⟩ = false := hz.free 2
  obtain ⟨hi1, hi2⟩ := hi
  obtain ⟨hc1, hc2⟩ := hc
  clear hz
  go_enter Tryd.func50, Tryd.ntmps50
  go_wp2
  go_ret
  exact ⟨rfl, rfl⟩

theorem addc_big (z : Nat) (ini cn : Int) (err : Bool) (sv : Value) (w : World) (hz : Blk w z #[.int .i32 ini, .int .i32 cn, .bool err, sv] 96) (hi : I32 ini) (hc : I32 cn) (n : Int) (hn : I32 n) (h : 2147483647 < cn + n) :
    Calls Tryd.prog 51 #[.pointer (some ⟨z, 0, none⟩), .int .i32 n] w fun e w' => e = .returned (.bool false) ∧ w.setCell ⟨z, 2, none⟩ (.bool true) = w' := by
  have z0 : w.cell? ⟨z, 0, none⟩ = some (.int .i32 ini) := hz.cell 0
  have z1 : w.cell? ⟨z, 1, none⟩ = some (.int .i32 cn) := hz.cell 1
  have z2 : w.cell? ⟨z, 2, none⟩ = some (.bool err) := hz.cell 2
  have g0 : w.frozen? ⟨z, 0, none⟩ = false := hz.free 0
  have g1 : w.frozen? ⟨z, 1, none⟩ = false := hz.free 1
  have g2 : w.frozen? ⟨z, 2, none⟩ = false := hz.free 2
  obtain ⟨hi1, hi2⟩ := hi
  obtain ⟨hc1, hc2⟩ := hc
  clear hz
  obtain ⟨hn1, hn2⟩ := hn
  go_enter Tryd.func51, Tryd.ntmps51
  go_wp2
  go_ret
  exact ⟨rfl, rfl⟩

theorem addc_any (z : Nat) (ini cn : Int) (err : Bool) (sv : Value) (w : World) (hz : Blk w z #[.int .i32 ini, .int .i32 cn, .bool err, sv] 96) (hi : I32 ini) (hc : I32 cn) (n : Int) (hn : I32 n) (h : cn + n ≤ 2147483647) :
    Calls Tryd.prog 51 #[.pointer (some ⟨z, 0, none⟩), .int .i32 n] w fun e w' => e = .returned (.bool true) ∧ w.setCell ⟨z, 1, none⟩ (.int .i32 (wrap32 (cn + n))) = w' := by
  have z0 : w.cell? ⟨z, 0, none⟩ = some (.int .i32 ini) := hz.cell 0
  have z1 : w.cell? ⟨z, 1, none⟩ = some (.int .i32 cn) := hz.cell 1
  have z2 : w.cell? ⟨z, 2, none⟩ = some (.bool err) := hz.cell 2
  have g0 : w.frozen? ⟨z, 0, none⟩ = false := hz.free 0
  have g1 : w.frozen? ⟨z, 1, none⟩ = false := hz.free 1
  have g2 : w.frozen? ⟨z, 2, none⟩ = false := hz.free 2
  obtain ⟨hi1, hi2⟩ := hi
  obtain ⟨hc1, hc2⟩ := hc
  clear hz
  obtain ⟨hn1, hn2⟩ := hn
  go_enter Tryd.func51, Tryd.ntmps51
  go_wp2
  go_ret
  exact ⟨rfl, rfl⟩

theorem avail_err (z : Nat) (ini cn : Int)  (sv : Value) (w : World) (hz : Blk w z #[.int .i32 ini, .int .i32 cn, .bool true, sv] 96) (hi : I32 ini) (hc : I32 cn) (p : Nat) (d : Int) (hp : Blk w p #[.int .i32 d, .pointer (some ⟨z, 0, none⟩)] 102) (hd : I32 d) (hne : ¬ p = z) :
    Calls Tryd.prog 53 #[.pointer (some ⟨p, 0, none⟩)] w fun e w' => e = .returned (.tuple #[.int .i32 0, .bool false]) ∧ w = w' := by
  have z0 : w.cell? ⟨z, 0, none⟩ = some (.int .i32 ini) := hz.cell 0
  have z1 : w.cell? ⟨z, 1, none⟩ = some (.int .i32 cn) := hz.cell 1
  have z2 : w.cell? ⟨z, 2, none⟩ = some (.bool true) := hz.cell 2
  have g0 : w.frozen? ⟨z, 0, none⟩ = false := hz.free 0
  have g1 : w.frozen? ⟨z, 1, none⟩ = false := hz.free 1
  have g2 : w.frozen? ⟨z, 2, none⟩ = false := hz.free 2
  obtain ⟨hi1, hi2⟩ := hi
  obtain ⟨hc1, hc2⟩ := hc
  clear hz
  have p0 : w.cell? ⟨p, 0, none⟩ = some (.int .i32 d) := hp.cell 0
  have p1 : w.cell? ⟨p, 1, none⟩ = some (.pointer (some ⟨z, 0, none⟩)) := hp.cell 1
  have k0 : w.frozen? ⟨p, 0, none⟩ = false := hp.free 0
  obtain ⟨hd1, hd2⟩ := hd
  have hne' : ¬ z = p := fun h => hne h.symm
  clear hp
  go_enter Tryd.func53, Tryd.ntmps53
  go_wp2
  go_ret2
  exact ⟨rfl, rfl⟩

theorem avail_big (z : Nat) (ini cn : Int)  (sv : Value) (w : World) (hz : Blk w z #[.int .i32 ini, .int .i32 cn, .bool false, sv] 96) (hi : I32 ini) (hc : I32 cn) (p : Nat) (d : Int) (hp : Blk w p #[.int .i32 d, .pointer (some ⟨z, 0, none⟩)] 102) (hd : I32 d) (hne : ¬ p = z) (h : 2147483647 < ini + d) :
    Calls Tryd.prog 53 #[.pointer (some ⟨p, 0, none⟩)] w fun e w' => e = .returned (.tuple #[.int .i32 0, .bool false]) ∧ Drawn (w.setCell ⟨z, 2, none⟩ (.bool true)) w' := by
  have z0 : w.cell? ⟨z, 0, none⟩ = some (.int .i32 ini) := hz.cell 0
  have z1 : w.cell? ⟨z, 1, none⟩ = some (.int .i32 cn) := hz.cell 1
  have z2 : w.cell? ⟨z, 2, none⟩ = some (.bool false) := hz.cell 2
  have g0 : w.frozen? ⟨z, 0, none⟩ = false := hz.free 0
  have g1 : w.frozen? ⟨z, 1, none⟩ = false := hz.free 1
  have g2 : w.frozen? ⟨z, 2, none⟩ = false := hz.free 2
  obtain ⟨hi1, hi2⟩ := hi
  obtain ⟨hc1, hc2⟩ := hc
  clear hz
  have p0 : w.cell? ⟨p, 0, none⟩ = some (.int .i32 d) := hp.cell 0
  have p1 : w.cell? ⟨p, 1, none⟩ = some (.pointer (some ⟨z, 0, none⟩)) := hp.cell 1
  have k0 : w.frozen? ⟨p, 0, none⟩ = false := hp.free 0
  obtain ⟨hd1, hd2⟩ := hd
  have hne' : ¬ z = p := fun h => hne h.symm
  clear hp
  go_enter Tryd.func53, Tryd.ntmps53
  go_wp2
  go_quiet (fail)
  go_wp2
  go_ret2
  exact ⟨rfl, _, rfl⟩

theorem avail_any (z : Nat) (ini cn : Int)  (sv : Value) (w : World) (hz : Blk w z #[.int .i32 ini, .int .i32 cn, .bool false, sv] 96) (hi : I32 ini) (hc : I32 cn) (p : Nat) (d : Int) (hp : Blk w p #[.int .i32 d, .pointer (some ⟨z, 0, none⟩)] 102) (hd : I32 d) (hne : ¬ p = z) (h : ini + d ≤ 2147483647) :
    Calls Tryd.prog 53 #[.pointer (some ⟨p, 0, none⟩)] w fun e w' => e = .returned (.tuple #[.int .i32 (min (wrap32 (ini + d)) cn), .bool true]) ∧ Drawn w w' := by
  have z0 : w.cell? ⟨z, 0, none⟩ = some (.int .i32 ini) := hz.cell 0
  have z1 : w.cell? ⟨z, 1, none⟩ = some (.int .i32 cn) := hz.cell 1
  have z2 : w.cell? ⟨z, 2, none⟩ = some (.bool false) := hz.cell 2
  have g0 : w.frozen? ⟨z, 0, none⟩ = false := hz.free 0
  have g1 : w.frozen? ⟨z, 1, none⟩ = false := hz.free 1
  have g2 : w.frozen? ⟨z, 2, none⟩ = false := hz.free 2
  obtain ⟨hi1, hi2⟩ := hi
  obtain ⟨hc1, hc2⟩ := hc
  clear hz
  have p0 : w.cell? ⟨p, 0, none⟩ = some (.int .i32 d) := hp.cell 0
  have p1 : w.cell? ⟨p, 1, none⟩ = some (.pointer (some ⟨z, 0, none⟩)) := hp.cell 1
  have k0 : w.frozen? ⟨p, 0, none⟩ = false := hp.free 0
  obtain ⟨hd1, hd2⟩ := hd
  have hne' : ¬ z = p := fun h => hne h.symm
  clear hp
  go_enter Tryd.func53, Tryd.ntmps53
  go_wp2
  go_quiet (fail)
  go_wp2
  all_goals go_ret2
  all_goals exact ⟨ret_pair (by omega), _, rfl⟩

theorem adds_big (z : Nat) (ini cn : Int) (err : Bool) (sv : Value) (w : World) (hz : Blk w z #[.int .i32 ini, .int .i32 cn, .bool err, sv] 96) (hi : I32 ini) (hc : I32 cn) (p : Nat) (d : Int) (hp : Blk w p #[.int .i32 d, .pointer (some ⟨z, 0, none⟩)] 102) (hd : I32 d) (hne : ¬ p = z) (n : Int) (h : 2147483647 < ini + d) :
    Calls Tryd.prog 52 #[.pointer (some ⟨p, 0, none⟩), .int .i32 n] w fun e w' => e = .returned (.bool false) ∧ Drawn (w.setCell ⟨z, 2, none⟩ (.bool true)) w' := by
  have z0 : w.cell? ⟨z, 0, none⟩ = some (.int .i32 ini) := hz.cell 0
  have z1 : w.cell? ⟨z, 1, none⟩ = some (.int .i32 cn) := hz.cell 1
  have z2 : w.cell? ⟨z, 2, none⟩ = some (.bool err) := hz.cell 2
  have g0 : w.frozen? ⟨z, 0, none⟩ = false := hz.free 0
  have g1 : w.frozen? ⟨z, 1, none⟩ = false := hz.free 1
  have g2 : w.frozen? ⟨z, 2, none⟩ = false := hz.free 2
  obtain ⟨hi1, hi2⟩ := hi
  obtain ⟨hc1, hc2⟩ := hc
  clear hz
  have p0 : w.cell? ⟨p, 0, none⟩ = some (.int .i32 d) := hp.cell 0
  have p1 : w.cell? ⟨p, 1, none⟩ = some (.pointer (some ⟨z, 0, none⟩)) := hp.cell 1
  have k0 : w.frozen? ⟨p, 0, none⟩ = false := hp.free 0
  obtain ⟨hd1, hd2⟩ := hd
  have hne' : ¬ z = p := fun h => hne h.symm
  clear hp
  go_enter Tryd.func52, Tryd.ntmps52
  go_wp2
  go_quiet (fail)
  go_wp2
  go_ret
  exact ⟨rfl, _, rfl⟩

theorem adds_no (z : Nat) (ini cn : Int) (err : Bool) (sv : Value) (w : World) (hz : Blk w z #[.int .i32 ini, .int .i32 cn, .bool err, sv] 96) (hi : I32 ini) (hc : I32 cn) (p : Nat) (d : Int) (hp : Blk w p #[.int .i32 d, .pointer (some ⟨z, 0, none⟩)] 102) (hd : I32 d) (hne : ¬ p = z) (n : Int) (hn : I32 n) (h : ini + d ≤ 2147483647) (h' : 2147483647 < ini + d + n) :
    Calls Tryd.prog 52 #[.pointer (some ⟨p, 0, none⟩), .int .i32 n] w fun e w' => e = .returned (.bool false) ∧ Drawn w w' := by
  have z0 : w.cell? ⟨z, 0, none⟩ = some (.int .i32 ini) := hz.cell 0
  have z1 : w.cell? ⟨z, 1, none⟩ = some (.int .i32 cn) := hz.cell 1
  have z2 : w.cell? ⟨z, 2, none⟩ = some (.bool err) := hz.cell 2
  have g0 : w.frozen? ⟨z, 0, none⟩ = false := hz.free 0
  have g1 : w.frozen? ⟨z, 1, none⟩ = false := hz.free 1
  have g2 : w.frozen? ⟨z, 2, none⟩ = false := hz.free 2
  obtain ⟨hi1, hi2⟩ := hi
  obtain ⟨hc1, hc2⟩ := hc
  clear hz
  have p0 : w.cell? ⟨p, 0, none⟩ = some (.int .i32 d) := hp.cell 0
  have p1 : w.cell? ⟨p, 1, none⟩ = some (.pointer (some ⟨z, 0, none⟩)) := hp.cell 1
  have k0 : w.frozen? ⟨p, 0, none⟩ = false := hp.free 0
  obtain ⟨hd1, hd2⟩ := hd
  have hne' : ¬ z = p := fun h => hne h.symm
  clear hp
  obtain ⟨hn1, hn2⟩ := hn
  go_enter Tryd.func52, Tryd.ntmps52
  go_wp2
  go_quiet (fail)
  go_wp2
  go_ret
  exact ⟨rfl, _, rfl⟩

theorem adds_any (z : Nat) (ini cn : Int) (err : Bool) (sv : Value) (w : World) (hz : Blk w z #[.int .i32 ini, .int .i32 cn, .bool err, sv] 96) (hi : I32 ini) (hc : I32 cn) (p : Nat) (d : Int) (hp : Blk w p #[.int .i32 d, .pointer (some ⟨z, 0, none⟩)] 102) (hd : I32 d) (hne : ¬ p = z) (n : Int) (hn : I32 n) (h : ini + d ≤ 2147483647) (h' : ini + d + n ≤ 2147483647) :
    Calls Tryd.prog 52 #[.pointer (some ⟨p, 0, none⟩), .int .i32 n] w fun e w' => e = .returned (.bool true) ∧ Drawn (w.setCell ⟨p, 0, none⟩ (.int .i32 (wrap32 (d + n)))) w' := by
  have z0 : w.cell? ⟨z, 0, none⟩ = some (.int .i32 ini) := hz.cell 0
  have z1 : w.cell? ⟨z, 1, none⟩ = some (.int .i32 cn) := hz.cell 1
  have z2 : w.cell? ⟨z, 2, none⟩ = some (.bool err) := hz.cell 2
  have g0 : w.frozen? ⟨z, 0, none⟩ = false := hz.free 0
  have g1 : w.frozen? ⟨z, 1, none⟩ = false := hz.free 1
  have g2 : w.frozen? ⟨z, 2, none⟩ = false := hz.free 2
  obtain ⟨hi1, hi2⟩ := hi
  obtain ⟨hc1, hc2⟩ := hc
  clear hz
  have p0 : w.cell? ⟨p, 0, none⟩ = some (.int .i32 d) := hp.cell 0
  have p1 : w.cell? ⟨p, 1, none⟩ = some (.pointer (some ⟨z, 0, none⟩)) := hp.cell 1
  have k0 : w.frozen? ⟨p, 0, none⟩ = false := hp.free 0
  obtain ⟨hd1, hd2⟩ := hd
  have hne' : ¬ z = p := fun h => hne h.symm
  clear hp
  obtain ⟨hn1, hn2⟩ := hn
  go_enter Tryd.func52, Tryd.ntmps52
  go_wp2
  go_quiet (fail)
  go_wp2
  go_ret
  exact ⟨rfl, _, rfl⟩

theorem take_die (z p : Nat) (ini cn d av : Int) (err ok : Bool) (sv : Value) (w w1 : World) (hp : Blk w p #[.int .i32 d, .pointer (some ⟨z, 0, none⟩)] 102) (hz1 : Blk w1 z #[.int .i32 ini, .int .i32 cn, .bool err, sv] 96) (hp1 : Blk w1 p #[.int .i32 d, .pointer (some ⟨z, 0, none⟩)] 102) (hne : ¬ p = z) (hc : I32 cn) (hd : I32 d) (hav : Calls Tryd.prog 53 #[.pointer (some ⟨p, 0, none⟩)] w (fun e w' => e = .returned (.tuple #[.int .i32 av, .bool ok]) ∧ Drawn w1 w')) (n : Int) (h : av < n) :
    Calls Tryd.prog 54 #[.pointer (some ⟨p, 0, none⟩), .int .i32 n] w fun e w' => (∃ s, e = .panicked [{ v := .iface 9 s, recovered := false }]) ∧ Drawn w1 w' := by
  have p1 : w.cell? ⟨p, 1, none⟩ = some (.pointer (some ⟨z, 0, none⟩)) := hp.cell 1
  have q0 : w1.cell? ⟨p, 0, none⟩ = some (.int .i32 d) := hp1.cell 0
  have q1 : w1.cell? ⟨p, 1, none⟩ = some (.pointer (some ⟨z, 0, none⟩)) := hp1.cell 1
  have q2 : w1.cell? ⟨z, 1, none⟩ = some (.int .i32 cn) := hz1.cell 1
  have k0 : w1.frozen? ⟨p, 0, none⟩ = false := hp1.free 0
  have k1 : w1.frozen? ⟨z, 1, none⟩ = false := hz1.free 1
  have hne' : ¬ z = p := fun h => hne h.symm
  obtain ⟨hc1, hc2⟩ := hc
  obtain ⟨hd1, hd2⟩ := hd
  have HA := Lib.hid hav
  clear hav hz1 hp1 hp
  go_enter Tryd.func54, Tryd.ntmps54
  go_wp2_with fail
  refine HA.out.mono ?_
  rintro e w' ⟨rfl, q, rfl⟩
  clear HA
  go_wp2
  exact ⟨rfl, ⟨_, rfl⟩, _, rfl⟩

theorem take_any (z p : Nat) (ini cn d av : Int) (err ok : Bool) (sv : Value) (w w1 : World) (hp : Blk w p #[.int .i32 d, .pointer (some ⟨z, 0, none⟩)] 102) (hz1 : Blk w1 z #[.int .i32 ini, .int .i32 cn, .bool err, sv] 96) (hp1 : Blk w1 p #[.int .i32 d, .pointer (some ⟨z, 0, none⟩)] 102) (hne : ¬ p = z) (hc : I32 cn) (hd : I32 d) (hav : Calls Tryd.prog 53 #[.pointer (some ⟨p, 0, none⟩)] w (fun e w' => e = .returned (.tuple #[.int .i32 av, .bool ok]) ∧ Drawn w1 w')) (n : Int) (hn : I32 n) (h : n ≤ av) :
    Calls Tryd.prog 54 #[.pointer (some ⟨p, 0, none⟩), .int .i32 n] w fun e w' => e = .returned (.tuple #[]) ∧ Drawn ((w1.setCell ⟨p, 0, none⟩ (.int .i32 (wrap32 (d - n)))).setCell ⟨z, 1, none⟩ (.int .i32 (wrap32 (cn - n)))) w' := by
  have p1 : w.cell? ⟨p, 1, none⟩ = some (.pointer (some ⟨z, 0, none⟩)) := hp.cell 1
  have q0 : w1.cell? ⟨p, 0, none⟩ = some (.int .i32 d) := hp1.cell 0
  have q1 : w1.cell? ⟨p, 1, none⟩ = some (.pointer (some ⟨z, 0, none⟩)) := hp1.cell 1
  have q2 : w1.cell? ⟨z, 1, none⟩ = some (.int .i32 cn) := hz1.cell 1
  have k0 : w1.frozen? ⟨p, 0, none⟩ = false := hp1.free 0
  have k1 : w1.frozen? ⟨z, 1, none⟩ = false := hz1.free 1
  have hne' : ¬ z = p := fun h => hne h.symm
  obtain ⟨hc1, hc2⟩ := hc
  obtain ⟨hd1, hd2⟩ := hd
  have HA := Lib.hid hav
  clear hav hz1 hp1 hp
  obtain ⟨hn1, hn2⟩ := hn
  go_enter Tryd.func54, Tryd.ntmps54
  go_wp2_with fail
  refine HA.out.mono ?_
  rintro e w' ⟨rfl, q, rfl⟩
  clear HA
  go_wp2
  go_end0
  exact ⟨rfl, _, rfl⟩
end Go.Proofs.YtalpilbpgkijlaaDoor
