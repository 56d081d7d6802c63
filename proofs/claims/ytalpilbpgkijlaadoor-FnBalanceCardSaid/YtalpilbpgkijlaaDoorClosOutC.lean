/- What the closure of impl.Outflow does at one step, case by case (the walks). Condition: the numbers in memory are of their kind. -/
import Derived.Test.YtalpilbpgkijlaaDoorOutDefs
namespace Go.Proofs.YtalpilbpgkijlaaDoor
open Go.RowKit
set_option maxRecDepth 100000
set_option maxHeartbeats 1000000
theorem cout_takedieerr (bv z sb p k sc : Nat) (ini cn d : Int) (_err : Bool) (ad : Option Addr) (ln cp : Nat) (w : World) (hb : Blk w bv #[.pointer (some ⟨z, 0, none⟩)] 75) (hz : Blk w z #[.int .i32 ini, .int .i32 cn, .bool true, .slice (some ⟨sb, 0, none⟩) 4 sc] 96) (hs : w.cell? ⟨sb, k, none⟩ = some (.pointer (some ⟨p, 0, none⟩))) (hp : Blk w p #[.int .i32 d, .pointer (some ⟨z, 0, none⟩)] 102) (hne : ¬ p = z) (hk : k < 4) (hi : I32 ini) (hc : I32 cn) (hd : I32 d) (n : Int) (h : 0 < wrap32 n) :
    Calls Tryd.prog 34 #[.agg #[.int .i64 4, .int .i64 k, .int .i64 n, .slice ad ln cp], .pointer (some ⟨bv, 0, none⟩)] w fun e w' => OutDies z p w e w' := by
  have hlb := hb.lt
  have hlz := hz.lt
  have hlp := hp.lt
  have hls := World.block_lt_of_cell? _ _ hs
  simp only at hls
  have nb0 : ¬ bv = w.heap.size := by omega
  have nb1 : ¬ bv = w.heap.size + 1 := by omega
  have nz0 : ¬ z = w.heap.size := by omega
  have nz1 : ¬ z = w.heap.size + 1 := by omega
  have np0 : ¬ p = w.heap.size := by omega
  have np1 : ¬ p = w.heap.size + 1 := by omega
  have ns0 : ¬ sb = w.heap.size := by omega
  have ns1 : ¬ sb = w.heap.size + 1 := by omega
  have hne' : ¬ z = p := fun h => hne h.symm
  have b0 : w.cell? ⟨bv, 0, none⟩ = some (.pointer (some ⟨z, 0, none⟩)) := hb.cell 0
  have z3 : w.cell? ⟨z, 3, none⟩ = some (.slice (some ⟨sb, 0, none⟩) 4 sc) := hz.cell 3
  have HZ := Lib.hid hz
  have HP := Lib.hid hp
  have HN := Lib.hid (And.intro hi (And.intro hc hd))
  have hk0 : (0 : Int) ≤ (k : Int) := by omega
  have hk4 : (k : Int) < 4 := by omega
  clear hz hp hb hi hc hd
  go_enter Tryd.func34, Tryd.ntmps34
  go_wp2_with (go_at_call 39; go_in)
  refine (take_die z p ini cn d 0 true false _ _ _ ((HP.out.alloc _).alloc _) ((HZ.out.alloc _).alloc _) ((HP.out.alloc _).alloc _) hne (HN.out.2.1) (HN.out.2.2) ((avail_err z ini cn _ _ ((HZ.out.alloc _).alloc _) (HN.out.1) (HN.out.2.1) p d ((HP.out.alloc _).alloc _) (HN.out.2.2) hne).mono (fun _ _ h => ⟨h.1, 0, h.2⟩)) (wrap32 n) h).mono ?_
  rintro e w' ⟨⟨s, rfl⟩, q, rfl⟩
  go_wp2
  exact ⟨rfl, rfl, ⟨_, rfl⟩, by (repeat (first | (with_reducible exact Same.refl _ _) | (with_reducible apply Same.drewN) | (with_reducible apply Same.drew) | (with_reducible apply Same.alloc) | (with_reducible apply Same.set') | (intro h; first | (exact .inl rfl) | (exact .inr rfl) | omega | (exfalso; simp at h <;> omega))))⟩

theorem cout_takeerr (bv z sb p k sc : Nat) (ini cn d : Int) (_err : Bool) (ad : Option Addr) (ln cp : Nat) (w : World) (hb : Blk w bv #[.pointer (some ⟨z, 0, none⟩)] 75) (hz : Blk w z #[.int .i32 ini, .int .i32 cn, .bool true, .slice (some ⟨sb, 0, none⟩) 4 sc] 96) (hs : w.cell? ⟨sb, k, none⟩ = some (.pointer (some ⟨p, 0, none⟩))) (hp : Blk w p #[.int .i32 d, .pointer (some ⟨z, 0, none⟩)] 102) (hne : ¬ p = z) (hk : k < 4) (hi : I32 ini) (hc : I32 cn) (hd : I32 d) (n : Int) (h : wrap32 n ≤ 0) :
    Calls Tryd.prog 34 #[.agg #[.int .i64 4, .int .i64 k, .int .i64 n, .slice ad ln cp], .pointer (some ⟨bv, 0, none⟩)] w fun e w' => OutPost z p w (ResV.plain 0 false false) ini (wrap32 (cn - wrap32 n)) true (.slice (some ⟨sb, 0, none⟩) 4 sc) (wrap32 (d - wrap32 n)) e w' := by
  have hlb := hb.lt
  have hlz := hz.lt
  have hlp := hp.lt
  have hls := World.block_lt_of_cell? _ _ hs
  simp only at hls
  have nb0 : ¬ bv = w.heap.size := by omega
  have nb1 : ¬ bv = w.heap.size + 1 := by omega
  have nz0 : ¬ z = w.heap.size := by omega
  have nz1 : ¬ z = w.heap.size + 1 := by omega
  have np0 : ¬ p = w.heap.size := by omega
  have np1 : ¬ p = w.heap.size + 1 := by omega
  have ns0 : ¬ sb = w.heap.size := by omega
  have ns1 : ¬ sb = w.heap.size + 1 := by omega
  have hne' : ¬ z = p := fun h => hne h.symm
  have b0 : w.cell? ⟨bv, 0, none⟩ = some (.pointer (some ⟨z, 0, none⟩)) := hb.cell 0
  have z3 : w.cell? ⟨z, 3, none⟩ = some (.slice (some ⟨sb, 0, none⟩) 4 sc) := hz.cell 3
  have HZ := Lib.hid hz
  have HP := Lib.hid hp
  have HN := Lib.hid (And.intro hi (And.intro hc hd))
  have hk0 : (0 : Int) ≤ (k : Int) := by omega
  have hk4 : (k : Int) < 4 := by omega
  clear hz hp hb hi hc hd
  go_enter Tryd.func34, Tryd.ntmps34
  go_wp2_with (go_at_call 39; go_in)
  refine (take_any z p ini cn d 0 true false _ _ _ ((HP.out.alloc _).alloc _) ((HZ.out.alloc _).alloc _) ((HP.out.alloc _).alloc _) hne (HN.out.2.1) (HN.out.2.2) ((avail_err z ini cn _ _ ((HZ.out.alloc _).alloc _) (HN.out.1) (HN.out.2.1) p d ((HP.out.alloc _).alloc _) (HN.out.2.2) hne).mono (fun _ _ h => ⟨h.1, 0, h.2⟩)) (wrap32 n) (wrap32_i32 n) h).mono ?_
  rintro e w' ⟨rfl, q, rfl⟩
  go_wp2
  go_end0
  go_wp2
  refine bodyPost_ret (v := (ResV.plain 0 false false).agg) (by simp [results, Tryd.results34, go_sem, ResV.plain, ResV.agg]) rfl ?_
  exact ⟨rfl, by (repeat (first | (with_reducible exact HZ.out) | (with_reducible apply Blk.drewN) | (with_reducible apply Blk.drew) | (with_reducible apply Blk.alloc) | (with_reducible apply Blk.other' (hp := nz0)) | (with_reducible apply Blk.other' (hp := nz1)) | (with_reducible apply Blk.other' (hp := np0)) | (with_reducible apply Blk.other' (hp := np1)) | (with_reducible apply Blk.other' (hp := hne)) | (with_reducible apply Blk.other' (hp := hne')) | (with_reducible apply Blk.set') | (exact rfl))), by (repeat (first | (with_reducible exact HP.out) | (with_reducible apply Blk.drewN) | (with_reducible apply Blk.drew) | (with_reducible apply Blk.alloc) | (with_reducible apply Blk.other' (hp := nz0)) | (with_reducible apply Blk.other' (hp := nz1)) | (with_reducible apply Blk.other' (hp := np0)) | (with_reducible apply Blk.other' (hp := np1)) | (with_reducible apply Blk.other' (hp := hne)) | (with_reducible apply Blk.other' (hp := hne')) | (with_reducible apply Blk.set') | (exact rfl))), by (repeat (first | (with_reducible exact Same.refl _ _) | (with_reducible apply Same.drewN) | (with_reducible apply Same.drew) | (with_reducible apply Same.alloc) | (with_reducible apply Same.set') | (intro h; first | (exact .inl rfl) | (exact .inr rfl) | omega | (exfalso; simp at h <;> omega))))⟩

theorem cout_takediebig (bv z sb p k sc : Nat) (ini cn d : Int) (_err : Bool) (ad : Option Addr) (ln cp : Nat) (w : World) (hb : Blk w bv #[.pointer (some ⟨z, 0, none⟩)] 75) (hz : Blk w z #[.int .i32 ini, .int .i32 cn, .bool false, .slice (some ⟨sb, 0, none⟩) 4 sc] 96) (hs : w.cell? ⟨sb, k, none⟩ = some (.pointer (some ⟨p, 0, none⟩))) (hp : Blk w p #[.int .i32 d, .pointer (some ⟨z, 0, none⟩)] 102) (hne : ¬ p = z) (hk : k < 4) (hi : I32 ini) (hc : I32 cn) (hd : I32 d) (n : Int) (hn : 2147483647 < ini + d) (h : 0 < wrap32 n) :
    Calls Tryd.prog 34 #[.agg #[.int .i64 4, .int .i64 k, .int .i64 n, .slice ad ln cp], .pointer (some ⟨bv, 0, none⟩)] w fun e w' => OutDies z p w e w' := by
  have hlb := hb.lt
  have hlz := hz.lt
  have hlp := hp.lt
  have hls := World.block_lt_of_cell? _ _ hs
  simp only at hls
  have nb0 : ¬ bv = w.heap.size := by omega
  have nb1 : ¬ bv = w.heap.size + 1 := by omega
  have nz0 : ¬ z = w.heap.size := by omega
  have nz1 : ¬ z = w.heap.size + 1 := by omega
  have np0 : ¬ p = w.heap.size := by omega
  have np1 : ¬ p = w.heap.size + 1 := by omega
  have ns0 : ¬ sb = w.heap.size := by omega
  have ns1 : ¬ sb = w.heap.size + 1 := by omega
  have hne' : ¬ z = p := fun h => hne h.symm
  have b0 : w.cell? ⟨bv, 0, none⟩ = some (.pointer (some ⟨z, 0, none⟩)) := hb.cell 0
  have z3 : w.cell? ⟨z, 3, none⟩ = some (.slice (some ⟨sb, 0, none⟩) 4 sc) := hz.cell 3
  have HZ := Lib.hid hz
  have HP := Lib.hid hp
  have HN := Lib.hid (And.intro hi (And.intro hc hd))
  have hk0 : (0 : Int) ≤ (k : Int) := by omega
  have hk4 : (k : Int) < 4 := by omega
  clear hz hp hb hi hc hd
  go_enter Tryd.func34, Tryd.ntmps34
  go_wp2_with (go_at_call 39; go_in)
  refine (take_die z p ini cn d 0 true false _ _ _ ((HP.out.alloc _).alloc _) (((HZ.out.alloc _).alloc _).set' (o := 2) (u := .bool true) rfl) (((HP.out.alloc _).alloc _).other' (g := z) (o := 2) (u := .bool true) hne) hne (HN.out.2.1) (HN.out.2.2) (avail_big z ini cn _ _ ((HZ.out.alloc _).alloc _) (HN.out.1) (HN.out.2.1) p d ((HP.out.alloc _).alloc _) (HN.out.2.2) hne hn) (wrap32 n) h).mono ?_
  rintro e w' ⟨⟨s, rfl⟩, q, rfl⟩
  go_wp2
  exact ⟨rfl, rfl, ⟨_, rfl⟩, by (repeat (first | (with_reducible exact Same.refl _ _) | (with_reducible apply Same.drewN) | (with_reducible apply Same.drew) | (with_reducible apply Same.alloc) | (with_reducible apply Same.set') | (intro h; first | (exact .inl rfl) | (exact .inr rfl) | omega | (exfalso; simp at h <;> omega))))⟩

theorem cout_takebig (bv z sb p k sc : Nat) (ini cn d : Int) (_err : Bool) (ad : Option Addr) (ln cp : Nat) (w : World) (hb : Blk w bv #[.pointer (some ⟨z, 0, none⟩)] 75) (hz : Blk w z #[.int .i32 ini, .int .i32 cn, .bool false, .slice (some ⟨sb, 0, none⟩) 4 sc] 96) (hs : w.cell? ⟨sb, k, none⟩ = some (.pointer (some ⟨p, 0, none⟩))) (hp : Blk w p #[.int .i32 d, .pointer (some ⟨z, 0, none⟩)] 102) (hne : ¬ p = z) (hk : k < 4) (hi : I32 ini) (hc : I32 cn) (hd : I32 d) (n : Int) (hn : 2147483647 < ini + d) (h : wrap32 n ≤ 0) :
    Calls Tryd.prog 34 #[.agg #[.int .i64 4, .int .i64 k, .int .i64 n, .slice ad ln cp], .pointer (some ⟨bv, 0, none⟩)] w fun e w' => OutPost z p w (ResV.plain 0 false false) ini (wrap32 (cn - wrap32 n)) true (.slice (some ⟨sb, 0, none⟩) 4 sc) (wrap32 (d - wrap32 n)) e w' := by
  have hlb := hb.lt
  have hlz := hz.lt
  have hlp := hp.lt
  have hls := World.block_lt_of_cell? _ _ hs
  simp only at hls
  have nb0 : ¬ bv = w.heap.size := by omega
  have nb1 : ¬ bv = w.heap.size + 1 := by omega
  have nz0 : ¬ z = w.heap.size := by omega
  have nz1 : ¬ z = w.heap.size + 1 := by omega
  have np0 : ¬ p = w.heap.size := by omega
  have np1 : ¬ p = w.heap.size + 1 := by omega
  have ns0 : ¬ sb = w.heap.size := by omega
  have ns1 : ¬ sb = w.heap.size + 1 := by omega
  have hne' : ¬ z = p := fun h => hne h.symm
  have b0 : w.cell? ⟨bv, 0, none⟩ = some (.pointer (some ⟨z, 0, none⟩)) := hb.cell 0
  have z3 : w.cell? ⟨z, 3, none⟩ = some (.slice (some ⟨sb, 0, none⟩) 4 sc) := hz.cell 3
  have HZ := Lib.hid hz
  have HP := Lib.hid hp
  have HN := Lib.hid (And.intro hi (And.intro hc hd))
  have hk0 : (0 : Int) ≤ (k : Int) := by omega
  have hk4 : (k : Int) < 4 := by omega
  clear hz hp hb hi hc hd
  go_enter Tryd.func34, Tryd.ntmps34
  go_wp2_with (go_at_call 39; go_in)
  refine (take_any z p ini cn d 0 true false _ _ _ ((HP.out.alloc _).alloc _) (((HZ.out.alloc _).alloc _).set' (o := 2) (u := .bool true) rfl) (((HP.out.alloc _).alloc _).other' (g := z) (o := 2) (u := .bool true) hne) hne (HN.out.2.1) (HN.out.2.2) (avail_big z ini cn _ _ ((HZ.out.alloc _).alloc _) (HN.out.1) (HN.out.2.1) p d ((HP.out.alloc _).alloc _) (HN.out.2.2) hne hn) (wrap32 n) (wrap32_i32 n) h).mono ?_
  rintro e w' ⟨rfl, q, rfl⟩
  go_wp2
  go_end0
  go_wp2
  refine bodyPost_ret (v := (ResV.plain 0 false false).agg) (by simp [results, Tryd.results34, go_sem, ResV.plain, ResV.agg]) rfl ?_
  exact ⟨rfl, by (repeat (first | (with_reducible exact HZ.out) | (with_reducible apply Blk.drewN) | (with_reducible apply Blk.drew) | (with_reducible apply Blk.alloc) | (with_reducible apply Blk.other' (hp := nz0)) | (with_reducible apply Blk.other' (hp := nz1)) | (with_reducible apply Blk.other' (hp := np0)) | (with_reducible apply Blk.other' (hp := np1)) | (with_reducible apply Blk.other' (hp := hne)) | (with_reducible apply Blk.other' (hp := hne')) | (with_reducible apply Blk.set') | (exact rfl))), by (repeat (first | (with_reducible exact HP.out) | (with_reducible apply Blk.drewN) | (with_reducible apply Blk.drew) | (with_reducible apply Blk.alloc) | (with_reducible apply Blk.other' (hp := nz0)) | (with_reducible apply Blk.other' (hp := nz1)) | (with_reducible apply Blk.other' (hp := np0)) | (with_reducible apply Blk.other' (hp := np1)) | (with_reducible apply Blk.other' (hp := hne)) | (with_reducible apply Blk.other' (hp := hne')) | (with_reducible apply Blk.set') | (exact rfl))), by (repeat (first | (with_reducible exact Same.refl _ _) | (with_reducible apply Same.drewN) | (with_reducible apply Same.drew) | (with_reducible apply Same.alloc) | (with_reducible apply Same.set') | (intro h; first | (exact .inl rfl) | (exact .inr rfl) | omega | (exfalso; simp at h <;> omega))))⟩

theorem cout_takedieany (bv z sb p k sc : Nat) (ini cn d : Int) (_err : Bool) (ad : Option Addr) (ln cp : Nat) (w : World) (hb : Blk w bv #[.pointer (some ⟨z, 0, none⟩)] 75) (hz : Blk w z #[.int .i32 ini, .int .i32 cn, .bool false, .slice (some ⟨sb, 0, none⟩) 4 sc] 96) (hs : w.cell? ⟨sb, k, none⟩ = some (.pointer (some ⟨p, 0, none⟩))) (hp : Blk w p #[.int .i32 d, .pointer (some ⟨z, 0, none⟩)] 102) (hne : ¬ p = z) (hk : k < 4) (hi : I32 ini) (hc : I32 cn) (hd : I32 d) (n : Int) (hn : ini + d ≤ 2147483647) (h : (min (wrap32 (ini + d)) cn) < wrap32 n) :
    Calls Tryd.prog 34 #[.agg #[.int .i64 4, .int .i64 k, .int .i64 n, .slice ad ln cp], .pointer (some ⟨bv, 0, none⟩)] w fun e w' => OutDies z p w e w' := by
  have hlb := hb.lt
  have hlz := hz.lt
  have hlp := hp.lt
  have hls := World.block_lt_of_cell? _ _ hs
  simp only at hls
  have nb0 : ¬ bv = w.heap.size := by omega
  have nb1 : ¬ bv = w.heap.size + 1 := by omega
  have nz0 : ¬ z = w.heap.size := by omega
  have nz1 : ¬ z = w.heap.size + 1 := by omega
  have np0 : ¬ p = w.heap.size := by omega
  have np1 : ¬ p = w.heap.size + 1 := by omega
  have ns0 : ¬ sb = w.heap.size := by omega
  have ns1 : ¬ sb = w.heap.size + 1 := by omega
  have hne' : ¬ z = p := fun h => hne h.symm
  have b0 : w.cell? ⟨bv, 0, none⟩ = some (.pointer (some ⟨z, 0, none⟩)) := hb.cell 0
  have z3 : w.cell? ⟨z, 3, none⟩ = some (.slice (some ⟨sb, 0, none⟩) 4 sc) := hz.cell 3
  have HZ := Lib.hid hz
  have HP := Lib.hid hp
  have HN := Lib.hid (And.intro hi (And.intro hc hd))
  have hk0 : (0 : Int) ≤ (k : Int) := by omega
  have hk4 : (k : Int) < 4 := by omega
  clear hz hp hb hi hc hd
  go_enter Tryd.func34, Tryd.ntmps34
  go_wp2_with (go_at_call 39; go_in)
  refine (take_die z p ini cn d (min (wrap32 (ini + d)) cn) false true _ _ _ ((HP.out.alloc _).alloc _) ((HZ.out.alloc _).alloc _) ((HP.out.alloc _).alloc _) hne (HN.out.2.1) (HN.out.2.2) (avail_any z ini cn _ _ ((HZ.out.alloc _).alloc _) (HN.out.1) (HN.out.2.1) p d ((HP.out.alloc _).alloc _) (HN.out.2.2) hne hn) (wrap32 n) h).mono ?_
  rintro e w' ⟨⟨s, rfl⟩, q, rfl⟩
  go_wp2
  exact ⟨rfl, rfl, ⟨_, rfl⟩, by (repeat (first | (with_reducible exact Same.refl _ _) | (with_reducible apply Same.drewN) | (with_reducible apply Same.drew) | (with_reducible apply Same.alloc) | (with_reducible apply Same.set') | (intro h; first | (exact .inl rfl) | (exact .inr rfl) | omega | (exfalso; simp at h <;> omega))))⟩

theorem cout_takeany (bv z sb p k sc : Nat) (ini cn d : Int) (_err : Bool) (ad : Option Addr) (ln cp : Nat) (w : World) (hb : Blk w bv #[.pointer (some ⟨z, 0, none⟩)] 75) (hz : Blk w z #[.int .i32 ini, .int .i32 cn, .bool false, .slice (some ⟨sb, 0, none⟩) 4 sc] 96) (hs : w.cell? ⟨sb, k, none⟩ = some (.pointer (some ⟨p, 0, none⟩))) (hp : Blk w p #[.int .i32 d, .pointer (some ⟨z, 0, none⟩)] 102) (hne : ¬ p = z) (hk : k < 4) (hi : I32 ini) (hc : I32 cn) (hd : I32 d) (n : Int) (hn : ini + d ≤ 2147483647) (h : wrap32 n ≤ (min (wrap32 (ini + d)) cn)) :
    Calls Tryd.prog 34 #[.agg #[.int .i64 4, .int .i64 k, .int .i64 n, .slice ad ln cp], .pointer (some ⟨bv, 0, none⟩)] w fun e w' => OutPost z p w (ResV.plain 0 false false) ini (wrap32 (cn - wrap32 n)) false (.slice (some ⟨sb, 0, none⟩) 4 sc) (wrap32 (d - wrap32 n)) e w' := by
  have hlb := hb.lt
  have hlz := hz.lt
  have hlp := hp.lt
  have hls := World.block_lt_of_cell? _ _ hs
  simp only at hls
  have nb0 : ¬ bv = w.heap.size := by omega
  have nb1 : ¬ bv = w.heap.size + 1 := by omega
  have nz0 : ¬ z = w.heap.size := by omega
  have nz1 : ¬ z = w.heap.size + 1 := by omega
  have np0 : ¬ p = w.heap.size := by omega
  have np1 : ¬ p = w.heap.size + 1 := by omega
  have ns0 : ¬ sb = w.heap.size := by omega
  have ns1 : ¬ sb = w.heap.size + 1 := by omega
  have hne' : ¬ z = p := fun h => hne h.symm
  have b0 : w.cell? ⟨bv, 0, none⟩ = some (.pointer (some ⟨z, 0, none⟩)) := hb.cell 0
  have z3 : w.cell? ⟨z, 3, none⟩ = some (.slice (some ⟨sb, 0, none⟩) 4 sc) := hz.cell 3
  have HZ := Lib.hid hz
  have HP := Lib.hid hp
  have HN := Lib.hid (And.intro hi (And.intro hc hd))
  have hk0 : (0 : Int) ≤ (k : Int) := by omega
  have hk4 : (k : Int) < 4 := by omega
  clear hz hp hb hi hc hd
  go_enter Tryd.func34, Tryd.ntmps34
  go_wp2_with (go_at_call 39; go_in)
  refine (take_any z p ini cn d (min (wrap32 (ini + d)) cn) false true _ _ _ ((HP.out.alloc _).alloc _) ((HZ.out.alloc _).alloc _) ((HP.out.alloc _).alloc _) hne (HN.out.2.1) (HN.out.2.2) (avail_any z ini cn _ _ ((HZ.out.alloc _).alloc _) (HN.out.1) (HN.out.2.1) p d ((HP.out.alloc _).alloc _) (HN.out.2.2) hne hn) (wrap32 n) (wrap32_i32 n) h).mono ?_
  rintro e w' ⟨rfl, q, rfl⟩
  go_wp2
  go_end0
  go_wp2
  refine bodyPost_ret (v := (ResV.plain 0 false false).agg) (by simp [results, Tryd.results34, go_sem, ResV.plain, ResV.agg]) rfl ?_
  exact ⟨rfl, by (repeat (first | (with_reducible exact HZ.out) | (with_reducible apply Blk.drewN) | (with_reducible apply Blk.drew) | (with_reducible apply Blk.alloc) | (with_reducible apply Blk.other' (hp := nz0)) | (with_reducible apply Blk.other' (hp := nz1)) | (with_reducible apply Blk.other' (hp := np0)) | (with_reducible apply Blk.other' (hp := np1)) | (with_reducible apply Blk.other' (hp := hne)) | (with_reducible apply Blk.other' (hp := hne')) | (with_reducible apply Blk.set') | (exact rfl))), by (repeat (first | (with_reducible exact HP.out) | (with_reducible apply Blk.drewN) | (with_reducible apply Blk.drew) | (with_reducible apply Blk.alloc) | (with_reducible apply Blk.other' (hp := nz0)) | (with_reducible apply Blk.other' (hp := nz1)) | (with_reducible apply Blk.other' (hp := np0)) | (with_reducible apply Blk.other' (hp := np1)) | (with_reducible apply Blk.other' (hp := hne)) | (with_reducible apply Blk.other' (hp := hne')) | (with_reducible apply Blk.set') | (exact rfl))), by (repeat (first | (with_reducible exact Same.refl _ _) | (with_reducible apply Same.drewN) | (with_reducible apply Same.drew) | (with_reducible apply Same.alloc) | (with_reducible apply Same.set') | (intro h; first | (exact .inl rfl) | (exact .inr rfl) | omega | (exfalso; simp at h <;> omega))))⟩
end Go.Proofs.YtalpilbpgkijlaaDoor
