/- spec.Queue answers as a queue of bytes (the walk). Condition: at most 1,000,000 steps, 1,048,576 bytes. -/
import Derived.Test.YtalpilbpgkijlaaDoorQueApp
import Derived.Test.YtalpilbpgkijlaaDoorCopies
import Derived.Test.YtalpilbpgkijlaaDoorQueDefs
namespace Go.Proofs.YtalpilbpgkijlaaDoor
open Go.RowKit
set_option maxRecDepth 100000
set_option maxHeartbeats 4000000
theorem queue_any (w : World) (v : Value) (al : List StepA) (hv : StepsR (fun _ => True) w v al) (hlen : al.length ≤ 1000000) (htot : total al ≤ 1048576) : Calls Tryd.prog 12 #[v] w (QuePost al w) := by
  obtain ⟨ad, cp, rfl, hmax, hform⟩ := RowR.form hv
  have HV := Lib.hid hv
  have HF := Lib.hid hform
  have HT := Lib.hid htot
  clear hv hform htot
  go_enter Tryd.func12, Tryd.ntmps12
  go_wp2
  go_loopg [3, 4, 10] al.length (fun k vq vo i wr => QueRel al w k vq vo i wr)
  case atStart => exact ⟨0, [], [], [], rfl, rfl, Nat.zero_le _, Same.refl _ _, .nil, .inl ⟨rfl, rfl⟩, World.ownsRow_nil _ _ _ _, .nil, (fun g h => by cases h), Nat.zero_le _⟩
  case round =>
    obtain ⟨j, q, rv, rs, hk, rfl, hjl, hS, hR, hQ, hOwn, hA, hne, hql⟩ := hrel
    by_cases hj : j < al.length
    · obtain ⟨pb, po, ps, rfl⟩ := HF.out j hj
      obtain ⟨rfl, x, hx, q0, q1, q2, q3⟩ := HV.out.at hS hj
      have hcl := World.block_lt_of_cell? _ _ q0
      simp only at hcl
      have hnb : ¬ pb = wr.heap.size := by omega
      have hwl : w.heap.size ≤ wr.heap.size := hS.size
      have hx0 := step_old HV.out hS hj hx q0 q1 q2 q3
      have htj := total_take al hj
      obtain ⟨e1, e2, e3, hb1, hb2, hb3, hby⟩ := hx0
      generalize ha : al[j] = a at *
      have HA := Lib.hid ha
      by_cases hw0 : x.what = 0
      · have hw0' : (x.what == 0) = true := beq_iff_eq.2 hw0
        have hln : x.ln ≤ 1048576 := by have := hby.1; have := HT.out; omega
        have hty : q.length + a.bytes.length ≤ 1048576 := by have := HT.out; omega
        have HO := Lib.hid (And.intro hOwn (And.intro hQ (And.intro hby (And.intro hne hA))))
        have A := Lib.hid (And.intro hk (And.intro hS (And.intro hR (And.intro hql htj))))
        have hst : StpB q a ⟨(x.ln : Int), true, [], false⟩ (q ++ a.bytes) := by
          have h1 := hby.1
          have := StpB.write (q := q) (x := a) (by rw [← e1]; exact hw0) hty
          rwa [h1] at this
        have ST := Lib.hid hst
        clear hk hS hR hQ hOwn hA hne hql htj hby hx ha HV HF hst e1 e2 e3
        obtain ⟨i0, hi, hz0, hz1, hz2⟩ := info_parts info61
        go_wp2_with (at_builtin; refine wpList_append_q rfl _ _ rfl rfl rfl (HO.out.2.1.same (F := fun _ => False) ((Same.refl _ _).alloc _) (fun _ _ h => h)) rfl (HO.out.2.2.1.same (F := fun _ => False) (H := fun k => k < w.heap.size) ((Same.refl _ _).alloc _) (fun k _ h => ⟨fun h => h, h⟩)) (by simp; omega) hty ?_)
        intro v1 w1 hn1
        have hbx := (Blk.new wr #[.int .i64 0, .int .i64 x.which, .int .i64 x.n, .slice x.ad x.ln x.cp] 28).same hn1.same (fun e => by have := (HO.out.2.1.lt e).2; omega)
        have x3 : w1.cell? ⟨wr.heap.size, 3, none⟩ = some (.slice x.ad x.ln x.cp) := hbx.cell 3
        have N1 := Lib.hid hn1
        have hO1 := ownsRow_same (ownsRow_same HO.out.1 (F := fun _ => False) ((Same.refl _ _).alloc (.cells #[.int .i64 0, .int .i64 x.which, .int .i64 x.n, .slice x.ad x.ln x.cp] 28)) (fun _ _ h => h)) hn1.same (fun g hg e => HO.out.2.2.2.1 g e hg)
        have hsz := hn1.same.size
        rw [size_alloc] at hsz
        have O1 := Lib.hid hO1
        clear hn1 hbx hO1
        go_wp2_with (at_builtin; refine wpList_append_own2 _ rfl _ _ 36 rfl w.heap.size 61 i0 (.agg #[.int .i64 0, .bool false, .slice none 0 0, .bool false]) 4 48 Tryd.underlying36 hi hz0 hz1 hz2 rfl (by decide) u4 j _ rfl (ownsRow_same O1.out (F := fun _ => False) ((Same.refl _ _).alloc _) (fun _ _ h => h)) ⟨w1.heap.size, 0, none⟩ 1 1 (ResV.plain x.ln true false).cells rfl rfl ?c1 ?c2 ?c3 ?c4 ?c5 ?_)
        case c1 => exact cells_new1 w1 (ResV.plain x.ln true false).cells 61
        case c2 => exact res_one _
        case c3 => unfold maxLen; omega
        case c4 => omega
        case c5 => rw [size_alloc]; omega
        intro v2 w2 hown2 hgrow2 hwhere2
        have C2 := Lib.hid (And.intro hown2 (And.intro hgrow2 hwhere2))
        clear hown2 hgrow2 hwhere2
        go_wp2_with fail
        go_roundg (gk - 1)
        case measure => have := A.out.1; omega
        case rel =>
          refine que_next hj HA.out A.out.1 A.out.2.1 A.out.2.2.1 HO.out.1 HO.out.2.2.2.2 HO.out.2.2.2.1 HO.out.2.1 ((Same.refl _ _).alloc _) N1.out (r := ResV.plain x.ln true false) ⟨rfl, rfl, rfl, ⟨by simp only; omega, by simp only; omega⟩, rfl, Nat.le_refl _, Nat.zero_le _, fun _ => ⟨rfl, rfl⟩, fun _ h => by cases h⟩ ST.out rfl ?_ C2.out.1 C2.out.2.1 (by simpa using C2.out.2.2)
          have := A.out.2.2.2
          simp only [List.length_append]
          omega
      · have hw0' : (x.what == 0) = false := beq_eq_false_iff_ne.2 hw0
        have hx' : a.what ≠ 0 := by rw [← e1]; exact hw0
        have hqb : q.length ≤ 1048576 := by have := HT.out; omega
        have hwl' : w.heap.size ≤ (wr.alloc (.cells #[.int .i64 x.what, .int .i64 x.which, .int .i64 x.n, .slice x.ad x.ln x.cp] 28)).heap.size := by rw [size_alloc]; omega
        have hQ0 := hQ.same (F := fun _ => False) ((Same.refl _ wr).alloc (.cells #[.int .i64 x.what, .int .i64 x.which, .int .i64 x.n, .slice x.ad x.ln x.cp] 28)) (fun _ _ h => h)
        have E3 := Lib.hid (And.intro e3 hx')
        have hqf := hQ.form
        have HO := Lib.hid (And.intro hOwn (And.intro hQ (And.intro hQ0 (And.intro hne hA))))
        have A := Lib.hid (And.intro hk (And.intro hS (And.intro hR (And.intro hql htj))))
        have hjl' : j + 1 ≤ 1000000 := by omega
        clear hk hS hR hQ hOwn hA hne hql htj hby hx ha HV HF e1 e2 e3 hQ0 hw0 hx'
        obtain ⟨i0, hi, hz0, hz1, hz2⟩ := info_parts info61
        obtain ⟨qa, cap, rfl, hqc, hcm⟩ := hqf
        generalize x.n = xn at *
        by_cases hq0 : q.length = 0
        · obtain rfl : q = [] := List.eq_nil_of_length_eq_zero (by omega)
          simp only [List.length_nil] at *
          rcases qa with _ | ⟨g, o, os⟩
          · obtain rfl : cap = 0 := by
              rcases HO.out.2.1 with ⟨h, _⟩ | ⟨_, _, _, _, h, _⟩
              · cases h; rfl
              · cases h
            by_cases hn0 : xn ≤ 0
            · go_wp2_with (at_builtin; refine wpList_append_own2 _ rfl _ _ 36 rfl w.heap.size 61 i0 (.agg #[.int .i64 0, .bool false, .slice none 0 0, .bool false]) 4 48 Tryd.underlying36 hi hz0 hz1 hz2 rfl (by decide) u4 j _ rfl (ownsRow_same HO.out.1 (F := fun _ => False) (((Same.refl _ _).alloc _).alloc _) (fun _ _ h => h)) ⟨wr.heap.size + 1, 0, none⟩ 1 1 (ResV.cells ⟨0, false, none, 0, 0, false⟩) rfl rfl ?c1 ?c2 ?c3 ?c4 ?c5 ?_)
              case c1 => first | exact cells_new2 wr _ (ResV.cells ⟨0, false, none, 0, 0, false⟩) 61 | exact fun j u h => h
              case c2 => exact res_one _
              case c3 => unfold maxLen; omega
              case c4 => omega
              case c5 => first | omega | (simp; omega)
              intro v2 w2 hown2 hgrow2 hwhere2
              have C2 := Lib.hid (And.intro hown2 (And.intro hgrow2 hwhere2))
              clear hown2 hgrow2 hwhere2
              go_wp2_with fail
              go_roundg (gk - 1)
              case measure => have := A.out.1; omega
              case rel =>
                have hcut := cut_nil (vo := u4) (ad := none) (cp := 0) HO.out.2.2.1 (by omega) (fun e => by first | rfl | cases e)
                have hst := st_read (q := []) (a := a) (n := 0) (kk := 0) (N := 0) (ok := false) E3.out.2 (by unfold Lim; have := E3.out.1; omega) (by simp) (by simp) rfl
                have hfin := que_next hj HA.out A.out.1 A.out.2.1 A.out.2.2.1 HO.out.1 HO.out.2.2.2.2 HO.out.2.2.2.1 HO.out.2.1 ((Same.refl _ _).alloc _) hcut.1 hcut.2 hst rfl (Nat.zero_le _) C2.out.1 C2.out.2.1 (by simpa using C2.out.2.2)
                first | exact hfin | simpa using hfin
            by_cases hn1 : xn ≤ 100000
            · obtain ⟨k, rfl⟩ : ∃ k : Nat, xn = (k : Int) := ⟨xn.toNat, by omega⟩
              go_wp2_with (at_builtin; refine wpList_append_own2 _ rfl _ _ 36 rfl w.heap.size 61 i0 (.agg #[.int .i64 0, .bool false, .slice none 0 0, .bool false]) 4 48 Tryd.underlying36 hi hz0 hz1 hz2 rfl (by decide) u4 j _ rfl (ownsRow_same HO.out.1 (F := fun _ => False) (((Same.refl _ _).alloc _).alloc _) (fun _ _ h => h)) ⟨wr.heap.size + 1, 0, none⟩ 1 1 (ResV.cells ⟨0, false, none, 0, 0, false⟩) rfl rfl ?c1 ?c2 ?c3 ?c4 ?c5 ?_)
              case c1 => first | exact cells_new2 wr _ (ResV.cells ⟨0, false, none, 0, 0, false⟩) 61 | exact fun j u h => h
              case c2 => exact res_one _
              case c3 => unfold maxLen; omega
              case c4 => omega
              case c5 => first | omega | (simp; omega)
              intro v2 w2 hown2 hgrow2 hwhere2
              have C2 := Lib.hid (And.intro hown2 (And.intro hgrow2 hwhere2))
              clear hown2 hgrow2 hwhere2
              go_wp2_with fail
              go_roundg (gk - 1)
              case measure => have := A.out.1; omega
              case rel =>
                have hcut := cut_nil (vo := u4) (ad := none) (cp := 0) HO.out.2.2.1 (by omega) (fun e => by first | rfl | cases e)
                have hst := st_read (q := []) (a := a) (n := 0) (kk := k) (N := 0) (ok := false) E3.out.2 (by unfold Lim; have := E3.out.1; omega) (by simp) (by simp) rfl
                have hfin := que_next hj HA.out A.out.1 A.out.2.1 A.out.2.2.1 HO.out.1 HO.out.2.2.2.2 HO.out.2.2.2.1 HO.out.2.1 ((Same.refl _ _).alloc _) hcut.1 hcut.2 hst rfl (Nat.zero_le _) C2.out.1 C2.out.2.1 (by simpa using C2.out.2.2)
                first | exact hfin | simpa using hfin
            · go_wp2_with (at_builtin; refine wpList_append_own2 _ rfl _ _ 36 rfl w.heap.size 61 i0 (.agg #[.int .i64 0, .bool false, .slice none 0 0, .bool false]) 4 48 Tryd.underlying36 hi hz0 hz1 hz2 rfl (by decide) u4 j _ rfl (ownsRow_same HO.out.1 (F := fun _ => False) (((Same.refl _ _).alloc _).alloc _) (fun _ _ h => h)) ⟨wr.heap.size + 1, 0, none⟩ 1 1 (ResV.cells ⟨0, false, none, 0, 0, false⟩) rfl rfl ?c1 ?c2 ?c3 ?c4 ?c5 ?_)
              case c1 => first | exact cells_new2 wr _ (ResV.cells ⟨0, false, none, 0, 0, false⟩) 61 | exact fun j u h => h
              case c2 => exact res_one _
              case c3 => unfold maxLen; omega
              case c4 => omega
              case c5 => first | omega | (simp; omega)
              intro v2 w2 hown2 hgrow2 hwhere2
              have C2 := Lib.hid (And.intro hown2 (And.intro hgrow2 hwhere2))
              clear hown2 hgrow2 hwhere2
              go_wp2_with fail
              go_roundg (gk - 1)
              case measure => have := A.out.1; omega
              case rel =>
                have hcut := cut_nil (vo := u4) (ad := none) (cp := 0) HO.out.2.2.1 (by omega) (fun e => by first | rfl | cases e)
                have hst := st_read (q := []) (a := a) (n := 0) (kk := 100000) (N := 0) (ok := false) E3.out.2 (by unfold Lim; have := E3.out.1; omega) (by simp) (by simp) rfl
                have hfin := que_next hj HA.out A.out.1 A.out.2.1 A.out.2.2.1 HO.out.1 HO.out.2.2.2.2 HO.out.2.2.2.1 HO.out.2.1 ((Same.refl _ _).alloc _) hcut.1 hcut.2 hst rfl (Nat.zero_le _) C2.out.1 C2.out.2.1 (by simpa using C2.out.2.2)
                first | exact hfin | simpa using hfin
          · obtain rfl : os = none := by
              rcases HO.out.2.1 with ⟨h, _⟩ | ⟨_, _, _, _, h, _⟩
              · cases h
              · cases h; rfl
            by_cases hc0 : cap = 0
            · subst hc0
              by_cases hn0 : xn ≤ 0
              · go_wp2_with (at_builtin; refine wpList_append_own2 _ rfl _ _ 36 rfl w.heap.size 61 i0 (.agg #[.int .i64 0, .bool false, .slice none 0 0, .bool false]) 4 48 Tryd.underlying36 hi hz0 hz1 hz2 rfl (by decide) u4 j _ rfl (ownsRow_same HO.out.1 (F := fun _ => False) (((Same.refl _ _).alloc _).alloc _) (fun _ _ h => h)) ⟨wr.heap.size + 1, 0, none⟩ 1 1 (ResV.cells ⟨0, false, some ⟨g, o, none⟩, 0, 0, false⟩) rfl rfl ?c1 ?c2 ?c3 ?c4 ?c5 ?_)
                case c1 => first | exact cells_new2 wr _ (ResV.cells ⟨0, false, some ⟨g, o, none⟩, 0, 0, false⟩) 61 | exact fun j u h => h
                case c2 => exact res_one _
                case c3 => unfold maxLen; omega
                case c4 => omega
                case c5 => first | omega | (simp; omega)
                intro v2 w2 hown2 hgrow2 hwhere2
                have C2 := Lib.hid (And.intro hown2 (And.intro hgrow2 hwhere2))
                clear hown2 hgrow2 hwhere2
                go_wp2_with fail
                go_roundg (gk - 1)
                case measure => have := A.out.1; omega
                case rel =>
                  have hcut := cut_nil (vo := u4) (ad := some ⟨g, o, none⟩) (cp := 0) HO.out.2.2.1 (by omega) (fun e => by first | rfl | cases e)
                  have hst := st_read (q := []) (a := a) (n := 0) (kk := 0) (N := 0) (ok := false) E3.out.2 (by unfold Lim; have := E3.out.1; omega) (by simp) (by simp) rfl
                  have hfin := que_next hj HA.out A.out.1 A.out.2.1 A.out.2.2.1 HO.out.1 HO.out.2.2.2.2 HO.out.2.2.2.1 HO.out.2.1 ((Same.refl _ _).alloc _) hcut.1 hcut.2 hst rfl (Nat.zero_le _) C2.out.1 C2.out.2.1 (by simpa using C2.out.2.2)
                  first | exact hfin | simpa using hfin
              by_cases hn1 : xn ≤ 100000
              · obtain ⟨k, rfl⟩ : ∃ k : Nat, xn = (k : Int) := ⟨xn.toNat, by omega⟩
                go_wp2_with (at_builtin; refine wpList_append_own2 _ rfl _ _ 36 rfl w.heap.size 61 i0 (.agg #[.int .i64 0, .bool false, .slice none 0 0, .bool false]) 4 48 Tryd.underlying36 hi hz0 hz1 hz2 rfl (by decide) u4 j _ rfl (ownsRow_same HO.out.1 (F := fun _ => False) (((Same.refl _ _).alloc _).alloc _) (fun _ _ h => h)) ⟨wr.heap.size + 1, 0, none⟩ 1 1 (ResV.cells ⟨0, false, some ⟨g, o, none⟩, 0, 0, false⟩) rfl rfl ?c1 ?c2 ?c3 ?c4 ?c5 ?_)
                case c1 => first | exact cells_new2 wr _ (ResV.cells ⟨0, false, some ⟨g, o, none⟩, 0, 0, false⟩) 61 | exact fun j u h => h
                case c2 => exact res_one _
                case c3 => unfold maxLen; omega
                case c4 => omega
                case c5 => first | omega | (simp; omega)
                intro v2 w2 hown2 hgrow2 hwhere2
                have C2 := Lib.hid (And.intro hown2 (And.intro hgrow2 hwhere2))
                clear hown2 hgrow2 hwhere2
                go_wp2_with fail
                go_roundg (gk - 1)
                case measure => have := A.out.1; omega
                case rel =>
                  have hcut := cut_nil (vo := u4) (ad := some ⟨g, o, none⟩) (cp := 0) HO.out.2.2.1 (by omega) (fun e => by first | rfl | cases e)
                  have hst := st_read (q := []) (a := a) (n := 0) (kk := k) (N := 0) (ok := false) E3.out.2 (by unfold Lim; have := E3.out.1; omega) (by simp) (by simp) rfl
                  have hfin := que_next hj HA.out A.out.1 A.out.2.1 A.out.2.2.1 HO.out.1 HO.out.2.2.2.2 HO.out.2.2.2.1 HO.out.2.1 ((Same.refl _ _).alloc _) hcut.1 hcut.2 hst rfl (Nat.zero_le _) C2.out.1 C2.out.2.1 (by simpa using C2.out.2.2)
                  first | exact hfin | simpa using hfin
              · go_wp2_with (at_builtin; refine wpList_append_own2 _ rfl _ _ 36 rfl w.heap.size 61 i0 (.agg #[.int .i64 0, .bool false, .slice none 0 0, .bool false]) 4 48 Tryd.underlying36 hi hz0 hz1 hz2 rfl (by decide) u4 j _ rfl (ownsRow_same HO.out.1 (F := fun _ => False) (((Same.refl _ _).alloc _).alloc _) (fun _ _ h => h)) ⟨wr.heap.size + 1, 0, none⟩ 1 1 (ResV.cells ⟨0, false, some ⟨g, o, none⟩, 0, 0, false⟩) rfl rfl ?c1 ?c2 ?c3 ?c4 ?c5 ?_)
                case c1 => first | exact cells_new2 wr _ (ResV.cells ⟨0, false, some ⟨g, o, none⟩, 0, 0, false⟩) 61 | exact fun j u h => h
                case c2 => exact res_one _
                case c3 => unfold maxLen; omega
                case c4 => omega
                case c5 => first | omega | (simp; omega)
                intro v2 w2 hown2 hgrow2 hwhere2
                have C2 := Lib.hid (And.intro hown2 (And.intro hgrow2 hwhere2))
                clear hown2 hgrow2 hwhere2
                go_wp2_with fail
                go_roundg (gk - 1)
                case measure => have := A.out.1; omega
                case rel =>
                  have hcut := cut_nil (vo := u4) (ad := some ⟨g, o, none⟩) (cp := 0) HO.out.2.2.1 (by omega) (fun e => by first | rfl | cases e)
                  have hst := st_read (q := []) (a := a) (n := 0) (kk := 100000) (N := 0) (ok := false) E3.out.2 (by unfold Lim; have := E3.out.1; omega) (by simp) (by simp) rfl
                  have hfin := que_next hj HA.out A.out.1 A.out.2.1 A.out.2.2.1 HO.out.1 HO.out.2.2.2.2 HO.out.2.2.2.1 HO.out.2.1 ((Same.refl _ _).alloc _) hcut.1 hcut.2 hst rfl (Nat.zero_le _) C2.out.1 C2.out.2.1 (by simpa using C2.out.2.2)
                  first | exact hfin | simpa using hfin
            · by_cases hn0 : xn ≤ 0
              · go_wp2_with (at_builtin; refine wpList_append_own2 _ rfl _ _ 36 rfl w.heap.size 61 i0 (.agg #[.int .i64 0, .bool false, .slice none 0 0, .bool false]) 4 48 Tryd.underlying36 hi hz0 hz1 hz2 rfl (by decide) u4 j _ rfl (ownsRow_same HO.out.1 (F := fun _ => False) (((Same.refl _ _).alloc _).alloc _) (fun _ _ h => h)) ⟨wr.heap.size + 1, 0, none⟩ 1 1 (ResV.cells ⟨0, false, some ⟨g, o, none⟩, 0, cap, false⟩) rfl rfl ?c1 ?c2 ?c3 ?c4 ?c5 ?_)
                case c1 => first | exact cells_new2 wr _ (ResV.cells ⟨0, false, some ⟨g, o, none⟩, 0, cap, false⟩) 61 | exact fun j u h => h
                case c2 => exact res_one _
                case c3 => unfold maxLen; omega
                case c4 => omega
                case c5 => first | omega | (simp; omega)
                intro v2 w2 hown2 hgrow2 hwhere2
                have C2 := Lib.hid (And.intro hown2 (And.intro hgrow2 hwhere2))
                clear hown2 hgrow2 hwhere2
                go_wp2_with fail
                go_roundg (gk - 1)
                case measure => have := A.out.1; omega
                case rel =>
                  have hcut := cut_nil (vo := u4) (ad := some ⟨g, o, none⟩) (cp := cap) HO.out.2.2.1 (by omega) (fun e => by first | rfl | cases e)
                  have hst := st_read (q := []) (a := a) (n := 0) (kk := 0) (N := 0) (ok := false) E3.out.2 (by unfold Lim; have := E3.out.1; omega) (by simp) (by simp) rfl
                  have hfin := que_next hj HA.out A.out.1 A.out.2.1 A.out.2.2.1 HO.out.1 HO.out.2.2.2.2 HO.out.2.2.2.1 HO.out.2.1 ((Same.refl _ _).alloc _) hcut.1 hcut.2 hst rfl (Nat.zero_le _) C2.out.1 C2.out.2.1 (by simpa using C2.out.2.2)
                  first | exact hfin | simpa using hfin
              by_cases hn1 : xn ≤ 100000
              · obtain ⟨k, rfl⟩ : ∃ k : Nat, xn = (k : Int) := ⟨xn.toNat, by omega⟩
                go_wp2_with (at_builtin; refine wpList_append_own2 _ rfl _ _ 36 rfl w.heap.size 61 i0 (.agg #[.int .i64 0, .bool false, .slice none 0 0, .bool false]) 4 48 Tryd.underlying36 hi hz0 hz1 hz2 rfl (by decide) u4 j _ rfl (ownsRow_same HO.out.1 (F := fun _ => False) (((Same.refl _ _).alloc _).alloc _) (fun _ _ h => h)) ⟨wr.heap.size + 1, 0, none⟩ 1 1 (ResV.cells ⟨0, false, some ⟨g, o, none⟩, 0, cap, false⟩) rfl rfl ?c1 ?c2 ?c3 ?c4 ?c5 ?_)
                case c1 => first | exact cells_new2 wr _ (ResV.cells ⟨0, false, some ⟨g, o, none⟩, 0, cap, false⟩) 61 | exact fun j u h => h
                case c2 => exact res_one _
                case c3 => unfold maxLen; omega
                case c4 => omega
                case c5 => first | omega | (simp; omega)
                intro v2 w2 hown2 hgrow2 hwhere2
                have C2 := Lib.hid (And.intro hown2 (And.intro hgrow2 hwhere2))
                clear hown2 hgrow2 hwhere2
                go_wp2_with fail
                go_roundg (gk - 1)
                case measure => have := A.out.1; omega
                case rel =>
                  have hcut := cut_nil (vo := u4) (ad := some ⟨g, o, none⟩) (cp := cap) HO.out.2.2.1 (by omega) (fun e => by first | rfl | cases e)
                  have hst := st_read (q := []) (a := a) (n := 0) (kk := k) (N := 0) (ok := false) E3.out.2 (by unfold Lim; have := E3.out.1; omega) (by simp) (by simp) rfl
                  have hfin := que_next hj HA.out A.out.1 A.out.2.1 A.out.2.2.1 HO.out.1 HO.out.2.2.2.2 HO.out.2.2.2.1 HO.out.2.1 ((Same.refl _ _).alloc _) hcut.1 hcut.2 hst rfl (Nat.zero_le _) C2.out.1 C2.out.2.1 (by simpa using C2.out.2.2)
                  first | exact hfin | simpa using hfin
              · go_wp2_with (at_builtin; refine wpList_append_own2 _ rfl _ _ 36 rfl w.heap.size 61 i0 (.agg #[.int .i64 0, .bool false, .slice none 0 0, .bool false]) 4 48 Tryd.underlying36 hi hz0 hz1 hz2 rfl (by decide) u4 j _ rfl (ownsRow_same HO.out.1 (F := fun _ => False) (((Same.refl _ _).alloc _).alloc _) (fun _ _ h => h)) ⟨wr.heap.size + 1, 0, none⟩ 1 1 (ResV.cells ⟨0, false, some ⟨g, o, none⟩, 0, cap, false⟩) rfl rfl ?c1 ?c2 ?c3 ?c4 ?c5 ?_)
                case c1 => first | exact cells_new2 wr _ (ResV.cells ⟨0, false, some ⟨g, o, none⟩, 0, cap, false⟩) 61 | exact fun j u h => h
                case c2 => exact res_one _
                case c3 => unfold maxLen; omega
                case c4 => omega
                case c5 => first | omega | (simp; omega)
                intro v2 w2 hown2 hgrow2 hwhere2
                have C2 := Lib.hid (And.intro hown2 (And.intro hgrow2 hwhere2))
                clear hown2 hgrow2 hwhere2
                go_wp2_with fail
                go_roundg (gk - 1)
                case measure => have := A.out.1; omega
                case rel =>
                  have hcut := cut_nil (vo := u4) (ad := some ⟨g, o, none⟩) (cp := cap) HO.out.2.2.1 (by omega) (fun e => by first | rfl | cases e)
                  have hst := st_read (q := []) (a := a) (n := 0) (kk := 100000) (N := 0) (ok := false) E3.out.2 (by unfold Lim; have := E3.out.1; omega) (by simp) (by simp) rfl
                  have hfin := que_next hj HA.out A.out.1 A.out.2.1 A.out.2.2.1 HO.out.1 HO.out.2.2.2.2 HO.out.2.2.2.1 HO.out.2.1 ((Same.refl _ _).alloc _) hcut.1 hcut.2 hst rfl (Nat.zero_le _) C2.out.1 C2.out.2.1 (by simpa using C2.out.2.2)
                  first | exact hfin | simpa using hfin
        · have hqp : 0 < q.length := by omega
          have hqI : (0 : Int) < (q.length : Int) := by omega
          have hc0 : ¬ cap = 0 := by omega
          obtain ⟨g, o, rfl⟩ : ∃ g o, qa = some ⟨g, o, none⟩ := by
            rcases HO.out.2.1 with ⟨h, _⟩ | ⟨g, o, _, _, h, _⟩
            · injection h with h1 h2 h3; omega
            · cases h; exact ⟨g, o, rfl⟩
          by_cases hn0 : xn ≤ 0
          · go_wp2_with (at_builtin; refine wpList_append_own2 _ rfl _ _ 36 rfl w.heap.size 61 i0 (.agg #[.int .i64 0, .bool false, .slice none 0 0, .bool false]) 4 48 Tryd.underlying36 hi hz0 hz1 hz2 rfl (by decide) u4 j _ rfl (ownsRow_same HO.out.1 (F := fun _ => False) (((Same.refl _ _).alloc _).alloc _) (fun _ _ h => h)) ⟨wr.heap.size + 1, 0, none⟩ 1 1 (ResV.cells ⟨(q.length : Int), true, some ⟨g, o, none⟩, 0, cap, false⟩) rfl rfl ?c1 ?c2 ?c3 ?c4 ?c5 ?_)
            case c1 => first | exact cells_new2 wr _ (ResV.cells ⟨(q.length : Int), true, some ⟨g, o, none⟩, 0, cap, false⟩) 61 | exact fun j u h => h
            case c2 => exact res_one _
            case c3 => unfold maxLen; omega
            case c4 => omega
            case c5 => first | omega | (simp; omega)
            intro v2 w2 hown2 hgrow2 hwhere2
            have C2 := Lib.hid (And.intro hown2 (And.intro hgrow2 hwhere2))
            clear hown2 hgrow2 hwhere2
            go_wp2_with fail
            go_roundg (gk - 1)
            case measure => have := A.out.1; omega
            case rel =>
              have hn1 : (0 : Nat) ≤ q.length := by omega
              have hcut := cut_some (vo := u4) (N := (q.length : Int)) (ok := true) (vq' := .slice (some ⟨g, o + 0, none⟩) (q.length - 0) (cap - 0)) HO.out.2.2.1 hn1 HO.out.2.2.2.1 ⟨by omega, by omega⟩ (.inr ⟨by omega, rfl⟩)
              have hst := st_read (q := q) (a := a) (n := 0) (kk := 0) (N := (q.length : Int)) (ok := true) E3.out.2 (by unfold Lim; have := E3.out.1; omega) (by simp only [Nat.min_def]; split <;> omega) (by omega) (by first | exact decide_eq_true (by omega) | exact decide_eq_false (by omega))
              have hq2 : (q.drop (0)).length ≤ total (al.take (j + 1)) := by have := A.out.2.2.2; simp only [List.length_drop]; omega
              have hfin := que_next hj HA.out A.out.1 A.out.2.1 A.out.2.2.1 HO.out.1 HO.out.2.2.2.2 HO.out.2.2.2.1 HO.out.2.1 ((Same.refl _ _).alloc _) hcut.1 hcut.2 hst rfl hq2 C2.out.1 C2.out.2.1 (by simpa using C2.out.2.2)
              first | exact hfin | simpa using hfin
          by_cases hn1 : xn ≤ 100000
          · obtain ⟨k, rfl⟩ : ∃ k : Nat, xn = (k : Int) := ⟨xn.toNat, by omega⟩
            by_cases hkq : k ≤ q.length
            · have hkl : (k : Int) ≤ (q.length : Int) := by omega
              have hk1 : 0 < k := by omega
              by_cases hck : cap = k
              · subst hck
                go_wp2_with (at_builtin; refine wpList_append_own2 _ rfl _ _ 36 rfl w.heap.size 61 i0 (.agg #[.int .i64 0, .bool false, .slice none 0 0, .bool false]) 4 48 Tryd.underlying36 hi hz0 hz1 hz2 rfl (by decide) u4 j _ rfl (ownsRow_same HO.out.1 (F := fun _ => False) (((Same.refl _ _).alloc _).alloc _) (fun _ _ h => h)) ⟨wr.heap.size + 1, 0, none⟩ 1 1 (ResV.cells ⟨(q.length : Int) - (cap : Int), true, some ⟨g, o, none⟩, cap, cap, false⟩) rfl rfl ?c1 ?c2 ?c3 ?c4 ?c5 ?_)
                case c1 => first | exact cells_new2 wr _ (ResV.cells ⟨(q.length : Int) - (cap : Int), true, some ⟨g, o, none⟩, cap, cap, false⟩) 61 | exact fun j u h => h
                case c2 => exact res_one _
                case c3 => unfold maxLen; omega
                case c4 => omega
                case c5 => first | omega | (simp; omega)
                intro v2 w2 hown2 hgrow2 hwhere2
                have C2 := Lib.hid (And.intro hown2 (And.intro hgrow2 hwhere2))
                clear hown2 hgrow2 hwhere2
                go_wp2_with fail
                go_roundg (gk - 1)
                case measure => have := A.out.1; omega
                case rel =>
                  have hn1 : (cap : Nat) ≤ q.length := by omega
                  have hcut := cut_some (vo := u4) (N := (q.length : Int) - (cap : Int)) (ok := true) (vq' := .slice (some ⟨g, o, none⟩) (q.length - cap) 0) HO.out.2.2.1 hn1 HO.out.2.2.2.1 ⟨by omega, by omega⟩ (.inl ⟨rfl, rfl⟩)
                  have hst := st_read (q := q) (a := a) (n := cap) (kk := cap) (N := (q.length : Int) - (cap : Int)) (ok := true) E3.out.2 (by unfold Lim; have := E3.out.1; omega) (by simp only [Nat.min_def]; split <;> omega) (by omega) (by first | exact decide_eq_true (by omega) | exact decide_eq_false (by omega))
                  have hq2 : (q.drop (cap)).length ≤ total (al.take (j + 1)) := by have := A.out.2.2.2; simp only [List.length_drop]; omega
                  have hfin := que_next hj HA.out A.out.1 A.out.2.1 A.out.2.2.1 HO.out.1 HO.out.2.2.2.2 HO.out.2.2.2.1 HO.out.2.1 ((Same.refl _ _).alloc _) hcut.1 hcut.2 hst rfl hq2 C2.out.1 C2.out.2.1 (by simpa using C2.out.2.2)
                  have hz : q.length - cap = 0 := by omega
                  rw [hz] at hfin
                  exact hfin
              · go_wp2_with (at_builtin; refine wpList_append_own2 _ rfl _ _ 36 rfl w.heap.size 61 i0 (.agg #[.int .i64 0, .bool false, .slice none 0 0, .bool false]) 4 48 Tryd.underlying36 hi hz0 hz1 hz2 rfl (by decide) u4 j _ rfl (ownsRow_same HO.out.1 (F := fun _ => False) (((Same.refl _ _).alloc _).alloc _) (fun _ _ h => h)) ⟨wr.heap.size + 1, 0, none⟩ 1 1 (ResV.cells ⟨(q.length : Int) - (k : Int), true, some ⟨g, o, none⟩, k, cap, false⟩) rfl rfl ?c1 ?c2 ?c3 ?c4 ?c5 ?_)
                case c1 => first | exact cells_new2 wr _ (ResV.cells ⟨(q.length : Int) - (k : Int), true, some ⟨g, o, none⟩, k, cap, false⟩) 61 | exact fun j u h => h
                case c2 => exact res_one _
                case c3 => unfold maxLen; omega
                case c4 => omega
                case c5 => first | omega | (simp; omega)
                intro v2 w2 hown2 hgrow2 hwhere2
                have C2 := Lib.hid (And.intro hown2 (And.intro hgrow2 hwhere2))
                clear hown2 hgrow2 hwhere2
                go_wp2_with fail
                go_roundg (gk - 1)
                case measure => have := A.out.1; omega
                case rel =>
                  have hn1 : (k : Nat) ≤ q.length := by omega
                  have hcut := cut_some (vo := u4) (N := (q.length : Int) - (k : Int)) (ok := true) (vq' := .slice (some ⟨g, o + k, none⟩) (q.length - k) (cap - k)) HO.out.2.2.1 hn1 HO.out.2.2.2.1 ⟨by omega, by omega⟩ (.inr ⟨by omega, rfl⟩)
                  have hst := st_read (q := q) (a := a) (n := k) (kk := k) (N := (q.length : Int) - (k : Int)) (ok := true) E3.out.2 (by unfold Lim; have := E3.out.1; omega) (by simp only [Nat.min_def]; split <;> omega) (by omega) (by first | exact decide_eq_true (by omega) | exact decide_eq_false (by omega))
                  have hq2 : (q.drop (k)).length ≤ total (al.take (j + 1)) := by have := A.out.2.2.2; simp only [List.length_drop]; omega
                  have hfin := que_next hj HA.out A.out.1 A.out.2.1 A.out.2.2.1 HO.out.1 HO.out.2.2.2.2 HO.out.2.2.2.1 HO.out.2.1 ((Same.refl _ _).alloc _) hcut.1 hcut.2 hst rfl hq2 C2.out.1 C2.out.2.1 (by simpa using C2.out.2.2)
                  first | exact hfin | simpa using hfin
            · have hkl' : (q.length : Int) < (k : Int) := by omega
              by_cases hcq : cap = q.length
              · subst hcq
                go_wp2_with (at_builtin; refine wpList_append_own2 _ rfl _ _ 36 rfl w.heap.size 61 i0 (.agg #[.int .i64 0, .bool false, .slice none 0 0, .bool false]) 4 48 Tryd.underlying36 hi hz0 hz1 hz2 rfl (by decide) u4 j _ rfl (ownsRow_same HO.out.1 (F := fun _ => False) (((Same.refl _ _).alloc _).alloc _) (fun _ _ h => h)) ⟨wr.heap.size + 1, 0, none⟩ 1 1 (ResV.cells ⟨0, true, some ⟨g, o, none⟩, q.length, q.length, false⟩) rfl rfl ?c1 ?c2 ?c3 ?c4 ?c5 ?_)
                case c1 => first | exact cells_new2 wr _ (ResV.cells ⟨0, true, some ⟨g, o, none⟩, q.length, q.length, false⟩) 61 | exact fun j u h => h
                case c2 => exact res_one _
                case c3 => unfold maxLen; omega
                case c4 => omega
                case c5 => first | omega | (simp; omega)
                intro v2 w2 hown2 hgrow2 hwhere2
                have C2 := Lib.hid (And.intro hown2 (And.intro hgrow2 hwhere2))
                clear hown2 hgrow2 hwhere2
                go_wp2_with fail
                go_roundg (gk - 1)
                case measure => have := A.out.1; omega
                case rel =>
                  have hn1 : (q.length : Nat) ≤ q.length := by omega
                  have hcut := cut_some (vo := u4) (N := 0) (ok := true) (vq' := .slice (some ⟨g, o, none⟩) (q.length - q.length) 0) HO.out.2.2.1 hn1 HO.out.2.2.2.1 ⟨by omega, by omega⟩ (.inl ⟨rfl, rfl⟩)
                  have hst := st_read (q := q) (a := a) (n := q.length) (kk := k) (N := 0) (ok := true) E3.out.2 (by unfold Lim; have := E3.out.1; omega) (by simp only [Nat.min_def]; split <;> omega) (by omega) (by first | exact decide_eq_true (by omega) | exact decide_eq_false (by omega))
                  have hq2 : (q.drop (q.length)).length ≤ total (al.take (j + 1)) := by have := A.out.2.2.2; simp only [List.length_drop]; omega
                  have hfin := que_next hj HA.out A.out.1 A.out.2.1 A.out.2.2.1 HO.out.1 HO.out.2.2.2.2 HO.out.2.2.2.1 HO.out.2.1 ((Same.refl _ _).alloc _) hcut.1 hcut.2 hst rfl hq2 C2.out.1 C2.out.2.1 (by simpa using C2.out.2.2)
                  first | exact hfin | simpa using hfin
              · go_wp2_with (at_builtin; refine wpList_append_own2 _ rfl _ _ 36 rfl w.heap.size 61 i0 (.agg #[.int .i64 0, .bool false, .slice none 0 0, .bool false]) 4 48 Tryd.underlying36 hi hz0 hz1 hz2 rfl (by decide) u4 j _ rfl (ownsRow_same HO.out.1 (F := fun _ => False) (((Same.refl _ _).alloc _).alloc _) (fun _ _ h => h)) ⟨wr.heap.size + 1, 0, none⟩ 1 1 (ResV.cells ⟨0, true, some ⟨g, o, none⟩, q.length, cap, false⟩) rfl rfl ?c1 ?c2 ?c3 ?c4 ?c5 ?_)
                case c1 => first | exact cells_new2 wr _ (ResV.cells ⟨0, true, some ⟨g, o, none⟩, q.length, cap, false⟩) 61 | exact fun j u h => h
                case c2 => exact res_one _
                case c3 => unfold maxLen; omega
                case c4 => omega
                case c5 => first | omega | (simp; omega)
                intro v2 w2 hown2 hgrow2 hwhere2
                have C2 := Lib.hid (And.intro hown2 (And.intro hgrow2 hwhere2))
                clear hown2 hgrow2 hwhere2
                go_wp2_with fail
                go_roundg (gk - 1)
                case measure => have := A.out.1; omega
                case rel =>
                  have hn1 : (q.length : Nat) ≤ q.length := by omega
                  have hcut := cut_some (vo := u4) (N := 0) (ok := true) (vq' := .slice (some ⟨g, o + q.length, none⟩) (q.length - q.length) (cap - q.length)) HO.out.2.2.1 hn1 HO.out.2.2.2.1 ⟨by omega, by omega⟩ (.inr ⟨by omega, rfl⟩)
                  have hst := st_read (q := q) (a := a) (n := q.length) (kk := k) (N := 0) (ok := true) E3.out.2 (by unfold Lim; have := E3.out.1; omega) (by simp only [Nat.min_def]; split <;> omega) (by omega) (by first | exact decide_eq_true (by omega) | exact decide_eq_false (by omega))
                  have hq2 : (q.drop (q.length)).length ≤ total (al.take (j + 1)) := by have := A.out.2.2.2; simp only [List.length_drop]; omega
                  have hfin := que_next hj HA.out A.out.1 A.out.2.1 A.out.2.2.1 HO.out.1 HO.out.2.2.2.2 HO.out.2.2.2.1 HO.out.2.1 ((Same.refl _ _).alloc _) hcut.1 hcut.2 hst rfl hq2 C2.out.1 C2.out.2.1 (by simpa using C2.out.2.2)
                  first | exact hfin | simpa using hfin
          · by_cases hkq : 100000 ≤ q.length
            · have hkl : 100000 ≤ (q.length : Int) := by omega
              by_cases hck : cap = 100000
              · subst hck
                go_wp2_with (at_builtin; refine wpList_append_own2 _ rfl _ _ 36 rfl w.heap.size 61 i0 (.agg #[.int .i64 0, .bool false, .slice none 0 0, .bool false]) 4 48 Tryd.underlying36 hi hz0 hz1 hz2 rfl (by decide) u4 j _ rfl (ownsRow_same HO.out.1 (F := fun _ => False) (((Same.refl _ _).alloc _).alloc _) (fun _ _ h => h)) ⟨wr.heap.size + 1, 0, none⟩ 1 1 (ResV.cells ⟨(q.length : Int) - 100000, true, some ⟨g, o, none⟩, 100000, 100000, false⟩) rfl rfl ?c1 ?c2 ?c3 ?c4 ?c5 ?_)
                case c1 => first | exact cells_new2 wr _ (ResV.cells ⟨(q.length : Int) - 100000, true, some ⟨g, o, none⟩, 100000, 100000, false⟩) 61 | exact fun j u h => h
                case c2 => exact res_one _
                case c3 => unfold maxLen; omega
                case c4 => omega
                case c5 => first | omega | (simp; omega)
                intro v2 w2 hown2 hgrow2 hwhere2
                have C2 := Lib.hid (And.intro hown2 (And.intro hgrow2 hwhere2))
                clear hown2 hgrow2 hwhere2
                go_wp2_with fail
                go_roundg (gk - 1)
                case measure => have := A.out.1; omega
                case rel =>
                  have hn1 : (100000 : Nat) ≤ q.length := by omega
                  have hcut := cut_some (vo := u4) (N := (q.length : Int) - 100000) (ok := true) (vq' := .slice (some ⟨g, o, none⟩) (q.length - 100000) 0) HO.out.2.2.1 hn1 HO.out.2.2.2.1 ⟨by omega, by omega⟩ (.inl ⟨rfl, rfl⟩)
                  have hst := st_read (q := q) (a := a) (n := 100000) (kk := 100000) (N := (q.length : Int) - 100000) (ok := true) E3.out.2 (by unfold Lim; have := E3.out.1; omega) (by simp only [Nat.min_def]; split <;> omega) (by omega) (by first | exact decide_eq_true (by omega) | exact decide_eq_false (by omega))
                  have hq2 : (q.drop (100000)).length ≤ total (al.take (j + 1)) := by have := A.out.2.2.2; simp only [List.length_drop]; omega
                  have hfin := que_next hj HA.out A.out.1 A.out.2.1 A.out.2.2.1 HO.out.1 HO.out.2.2.2.2 HO.out.2.2.2.1 HO.out.2.1 ((Same.refl _ _).alloc _) hcut.1 hcut.2 hst rfl hq2 C2.out.1 C2.out.2.1 (by simpa using C2.out.2.2)
                  have hz : q.length - 100000 = 0 := by omega
                  rw [hz] at hfin
                  exact hfin
              · go_wp2_with (at_builtin; refine wpList_append_own2 _ rfl _ _ 36 rfl w.heap.size 61 i0 (.agg #[.int .i64 0, .bool false, .slice none 0 0, .bool false]) 4 48 Tryd.underlying36 hi hz0 hz1 hz2 rfl (by decide) u4 j _ rfl (ownsRow_same HO.out.1 (F := fun _ => False) (((Same.refl _ _).alloc _).alloc _) (fun _ _ h => h)) ⟨wr.heap.size + 1, 0, none⟩ 1 1 (ResV.cells ⟨(q.length : Int) - 100000, true, some ⟨g, o, none⟩, 100000, cap, false⟩) rfl rfl ?c1 ?c2 ?c3 ?c4 ?c5 ?_)
                case c1 => first | exact cells_new2 wr _ (ResV.cells ⟨(q.length : Int) - 100000, true, some ⟨g, o, none⟩, 100000, cap, false⟩) 61 | exact fun j u h => h
                case c2 => exact res_one _
                case c3 => unfold maxLen; omega
                case c4 => omega
                case c5 => first | omega | (simp; omega)
                intro v2 w2 hown2 hgrow2 hwhere2
                have C2 := Lib.hid (And.intro hown2 (And.intro hgrow2 hwhere2))
                clear hown2 hgrow2 hwhere2
                go_wp2_with fail
                go_roundg (gk - 1)
                case measure => have := A.out.1; omega
                case rel =>
                  have hn1 : (100000 : Nat) ≤ q.length := by omega
                  have hcut := cut_some (vo := u4) (N := (q.length : Int) - 100000) (ok := true) (vq' := .slice (some ⟨g, o + 100000, none⟩) (q.length - 100000) (cap - 100000)) HO.out.2.2.1 hn1 HO.out.2.2.2.1 ⟨by omega, by omega⟩ (.inr ⟨by omega, rfl⟩)
                  have hst := st_read (q := q) (a := a) (n := 100000) (kk := 100000) (N := (q.length : Int) - 100000) (ok := true) E3.out.2 (by unfold Lim; have := E3.out.1; omega) (by simp only [Nat.min_def]; split <;> omega) (by omega) (by first | exact decide_eq_true (by omega) | exact decide_eq_false (by omega))
                  have hq2 : (q.drop (100000)).length ≤ total (al.take (j + 1)) := by have := A.out.2.2.2; simp only [List.length_drop]; omega
                  have hfin := que_next hj HA.out A.out.1 A.out.2.1 A.out.2.2.1 HO.out.1 HO.out.2.2.2.2 HO.out.2.2.2.1 HO.out.2.1 ((Same.refl _ _).alloc _) hcut.1 hcut.2 hst rfl hq2 C2.out.1 C2.out.2.1 (by simpa using C2.out.2.2)
                  first | exact hfin | simpa using hfin
            · have hkl' : (q.length : Int) < 100000 := by omega
              by_cases hcq : cap = q.length
              · subst hcq
                go_wp2_with (at_builtin; refine wpList_append_own2 _ rfl _ _ 36 rfl w.heap.size 61 i0 (.agg #[.int .i64 0, .bool false, .slice none 0 0, .bool false]) 4 48 Tryd.underlying36 hi hz0 hz1 hz2 rfl (by decide) u4 j _ rfl (ownsRow_same HO.out.1 (F := fun _ => False) (((Same.refl _ _).alloc _).alloc _) (fun _ _ h => h)) ⟨wr.heap.size + 1, 0, none⟩ 1 1 (ResV.cells ⟨0, true, some ⟨g, o, none⟩, q.length, q.length, false⟩) rfl rfl ?c1 ?c2 ?c3 ?c4 ?c5 ?_)
                case c1 => first | exact cells_new2 wr _ (ResV.cells ⟨0, true, some ⟨g, o, none⟩, q.length, q.length, false⟩) 61 | exact fun j u h => h
                case c2 => exact res_one _
                case c3 => unfold maxLen; omega
                case c4 => omega
                case c5 => first | omega | (simp; omega)
                intro v2 w2 hown2 hgrow2 hwhere2
                have C2 := Lib.hid (And.intro hown2 (And.intro hgrow2 hwhere2))
                clear hown2 hgrow2 hwhere2
                go_wp2_with fail
                go_roundg (gk - 1)
                case measure => have := A.out.1; omega
                case rel =>
                  have hn1 : (q.length : Nat) ≤ q.length := by omega
                  have hcut := cut_some (vo := u4) (N := 0) (ok := true) (vq' := .slice (some ⟨g, o, none⟩) (q.length - q.length) 0) HO.out.2.2.1 hn1 HO.out.2.2.2.1 ⟨by omega, by omega⟩ (.inl ⟨rfl, rfl⟩)
                  have hst := st_read (q := q) (a := a) (n := q.length) (kk := 100000) (N := 0) (ok := true) E3.out.2 (by unfold Lim; have := E3.out.1; omega) (by simp only [Nat.min_def]; split <;> omega) (by omega) (by first | exact decide_eq_true (by omega) | exact decide_eq_false (by omega))
                  have hq2 : (q.drop (q.length)).length ≤ total (al.take (j + 1)) := by have := A.out.2.2.2; simp only [List.length_drop]; omega
                  have hfin := que_next hj HA.out A.out.1 A.out.2.1 A.out.2.2.1 HO.out.1 HO.out.2.2.2.2 HO.out.2.2.2.1 HO.out.2.1 ((Same.refl _ _).alloc _) hcut.1 hcut.2 hst rfl hq2 C2.out.1 C2.out.2.1 (by simpa using C2.out.2.2)
                  first | exact hfin | simpa using hfin
              · go_wp2_with (at_builtin; refine wpList_append_own2 _ rfl _ _ 36 rfl w.heap.size 61 i0 (.agg #[.int .i64 0, .bool false, .slice none 0 0, .bool false]) 4 48 Tryd.underlying36 hi hz0 hz1 hz2 rfl (by decide) u4 j _ rfl (ownsRow_same HO.out.1 (F := fun _ => False) (((Same.refl _ _).alloc _).alloc _) (fun _ _ h => h)) ⟨wr.heap.size + 1, 0, none⟩ 1 1 (ResV.cells ⟨0, true, some ⟨g, o, none⟩, q.length, cap, false⟩) rfl rfl ?c1 ?c2 ?c3 ?c4 ?c5 ?_)
                case c1 => first | exact cells_new2 wr _ (ResV.cells ⟨0, true, some ⟨g, o, none⟩, q.length, cap, false⟩) 61 | exact fun j u h => h
                case c2 => exact res_one _
                case c3 => unfold maxLen; omega
                case c4 => omega
                case c5 => first | omega | (simp; omega)
                intro v2 w2 hown2 hgrow2 hwhere2
                have C2 := Lib.hid (And.intro hown2 (And.intro hgrow2 hwhere2))
                clear hown2 hgrow2 hwhere2
                go_wp2_with fail
                go_roundg (gk - 1)
                case measure => have := A.out.1; omega
                case rel =>
                  have hn1 : (q.length : Nat) ≤ q.length := by omega
                  have hcut := cut_some (vo := u4) (N := 0) (ok := true) (vq' := .slice (some ⟨g, o + q.length, none⟩) (q.length - q.length) (cap - q.length)) HO.out.2.2.1 hn1 HO.out.2.2.2.1 ⟨by omega, by omega⟩ (.inr ⟨by omega, rfl⟩)
                  have hst := st_read (q := q) (a := a) (n := q.length) (kk := 100000) (N := 0) (ok := true) E3.out.2 (by unfold Lim; have := E3.out.1; omega) (by simp only [Nat.min_def]; split <;> omega) (by omega) (by first | exact decide_eq_true (by omega) | exact decide_eq_false (by omega))
                  have hq2 : (q.drop (q.length)).length ≤ total (al.take (j + 1)) := by have := A.out.2.2.2; simp only [List.length_drop]; omega
                  have hfin := que_next hj HA.out A.out.1 A.out.2.1 A.out.2.2.1 HO.out.1 HO.out.2.2.2.2 HO.out.2.2.2.1 HO.out.2.1 ((Same.refl _ _).alloc _) hcut.1 hcut.2 hst rfl hq2 C2.out.1 C2.out.2.1 (by simpa using C2.out.2.2)
                  first | exact hfin | simpa using hfin
    · have hje : j = al.length := by omega
      have A := Lib.hid (que_end hS hR hOwn hA hje)
      clear hk hS hR hQ hOwn hA hne hql hje
      go_wp2
      go_ret
      exact ⟨u4, rs, q, rfl, A.out⟩
end Go.Proofs.YtalpilbpgkijlaaDoor
