/- laws.FnBalance answers true (the walk). Condition: the list reads as steps. -/
import Derived.Test.YtalpilbpgkijlaaDoorBalPlain
import Derived.Test.YtalpilbpgkijlaaDoorRuns
import Derived.Test.YtalpilbpgkijlaaDoorCopies
namespace Go.Proofs.YtalpilbpgkijlaaDoor
open Go.RowKit
set_option maxRecDepth 100000
set_option maxHeartbeats 4000000

def TruePost (w : World) (e : Ending) (w' : World) : Prop := e = .returned (.bool true) ∧ Same (fun _ => False) w w'
/-- The steps that FnBalance hands on. -/
def bv0 (a : StepA) : StepV := ⟨a.what, 0, a.n, none, 0, 0⟩
def Bal1 (window : Int) (al : List StepA) (w : World) (B : Nat) (k : Nat) (v i : Value) (wr : World) : Prop :=
  ∃ j : Nat, k + j = al.length ∧ i = .int .i64 j ∧ j ≤ al.length ∧ (∀ a ∈ al.take j, Val a) ∧ Same (fun _ => False) w wr ∧ (w.heap.size ≤ B ∧ B ≤ wr.heap.size) ∧ wr.ownsRow B 26 4 v (j + 1) ((⟨0, 0, window, none, 0, 0⟩ :: (al.take j).map bv0).map StepV.cells).flatten

def Bal2 (al : List StepA) (rs : List ResA) (w2 : World) (k : Nat) (vo vh i : Value) (wr : World) : Prop :=
  ∃ (j : Nat) (s : InS), k + j = rs.length ∧ i = .int .i64 j ∧ vo = .int .i64 s.a0 ∧ vh = .int .i64 s.u0 ∧ OkIn s ∧ Runs StpIn DieIn s ((al.drop j).map stp0) (rs.drop j) ∧ Same (fun _ => False) w2 wr
theorem runs_cons {s : InS} {al : List StepA} {r : ResA} {rest : List ResA} (h : Runs StpIn DieIn s (al.map stp0) (r :: rest)) :
    ∃ a tl, al = a :: tl ∧ ((∃ s', StpIn s (stp0 a) r s' ∧ r.pn = false ∧ Runs StpIn DieIn s' (tl.map stp0) rest) ∨ (DieIn s (stp0 a) ∧ r = ⟨0, false, [], true⟩)) := by
  cases al with
  | nil => cases h
  | cons a tl =>
    refine ⟨a, tl, rfl, ?_⟩
    cases h with
    | step h1 h2 h3 => exact .inl ⟨_, h1, h2, h3⟩
    | dead h1 => exact .inr ⟨h1, rfl⟩
theorem runs_end {s : InS} {al : List StepA} (h : Runs StpIn DieIn s (al.map stp0) []) : al = [] := by
  cases al with
  | nil => rfl
  | cons a tl => cases h
theorem ret_dec {p : Prop} [Decidable p] (h : p) : Ending.returned (.bool (decide p)) = .returned (.bool true) := by simp [h]
theorem i64_eq {a b : Int} (h : a = b) : Value.int .i64 a = Value.int .i64 b := by rw [h]

theorem bal_all2 (G : Nat → Prop) (wr : World) (window : Int) (h0 : 0 ≤ window) (h1 : window ≤ 2147483647) (al : List StepA) (hall : ∀ a ∈ al, Val a) :
    All2 (StepR G wr) (⟨0, 0, window, none, 0, 0⟩ :: al.map bv0) (⟨0, 0, window, []⟩ :: al.map stp0) := by
  have z : Bd 0 := ⟨by omega, by omega⟩
  refine .cons ⟨rfl, rfl, rfl, z, z, ⟨by show -9223372036854775808 ≤ window; omega, by show window ≤ 9223372036854775807; omega⟩, BytesAt.nil _ _⟩ ?_
  induction al with
  | nil => exact .nil
  | cons a al ih =>
    have hv := hall a (List.mem_cons_self ..)
    obtain ⟨hw, n0, n1⟩ := hv
    refine .cons ⟨rfl, rfl, rfl, ⟨?_, ?_⟩, z, ⟨?_, ?_⟩, BytesAt.nil _ _⟩ (ih (fun b hb => hall b (List.mem_cons_of_mem _ hb)))
    · show -9223372036854775808 ≤ a.what; omega
    · show a.what ≤ 9223372036854775807; omega
    · show -9223372036854775808 ≤ a.n; omega
    · show a.n ≤ 9223372036854775807; omega

theorem fnbalance_any (w : World) (window : Int) (v : Value) (al : List StepA) (hv : StepsR (fun _ => True) w v al) : Calls Tryd.prog 3 #[.int .i64 window, v] w (TruePost w) := by
  obtain ⟨ad, cp, rfl, hmax, hform⟩ := RowR.form hv
  have HV := Lib.hid hv
  have HF := Lib.hid hform
  clear hv hform
  go_enter Tryd.func3, Tryd.ntmps3
  go_wp2_with fail
  refine (fits_any w _ al HV.out).mono ?_
  rintro e w1 ⟨b, rfl, hb, hS1⟩
  have HB := Lib.hid (And.intro hb hS1)
  clear hb hS1
  cases b with
  | false =>
    go_wp2
    go_ret
    exact ⟨rfl, HB.out.2⟩
  | true =>
    by_cases hlen : 1000 < al.length
    · have h1 : 1000 < (al.length : Int) := by omega
      go_wp2
      go_ret
      exact ⟨rfl, HB.out.2⟩
    have hlen1 : ¬ 1000 < (al.length : Int) := by omega
    by_cases hw0 : window < 0
    · go_wp2
      go_ret
      exact ⟨rfl, HB.out.2⟩
    by_cases hw1 : 2147483647 < window
    · go_wp2
      go_ret
      exact ⟨rfl, HB.out.2⟩
    go_wp2
    generalize hB : w1.heap.size = B
    have hS1 := HB.out.2
    go_loopg [5, 33] al.length (fun k v i wr => Bal1 window al w B k v i wr)
    case atStart =>
      have hle := hS1.size
      refine ⟨0, rfl, rfl, Nat.zero_le _, fun a h => by simp at h, hS1.alloc _, ⟨by omega, by simp; omega⟩, ?_⟩
      rw [← hB]
      refine ⟨rfl, .inr ⟨w1.heap.size, 1, #[.int .i64 0, .int .i64 0, .int .i64 window, .slice none 0 0], rfl, Nat.le_refl _, heap_alloc_new w1 _, Nat.le_refl _, by unfold maxLen; omega, rfl, rfl⟩⟩
    case round =>
      clear hS1 hB HB
      obtain ⟨j, hk, rfl, hjl, hall, hS, hwB, hOwn⟩ := hrel
      have HO := Lib.hid hOwn
      clear hOwn
      by_cases hj : j < al.length
      · obtain ⟨pb, po, ps, rfl⟩ := HF.out j hj
        obtain ⟨rfl, x, hx, q0, q1, q2, q3⟩ := HV.out.at hS hj
        have hcl := World.block_lt_of_cell? _ _ q0
        simp only at hcl
        have hne : ¬ pb = wr.heap.size := by omega
        have A := Lib.hid (And.intro hk (And.intro hall (And.intro hS (And.intro hwB (And.intro hx.1 hx.2.2.1)))))
        clear hk hall hS hx hwB
        rcases (show x.what < 1 ∨ 2 < x.what ∨ x.what = 1 ∨ x.what = 2 by omega) with h | h | ha | ha
        · go_wp2
          go_ret
          exact ⟨rfl, (A.out.2.2.1.alloc _)⟩
        · go_wp2
          go_ret
          exact ⟨rfl, (A.out.2.2.1.alloc _)⟩
        · skip
          rw [ha] at q0
          have HE := Lib.hid ha
          clear ha
          by_cases hn0 : x.n < 0
          · go_wp2
            go_ret
            exact ⟨rfl, (A.out.2.2.1.alloc _)⟩
          by_cases hn1 : 2147483647 < x.n
          · go_wp2
            go_ret
            exact ⟨rfl, (A.out.2.2.1.alloc _)⟩
          obtain ⟨i0, hi, hz0, hz1, hz2⟩ := info_parts info26
          go_wp2_with (at_builtin; refine wpList_append_own2 _ rfl _ _ 27 rfl B 26 i0 (.agg #[.int .i64 0, .int .i64 0, .int .i64 0, .slice none 0 0]) 4 48 Tryd.underlying27 hi hz0 hz1 hz2 rfl (by decide) _ _ _ rfl ((HO.out.alloc _).alloc _) ⟨wr.heap.size + 1, 0, none⟩ 1 1 (StepV.cells ⟨1, 0, x.n, none, 0, 0⟩) rfl rfl ?c1 ?c2 ?c3 ?c4 ?c5 ?_)
          case c1 => intro j u hu; first | exact cells_new2 wr _ (StepV.cells ⟨1, 0, x.n, none, 0, 0⟩) 26 j u hu | simpa [StepV.cells] using hu
          case c2 => exact step_one _
          case c3 => unfold maxLen; omega
          case c4 => omega
          case c5 => have := A.out.2.2.2.1.2; simp; omega
          intro v1 w2 hown1 hgrow1 hwhere
          have C1 := Lib.hid (And.intro hown1 (And.intro hgrow1 hwhere))
          clear hown1 hgrow1 hwhere
          go_wp2
          go_roundg (gk - 1)
          case measure => have := A.out.1; omega
          case rel =>
            obtain ⟨hk, hall, hS, hwB, hxw, hxn⟩ := A.out
            rw [HE.out] at hxw
            have hlt := HO.out.lt
            have s1 := (((Same.refl (fun _ => False) wr).alloc (.cells #[.int .i64 1, .int .i64 x.which, .int .i64 x.n, .slice x.ad x.ln x.cp] 28)).alloc (.cells (StepV.cells ⟨1, 0, x.n, none, 0, 0⟩).toArray 26)).mono (G := fun k => u5.ownBlock = some k) (fun _ _ h => h.elim)
            have s2 := s1.trans (Same.of_grown C1.out.2.1) (fun _ _ h => h)
            refine ⟨j + 1, by omega, rfl, by omega, fun a ha => ?_, hS.trans s2 (fun k hk h => ?_), ⟨hwB.1, Nat.le_trans hwB.2 s2.size⟩, ?_⟩
            · rw [List.take_succ_eq_append_getElem hj, List.mem_append] at ha
              rcases ha with ha | ha
              · exact hall a ha
              · simp only [List.mem_singleton] at ha
                subst ha
                exact ⟨by omega, by omega, by omega⟩
            · have := (hlt k h).1; omega
            · have := C1.out.1
              rw [List.take_succ_eq_append_getElem hj]
              simp only [List.map_append, List.map_cons, List.map_nil, List.flatten_append, List.flatten_cons, List.flatten_nil, List.append_nil] at this ⊢
              simpa [bv0, ← hxw, hxn, StepV.cells] using this
        · skip
          rw [ha] at q0
          have HE := Lib.hid ha
          clear ha
          by_cases hn0 : x.n < 0
          · go_wp2
            go_ret
            exact ⟨rfl, (A.out.2.2.1.alloc _)⟩
          by_cases hn1 : 2147483647 < x.n
          · go_wp2
            go_ret
            exact ⟨rfl, (A.out.2.2.1.alloc _)⟩
          obtain ⟨i0, hi, hz0, hz1, hz2⟩ := info_parts info26
          go_wp2_with (at_builtin; refine wpList_append_own2 _ rfl _ _ 27 rfl B 26 i0 (.agg #[.int .i64 0, .int .i64 0, .int .i64 0, .slice none 0 0]) 4 48 Tryd.underlying27 hi hz0 hz1 hz2 rfl (by decide) _ _ _ rfl ((HO.out.alloc _).alloc _) ⟨wr.heap.size + 1, 0, none⟩ 1 1 (StepV.cells ⟨2, 0, x.n, none, 0, 0⟩) rfl rfl ?c1 ?c2 ?c3 ?c4 ?c5 ?_)
          case c1 => intro j u hu; first | exact cells_new2 wr _ (StepV.cells ⟨2, 0, x.n, none, 0, 0⟩) 26 j u hu | simpa [StepV.cells] using hu
          case c2 => exact step_one _
          case c3 => unfold maxLen; omega
          case c4 => omega
          case c5 => have := A.out.2.2.2.1.2; simp; omega
          intro v1 w2 hown1 hgrow1 hwhere
          have C1 := Lib.hid (And.intro hown1 (And.intro hgrow1 hwhere))
          clear hown1 hgrow1 hwhere
          go_wp2
          go_roundg (gk - 1)
          case measure => have := A.out.1; omega
          case rel =>
            obtain ⟨hk, hall, hS, hwB, hxw, hxn⟩ := A.out
            rw [HE.out] at hxw
            have hlt := HO.out.lt
            have s1 := (((Same.refl (fun _ => False) wr).alloc (.cells #[.int .i64 2, .int .i64 x.which, .int .i64 x.n, .slice x.ad x.ln x.cp] 28)).alloc (.cells (StepV.cells ⟨2, 0, x.n, none, 0, 0⟩).toArray 26)).mono (G := fun k => u5.ownBlock = some k) (fun _ _ h => h.elim)
            have s2 := s1.trans (Same.of_grown C1.out.2.1) (fun _ _ h => h)
            refine ⟨j + 1, by omega, rfl, by omega, fun a ha => ?_, hS.trans s2 (fun k hk h => ?_), ⟨hwB.1, Nat.le_trans hwB.2 s2.size⟩, ?_⟩
            · rw [List.take_succ_eq_append_getElem hj, List.mem_append] at ha
              rcases ha with ha | ha
              · exact hall a ha
              · simp only [List.mem_singleton] at ha
                subst ha
                exact ⟨by omega, by omega, by omega⟩
            · have := (hlt k h).1; omega
            · have := C1.out.1
              rw [List.take_succ_eq_append_getElem hj]
              simp only [List.map_append, List.map_cons, List.map_nil, List.flatten_append, List.flatten_cons, List.flatten_nil, List.append_nil] at this ⊢
              simpa [bv0, ← hxw, hxn, StepV.cells] using this
      · have hje : j = al.length := by omega
        have hall' : ∀ a ∈ al, Val a := by
          rw [hje, List.take_length] at hall
          exact hall
        have hOwn' := HO.out
        rw [hje, List.take_length] at hOwn'
        have hL : StepsR (fun _ => True) wr u5 (⟨0, 0, window, []⟩ :: al.map stp0) := RowR.of_owns (fun _ => rfl) hOwn' (bal_all2 _ _ _ (by omega) (by omega) al hall') (fun _ _ => trivial)
        obtain ⟨rs, hr1, hr2, hok⟩ := bal_start window al (by omega) (by omega) hall'
        obtain ⟨ad5, cp5, rfl, _, _⟩ := RowR.form hL
        simp only [List.length_cons, List.length_map] at hL
        have hrl := runs_length hr2
        simp only [List.length_map] at hrl
        have A := Lib.hid (And.intro hS (And.intro hL (And.intro hr1 (And.intro hr2 (And.intro hok hall')))))
        clear hk hall hS hwB HO hOwn' hje hall' hL hr1 hr2 hok hjl
        simp only [List.length_cons, List.length_map]
        go_wp2_with fail
        refine (inflow_any _ _ _ _ A.out.2.1 A.out.2.2.1 (by simp; omega)).mono ?_
        rintro e w2 ⟨v2, rfl, hS2, hR2⟩
        obtain ⟨ad2, cp2, rfl, hmax2, hform2⟩ := RowR.form hR2
        simp only [List.length_cons] at hmax2 hform2 hR2
        have hcp : rs.length + 1 ≤ cp2 := by
          obtain ⟨_, _, h1, h2, _⟩ := hR2
          cases h1
          exact h2
        have B2 := Lib.hid (And.intro hS2 (And.intro hR2 hform2))
        clear hS2 hR2 hform2
        simp only [List.length_cons]
        have g1 : ¬ ((cp2 : Int) < 1) := by omega
        have g2 : ¬ (((rs.length + 1 : Nat) : Int) < 1) := by omega
        have g3 : (((rs.length : Int) + 1) == 0) = false := beq_eq_false_iff_ne.2 (by omega)
        have g4 : ¬ al.length < rs.length := by omega
        obtain ⟨pb2, po2, ps2, rfl⟩ := B2.out.2.2 0 (by omega)
        by_cases hc1 : cp2 = 1
        · have hr0 : rs.length = 0 := by omega
          have hal0 : al.length = 0 := by
            have h := A.out.2.2.2.1
            have hrs : rs = [] := List.eq_nil_of_length_eq_zero hr0
            rw [hrs] at h
            rw [runs_end h]
            rfl
          go_wp2
          refine wp_loop_rounds 1 ?_
          rw [rounds_succ]
          go_wp2_with fail
          refine (runs_any _).mono ?_
          rintro e w3 ⟨rfl, hS3⟩
          have H3 := Lib.hid hS3
          clear hS3
          go_wp2
          go_ret
          exact ⟨rfl, (A.out.1.trans B2.out.1 (fun _ _ h => h)).trans H3.out (fun _ _ h => h)⟩
        · go_wp2
          go_loopg [8, 9, 80] rs.length (fun k vo vh i wr => Bal2 al rs w2 k vo vh i wr)
          case atStart => exact ⟨0, ⟨window, 0, 0, 0⟩, rfl, rfl, rfl, rfl, A.out.2.2.2.2.1, A.out.2.2.2.1, Same.refl _ _⟩
          case round =>
            clear g1 g2 g3 g4
            obtain ⟨j, s, hk, rfl, rfl, rfl, hok, hR, hS⟩ := hrel
            obtain ⟨s1, s2, s3, _, _, _, s4, _⟩ := id hok
            by_cases hj : j < rs.length
            · have hdr : rs.drop j = rs[j] :: rs.drop (j + 1) := List.drop_eq_getElem_cons hj
              rw [hdr] at hR
              obtain ⟨a, tl, hal, hcase⟩ := runs_cons hR
              have hja : j < al.length := by
                rcases Nat.lt_or_ge j al.length with h | h
                · exact h
                · rw [List.drop_eq_nil_of_le h] at hal; cases hal
              have hcons := (List.drop_eq_getElem_cons hja).symm.trans hal
              have ha : al[j] = a := (List.cons.inj hcons).1
              have htl : al.drop (j + 1) = tl := (List.cons.inj hcons).2
              have hSw := (A.out.1.trans B2.out.1 (fun _ _ h => h)).trans hS (fun _ _ h => h)
              obtain ⟨pb, po, ps, rfl⟩ := HF.out j hja
              obtain ⟨rfl, x, hx, r0, r1, r2, r3⟩ := HV.out.at hSw hja
              obtain ⟨rfl, y, hy, g0, g1, g2, g3⟩ := ResultsR.at B2.out.2.1 hS (j := j + 1) (by simp; omega)
              have eo : po2 + (j + 1) * 4 = po2 + 4 + j * 4 := by omega
              rw [eo] at g0 g1 g2 g3
              have hxl := World.block_lt_of_cell? _ _ r0
              have hyl := World.block_lt_of_cell? _ _ g0
              simp only at hxl hyl
              have nx0 : ¬ pb = wr.heap.size := by omega
              have nx1 : ¬ pb = wr.heap.size + 1 := by omega
              have hval := A.out.2.2.2.2.2 _ (List.getElem_mem hja)
              rw [ha] at hx hval
              have hyr : ((⟨0, false, [], false⟩ : ResA) :: rs)[j + 1]'(by simp; omega) = rs[j] := by simp
              rw [hyr] at hy
              clear hcons ha eo hyr hal hdr
              have hxn := hx.2.2.1
              have hxw := hx.1
              obtain ⟨hw, hn0, hn1⟩ := hval
              rw [← hxn] at hn0 hn1
              rcases hcase with ⟨s', hst, hpn, hrest⟩ | ⟨hdie, hrd⟩
              · have hst' := bal_inv (s := s) (a := a) ⟨by omega, by omega, by omega⟩ hst
                have hok' := hst'.ok ⟨by omega, by omega, by omega⟩ hok
                rw [← htl] at hrest
                clear hst
                generalize hrj : rs[j] = rj at hst' hy hpn
                clear hpn hrj
                cases hst' with
                | wait h h1 h2 h3 =>
                  obtain ⟨e0, e1, e3, _, _⟩ := hy
                  simp only at e0 e1 e3
                  rw [← hxn] at h1 h2 h3
                  rw [← hxn] at hok' hrest
                  rw [hxw, h] at r0
                  rw [e0] at g0
                  rw [e1] at g1
                  rw [e3] at g3
                  have A2 := Lib.hid (And.intro hk (And.intro hS (And.intro hrest hok')))
                  clear hk hS hrest hok' hSw hx hxw hxn e0 e1 e3 h hok htl hw
                  go_wp2
                  go_quiet (fail)
                  go_wp2
                  go_roundg (gk - 1)
                  case measure => have := A2.out.1; omega
                  case rel => exact ⟨j + 1, ⟨s.a0, s.u0 + x.n, s.a1, s.u1⟩, by have := A2.out.1; omega, rfl, i64_eq (by first | rfl | omega | simp only []), i64_eq (by first | rfl | omega | simp only []), A2.out.2.2.2, A2.out.2.2.1, by (repeat (first | (with_reducible exact A2.out.2.1) | (with_reducible apply Same.drewN) | (with_reducible apply Same.drew) | (with_reducible apply Same.alloc)))⟩
                | flush h h1 h2 =>
                  obtain ⟨e0, e1, e3, _, _⟩ := hy
                  simp only at e0 e1 e3
                  rw [← hxn] at h1 h2 e0
                  clear h2
                  rw [← hxn] at hok' hrest
                  rw [hxw, h] at r0
                  rw [e0] at g0
                  rw [e1] at g1
                  rw [e3] at g3
                  have A2 := Lib.hid (And.intro hk (And.intro hS (And.intro hrest hok')))
                  clear hk hS hrest hok' hSw hx hxw hxn e0 e1 e3 h hok htl hw
                  go_wp2
                  go_quiet (fail)
                  go_wp2
                  go_roundg (gk - 1)
                  case measure => have := A2.out.1; omega
                  case rel => exact ⟨j + 1, ⟨s.a0 + (s.u0 + x.n), 0, s.a1, s.u1⟩, by have := A2.out.1; omega, rfl, i64_eq (by first | rfl | omega | simp only []), i64_eq (by first | rfl | omega | simp only []), A2.out.2.2.2, A2.out.2.2.1, by (repeat (first | (with_reducible exact A2.out.2.1) | (with_reducible apply Same.drewN) | (with_reducible apply Same.drew) | (with_reducible apply Same.alloc)))⟩
                | take h h1 =>
                  obtain ⟨e0, e1, e3, _, _⟩ := hy
                  simp only at e0 e1 e3
                  rw [← hxn] at h1
                  rw [← hxn] at hok' hrest
                  rw [hxw, h] at r0
                  rw [e0] at g0
                  rw [e1] at g1
                  rw [e3] at g3
                  have A2 := Lib.hid (And.intro hk (And.intro hS (And.intro hrest hok')))
                  clear hk hS hrest hok' hSw hx hxw hxn e0 e1 e3 h hok htl hw
                  go_wp2
                  go_roundg (gk - 1)
                  case measure => have := A2.out.1; omega
                  case rel => exact ⟨j + 1, ⟨s.a0 - x.n, s.u0, s.a1, s.u1⟩, by have := A2.out.1; omega, rfl, i64_eq (by first | rfl | omega | simp only []), i64_eq (by first | rfl | omega | simp only []), A2.out.2.2.2, A2.out.2.2.1, by (repeat (first | (with_reducible exact A2.out.2.1) | (with_reducible apply Same.drewN) | (with_reducible apply Same.drew) | (with_reducible apply Same.alloc)))⟩
                | takeno h h1 =>
                  obtain ⟨e0, e1, e3, _, _⟩ := hy
                  simp only at e0 e1 e3
                  rw [← hxn] at h1
                  skip
                  rw [hxw, h] at r0
                  rw [e0] at g0
                  rw [e1] at g1
                  rw [e3] at g3
                  have A2 := Lib.hid (And.intro hk (And.intro hS (And.intro hrest hok')))
                  clear hk hS hrest hok' hSw hx hxw hxn e0 e1 e3 h hok htl hw
                  go_wp2
                  go_roundg (gk - 1)
                  case measure => have := A2.out.1; omega
                  case rel => exact ⟨j + 1, s, by have := A2.out.1; omega, rfl, i64_eq (by first | rfl | omega | simp only []), i64_eq (by first | rfl | omega | simp only []), A2.out.2.2.2, A2.out.2.2.1, by (repeat (first | (with_reducible exact A2.out.2.1) | (with_reducible apply Same.drewN) | (with_reducible apply Same.drew) | (with_reducible apply Same.alloc)))⟩
              · obtain ⟨h, h1⟩ := bal_die (s := s) (a := a) ⟨by omega, by omega, by omega⟩ hdie
                rw [hrd] at hy
                obtain ⟨e0, e1, e3, _, _⟩ := hy
                simp only at e0 e1 e3
                rw [← hxn] at h1
                rw [hxw, h] at r0
                rw [e0] at g0
                rw [e1] at g1
                rw [e3] at g3
                have A2 := Lib.hid hSw
                clear hk hS hSw hx hxw hxn e0 e1 e3 h hok htl hw hdie hrd hR
                go_wp2
                go_ret
                refine ⟨?_, by (repeat (first | (with_reducible exact A2.out) | (with_reducible apply Same.drewN) | (with_reducible apply Same.drew) | (with_reducible apply Same.alloc)))⟩
                exact ret_dec (by omega)
            · have hrs : rs.length = j := by omega
              have hal0 : al.length = j := by
                have hd : rs.drop j = [] := List.drop_eq_nil_of_le (by omega)
                rw [hd] at hR
                have := runs_end hR
                have h2 := congrArg List.length this
                rw [List.length_drop] at h2
                simp at h2
                omega
              have hSw := (A.out.1.trans B2.out.1 (fun _ _ h => h)).trans hS (fun _ _ h => h)
              have hge : ¬ ((j : Int) < (rs.length : Int)) := by omega
              have hle : rs.length = al.length := by omega
              have A2 := Lib.hid hSw
              clear hk hS hSw hok hR hal0 hrs
              go_wp2_with fail
              refine (runs_any _).mono ?_
              rintro e w3 ⟨rfl, hS3⟩
              have H3 := Lib.hid hS3
              clear hS3
              go_wp2
              go_ret
              exact ⟨rfl, A2.out.trans H3.out (fun _ _ h => h)⟩
end Go.Proofs.YtalpilbpgkijlaaDoor
