/- laws.FnTransfer answers true (the walk). Condition: the list reads as numbers. -/
import Derived.Test.YtalpilbpgkijlaaDoorTransDefs
import Derived.Test.YtalpilbpgkijlaaDoorLast
import Derived.Test.YtalpilbpgkijlaaDoorRuns
namespace Go.Proofs.YtalpilbpgkijlaaDoor
open Go.RowKit
set_option maxRecDepth 100000
set_option maxHeartbeats 8000000

def TrRel (W0 : Int) (xs : List Int) (w : World) (B : Nat) (k : Nat) (vo vi i : Value) (wr : World) : Prop :=
  ∃ (j : Nat) (ao ai : List StepA) (ro ri : List ResA) (so : OutS) (si : InS), k + j = xs.length ∧ i = .int .i64 j ∧ j ≤ xs.length ∧ ao.length ≤ 1 + 4 * j ∧ ai.length ≤ 2 + 3 * j ∧ Two (fun _ _ => False) w B vo vi ao ai wr ∧ Tr W0 ao ai ro ri so si 0 0

theorem own_lit {w : World} {B b : Nat} {n : Nat} {xs : List Value} (hb : w.heap[b]? = some (.cells xs.toArray 26)) (hB : B ≤ b) (hn : xs.length = n * 4) (hm : n ≤ 100) : w.ownsRow B 26 4 (.slice (some ⟨b, 0, none⟩) n n) n xs := by
  refine ⟨hn, .inr ⟨b, n, xs.toArray, rfl, hB, hb, Nat.le_refl _, by unfold maxLen; omega, by simpa using hn, ?_⟩⟩
  rw [← hn]
  simp

theorem own_cast {w : World} {B n m : Nat} {v : Value} {xs : List Value} (h : w.ownsRow B 26 4 v n xs) (e : n = m) : w.ownsRow B 26 4 v m xs := e ▸ h
theorem fld3 : ∀ (n : Int) (a : Bool) (ad : Option Addr) (ln cp : Nat) (b : Bool) (w : World), (Instr.field 32 (.agg #[.int .i64 n, .bool a, .slice ad ln cp, .bool b]) 3).run Tryd.prog w = .ok (.bool b) w := fun _ _ _ _ _ _ _ => by kernel_rfl
theorem fld1 : ∀ (n : Int) (a : Bool) (ad : Option Addr) (ln cp : Nat) (b : Bool) (w : World), (Instr.field 32 (.agg #[.int .i64 n, .bool a, .slice ad ln cp, .bool b]) 1).run Tryd.prog w = .ok (.bool a) w := fun _ _ _ _ _ _ _ => by kernel_rfl

theorem fntransfer_any (w : World) (W0 : Int) (v : Value) (xs : List Int) (hv : IntsR w v xs) : Calls Tryd.prog 7 #[.int .i64 W0, v] w fun e w' => e = .returned (.bool true) ∧ Same (fun _ => False) w w' := by
  obtain ⟨ad, cp, rfl, hmax, had, hcell⟩ := hv
  have HC := Lib.hid (And.intro had hcell)
  clear had hcell
  by_cases hbig : 2147483647 < xs.length
  · have h1 : 2147483647 < (xs.length : Int) := by omega
    go_enter Tryd.func7, Tryd.ntmps7
    go_wp2
    go_ret
    exact ⟨rfl, Same.refl _ _⟩
  have hbig' : ¬ 2147483647 < (xs.length : Int) := by omega
  by_cases hw0 : W0 < 1
  · go_enter Tryd.func7, Tryd.ntmps7
    go_wp2
    go_ret
    exact ⟨rfl, Same.refl _ _⟩
  by_cases hw1 : 2147483647 < W0
  · go_enter Tryd.func7, Tryd.ntmps7
    go_wp2
    go_ret
    exact ⟨rfl, Same.refl _ _⟩
  by_cases hlen : 100 < xs.length
  · have h1 : 100 < (xs.length : Int) := by omega
    go_enter Tryd.func7, Tryd.ntmps7
    go_wp2
    go_ret
    exact ⟨rfl, Same.refl _ _⟩
  have hlen' : ¬ 100 < (xs.length : Int) := by omega
  go_enter Tryd.func7, Tryd.ntmps7
  go_wp2
  generalize hB : w.heap.size = B
  go_loopg [5, 6, 38] xs.length (fun k vo vi i wr => TrRel W0 xs w B k vo vi i wr)
  case atStart =>
    refine ⟨0, _, _, _, _, _, _, rfl, rfl, Nat.zero_le _, ?_, ?_, ?_, Tr.start (by omega) (by omega)⟩
    · simp
    · simp
    · have e1 : (w.alloc (.cells #[.int .i64 0, .int .i64 0, .int .i64 W0, .slice none 0 0] 26)).heap.size = B + 1 := by simp [hB]
      refine ⟨⟨by omega, by simp; omega⟩, ((Same.refl _ _).alloc _).alloc _, own_lit ?_ (Nat.le_refl _) rfl (by decide), own_lit ?_ (Nat.le_succ _) rfl (by decide), ?_, ?_, ?_, fun _ _ h => h.elim⟩
      · subst hB
        exact (Blk.new w #[.int .i64 0, .int .i64 0, .int .i64 W0, .slice none 0 0] 26).alloc _
      · have h := heap_alloc_new (w.alloc (.cells #[.int .i64 0, .int .i64 0, .int .i64 W0, .slice none 0 0] 26)) (.cells #[.int .i64 0, .int .i64 0, .int .i64 65535, .slice none 0 0, .int .i64 0, .int .i64 1, .int .i64 W0, .slice none 0 0] 26)
        rw [e1] at h
        exact h
      · intro g hg hc
        cases hg
        cases hc
      · intro x hx
        simp only [List.mem_singleton] at hx
        subst hx
        exact nice_of _ _ _ (by omega) (by omega) (by omega)
      · intro x hx
        simp only [List.mem_cons, List.not_mem_nil, or_false] at hx
        rcases hx with rfl | rfl
        · exact nice_of _ _ _ (by omega) (by omega) (by omega)
        · exact nice_of _ _ _ (by omega) (by omega) (by omega)
  case round =>
    have hfd3 := fld3
    have hfd1 := fld1
    obtain ⟨j, ao, ai, ro, ri, so, si, hk, rfl, hjl, hlo, hli, hT, hR⟩ := hrel
    have T0 := Lib.hid hT
    have R0 := Lib.hid hR
    clear hR
    by_cases hj : j < xs.length
    · obtain ⟨p, rfl⟩ : ∃ p, ad = some p := by
        cases ad with
        | none => have := HC.out.1 rfl; omega
        | some p => exact ⟨p, rfl⟩
      obtain ⟨hsp, hbd, hc⟩ := HC.out.2 p rfl j xs[j] (List.getElem?_eq_getElem hj)
      obtain ⟨pb, po, ps⟩ := p
      simp only at hsp hc
      subst hsp
      have hcw : wr.cell? ⟨pb, po + j, none⟩ = some (.int .i64 xs[j]) := hT.same.cell (fun h => h) hc
      have hx0 : -9223372036854775808 ≤ xs[j] := hbd.1
      have hx1 : xs[j] ≤ 9223372036854775807 := hbd.2
      generalize xs[j] = x at hcw hc hbd hx0 hx1
      clear hc hbd hT HC
      by_cases hx : x < 1
      · go_wp2
        go_ret
        exact ⟨rfl, T0.out.same⟩
      obtain ⟨m, hm, m1, m2, m3⟩ : ∃ m, Tr.room so = m ∧ 1 ≤ m ∧ m ≤ si.a0 ∧ m ≤ si.a1 := ⟨_, rfl, R0.out.room_pos⟩
      have m4 : m ≤ 65535 := by have := R0.out.t0; have := R0.out.pos; omega
      have hR1 := R0.out.avail
      rw [hm] at hR1
      obtain ⟨ao1, qao1, bao1⟩ : ∃ l, ao ++ [(⟨3, 0, 0, []⟩ : StepA)] = l ∧ l.length = (ao).length + 1 := ⟨_, rfl, by simp⟩
      rw [qao1] at hR1
      have Qao1 := Lib.hid qao1
      have lao1 : ao1.length ≤ 1 + 4 * j + 1 := by omega
      clear qao1 bao1
      have R1 := Lib.hid hR1
      clear hR1
      obtain ⟨i2, hi2, hz2a, hz2b, hz2c⟩ := info_parts info26
      go_wp2_with (at_builtin; refine wpList_append_own2 _ rfl _ _ 27 rfl B 26 i2 (.agg #[.int .i64 0, .int .i64 0, .int .i64 0, .slice none 0 0]) 4 48 Tryd.underlying27 hi2 hz2a hz2b hz2c rfl (by decide) _ (ao).length (flat (ao)) rfl ?own _ 1 1 (stV ⟨3, 0, 0, []⟩).cells rfl rfl ?c1 ?c2 ?c3 ?c4 ?c5 ?_)
      case own => exact (T0.out.on (by (repeat (first | (with_reducible exact Same.refl _ _) | (with_reducible apply Same.alloc))))).so
      case c1 => first | exact cells_at (by first | rfl | simp) rfl | (intro j u hu; simpa [stV, StepV.cells] using hu)
      case c2 => exact step_one _
      case c3 => unfold maxLen; omega
      case c4 => omega
      case c5 => have := T0.out.base; first | omega | (simp; omega) | (simp at this ⊢; omega)
      intro v2 w2 hown2 hg2 hw2
      have hT2 := T0.out.appO (a := ⟨3, 0, 0, []⟩) (by (repeat (first | (with_reducible exact Same.refl _ _) | (with_reducible apply Same.alloc)))) (nice_of _ _ _ (by omega) (by omega) (by omega)) hown2 hg2 (by first | exact hw2 | simpa using hw2)
      rw [Qao1.out] at hT2
      have T2 := Lib.hid hT2
      clear hown2 hg2 hw2 hT2
      go_wp2_with fail
      refine (outflow_any _ v2 (ao1) _ (steps_of (T2.out.on (by (repeat (first | (with_reducible exact Same.refl _ _) | (with_reducible apply Same.alloc))))).so T2.out.no) (R1.out.ro).runs (by omega)).mono ?_
      rintro e w3 ⟨v3, rfl, hS3, hR3⟩
      have T3 := Lib.hid ((T2.out.on (by (repeat (first | (with_reducible exact Same.refl _ _) | (with_reducible apply Same.alloc))))).on hS3)
      have Q3 := Lib.hid hR3
      clear hS3 hR3
      go_wp2_with fail
      refine (last_any _ v3 _ _ Q3.out).mono ?_
      rintro e w4 ⟨x4, rfl, ⟨e1, e2, e3, _, _⟩, hS4⟩
      have T4 := Lib.hid (T3.out.on hS4)
      clear hS4
      cases x4 with | mk n4 ok4 ad4 ln4 cp4 pn4 =>
      simp only at e1 e2 e3
      replace e1 := e1.symm
      replace e2 := e2.symm
      replace e3 := e3.symm
      subst e1 e2 e3
      simp only [ResV.agg]
      by_cases hmx : x < m
      · obtain ⟨so2, si2, hR2⟩ := R1.out.send (n := x) (by omega) (by omega)
        obtain ⟨ao5, qao5, bao5⟩ : ∃ l, ao1 ++ [(⟨4, 0, x, []⟩ : StepA)] = l ∧ l.length = (ao1).length + 1 := ⟨_, rfl, by simp⟩
        rw [qao5] at hR2
        have Qao5 := Lib.hid qao5
        have lao5 : ao5.length ≤ 1 + 4 * j + 2 := by omega
        clear qao5 bao5
        obtain ⟨ai6, qai6, bai6⟩ : ∃ l, ai ++ [(⟨3, 0, x, []⟩ : StepA)] = l ∧ l.length = (ai).length + 1 := ⟨_, rfl, by simp⟩
        rw [qai6] at hR2
        have Qai6 := Lib.hid qai6
        have lai6 : ai6.length ≤ 2 + 3 * j + 1 := by omega
        clear qai6 bai6
        have R2 := Lib.hid hR2
        clear hR2
        obtain ⟨i7, hi7, hz7a, hz7b, hz7c⟩ := info_parts info26
        go_wp2_with (at_builtin; refine wpList_append_own2 _ rfl _ _ 27 rfl B 26 i7 (.agg #[.int .i64 0, .int .i64 0, .int .i64 0, .slice none 0 0]) 4 48 Tryd.underlying27 hi7 hz7a hz7b hz7c rfl (by decide) _ (ao1).length (flat (ao1)) rfl ?own _ 1 1 (stV ⟨4, 0, x, []⟩).cells rfl rfl ?c1 ?c2 ?c3 ?c4 ?c5 ?_)
        case own => exact (T4.out.on (by (repeat (first | (with_reducible exact Same.refl _ _) | (with_reducible apply Same.alloc))))).so
        case c1 => first | exact cells_at (by first | rfl | simp) rfl | (intro j u hu; simpa [stV, StepV.cells] using hu)
        case c2 => exact step_one _
        case c3 => unfold maxLen; omega
        case c4 => omega
        case c5 => have := T4.out.base; first | omega | (simp; omega) | (simp at this ⊢; omega)
        intro v7 w7 hown7 hg7 hw7
        have hT7 := T4.out.appO (a := ⟨4, 0, x, []⟩) (by (repeat (first | (with_reducible exact Same.refl _ _) | (with_reducible apply Same.alloc)))) (nice_of _ _ _ (by omega) (by omega) (by omega)) hown7 hg7 (by first | exact hw7 | simpa using hw7)
        rw [Qao5.out] at hT7
        have T7 := Lib.hid hT7
        clear hown7 hg7 hw7 hT7
        obtain ⟨i8, hi8, hz8a, hz8b, hz8c⟩ := info_parts info26
        go_wp2_with (at_builtin; refine wpList_append_own2 _ rfl _ _ 27 rfl B 26 i8 (.agg #[.int .i64 0, .int .i64 0, .int .i64 0, .slice none 0 0]) 4 48 Tryd.underlying27 hi8 hz8a hz8b hz8c rfl (by decide) _ (ai).length (flat (ai)) rfl ?own _ 1 1 (stV ⟨3, 0, x, []⟩).cells rfl rfl ?c1 ?c2 ?c3 ?c4 ?c5 ?_)
        case own => exact (T7.out.on (by (repeat (first | (with_reducible exact Same.refl _ _) | (with_reducible apply Same.alloc))))).si
        case c1 => first | exact cells_at (by first | rfl | simp) rfl | (intro j u hu; simpa [stV, StepV.cells] using hu)
        case c2 => exact step_one _
        case c3 => unfold maxLen; omega
        case c4 => omega
        case c5 => have := T7.out.base; first | omega | (simp; omega) | (simp at this ⊢; omega)
        intro v8 w8 hown8 hg8 hw8
        have hT8 := T7.out.appI (a := ⟨3, 0, x, []⟩) (by (repeat (first | (with_reducible exact Same.refl _ _) | (with_reducible apply Same.alloc)))) (nice_of _ _ _ (by omega) (by omega) (by omega)) hown8 hg8 (by first | exact hw8 | simpa using hw8)
        rw [Qai6.out] at hT8
        have T8 := Lib.hid hT8
        clear hown8 hg8 hw8 hT8
        go_wp2_with fail
        refine (outflow_any _ v7 (ao5) _ (steps_of (T8.out.on (by (repeat (first | (with_reducible exact Same.refl _ _) | (with_reducible apply Same.alloc))))).so T8.out.no) (R2.out.ro).runs (by omega)).mono ?_
        rintro e w9 ⟨v9, rfl, hS9, hR9⟩
        have T9 := Lib.hid ((T8.out.on (by (repeat (first | (with_reducible exact Same.refl _ _) | (with_reducible apply Same.alloc))))).on hS9)
        have Q9 := Lib.hid hR9
        clear hS9 hR9
        go_wp2_with fail
        refine (last_any _ v9 _ _ Q9.out).mono ?_
        rintro e w10 ⟨x10, rfl, ⟨e1, e2, e3, _, _⟩, hS10⟩
        have T10 := Lib.hid (T9.out.on hS10)
        clear hS10
        cases x10 with | mk n10 ok10 ad10 ln10 cp10 pn10 =>
        simp only at e1 e2 e3
        replace e1 := e1.symm
        replace e2 := e2.symm
        replace e3 := e3.symm
        subst e1 e2 e3
        simp only [ResV.agg]
        go_wp2_with fail
        refine (inflow_any _ v8 (ai6) _ (steps_of (T10.out.on (by (repeat (first | (with_reducible exact Same.refl _ _) | (with_reducible apply Same.alloc))))).si T10.out.ni) (R2.out.ri).runs (by omega)).mono ?_
        rintro e w11 ⟨v11, rfl, hS11, hR11⟩
        have T11 := Lib.hid ((T10.out.on (by (repeat (first | (with_reducible exact Same.refl _ _) | (with_reducible apply Same.alloc))))).on hS11)
        have Q11 := Lib.hid hR11
        clear hS11 hR11
        go_wp2_with fail
        refine (last_any _ v11 _ _ Q11.out).mono ?_
        rintro e w12 ⟨x12, rfl, ⟨e1, e2, e3, _, _⟩, hS12⟩
        have T12 := Lib.hid (T11.out.on hS12)
        clear hS12
        cases x12 with | mk n12 ok12 ad12 ln12 cp12 pn12 =>
        simp only at e1 e2 e3
        replace e1 := e1.symm
        replace e2 := e2.symm
        replace e3 := e3.symm
        subst e1 e2 e3
        simp only [ResV.agg]
        go_wp2
        refine wp_loop_rounds 3 ?_
        rw [rounds_succ]
        have T13 := Lib.hid ((T12.out.on (Same.refl _ w12)).keep #[.int .i64 1, .int .i64 2] 3)
        rcases R2.out.recv0 (by omega) with ⟨si14, hR14⟩ | ⟨N14, so14, si14, hN14a, hN14b, hR14⟩
        · obtain ⟨ai15, qai15, bai15⟩ : ∃ l, ai6 ++ [(⟨1, 0, x, []⟩ : StepA)] = l ∧ l.length = (ai6).length + 1 := ⟨_, rfl, by simp⟩
          rw [qai15] at hR14
          have Qai15 := Lib.hid qai15
          have lai15 : ai15.length ≤ 2 + 3 * j + 2 := by omega
          clear qai15 bai15
          have R14w := Lib.hid hR14
          clear hR14
          obtain ⟨i16, hi16, hz16a, hz16b, hz16c⟩ := info_parts info26
          go_wp2_with (at_builtin; refine wpList_append_own2 _ rfl _ _ 27 rfl B 26 i16 (.agg #[.int .i64 0, .int .i64 0, .int .i64 0, .slice none 0 0]) 4 48 Tryd.underlying27 hi16 hz16a hz16b hz16c rfl (by decide) _ (ai6).length (flat (ai6)) rfl ?own _ 1 1 (stV ⟨1, 0, x, []⟩).cells rfl rfl ?c1 ?c2 ?c3 ?c4 ?c5 ?_)
          case own => exact (T13.out.on (by (repeat (first | (with_reducible exact Same.refl _ _) | (with_reducible apply Same.alloc))))).si
          case c1 => first | exact cells_at (by first | rfl | simp) rfl | (intro j u hu; simpa [stV, StepV.cells] using hu)
          case c2 => exact step_one _
          case c3 => unfold maxLen; omega
          case c4 => omega
          case c5 => have := T13.out.base; first | omega | (simp; omega) | (simp at this ⊢; omega)
          intro v16 w16 hown16 hg16 hw16
          have hT16 := T13.out.appI (a := ⟨1, 0, x, []⟩) (by (repeat (first | (with_reducible exact Same.refl _ _) | (with_reducible apply Same.alloc)))) (nice_of _ _ _ (by omega) (by omega) (by omega)) hown16 hg16 (by first | exact hw16 | simpa using hw16)
          rw [Qai15.out] at hT16
          have T16 := Lib.hid hT16
          clear hown16 hg16 hw16 hT16
          go_wp2_with fail
          refine (inflow_any _ v16 (ai15) _ (steps_of (T16.out.on (by (repeat (first | (with_reducible exact Same.refl _ _) | (with_reducible apply Same.alloc))))).si T16.out.ni) (R14w.out.ri).runs (by omega)).mono ?_
          rintro e w17 ⟨v17, rfl, hS17, hR17⟩
          have T17 := Lib.hid ((T16.out.on (by (repeat (first | (with_reducible exact Same.refl _ _) | (with_reducible apply Same.alloc))))).on hS17)
          have Q17 := Lib.hid hR17
          clear hS17 hR17
          go_wp2_with fail
          refine (last_any _ v17 _ _ Q17.out).mono ?_
          rintro e w18 ⟨x18, rfl, ⟨e1, e2, e3, _, _⟩, hS18⟩
          have T18 := Lib.hid (T17.out.on hS18)
          clear hS18
          cases x18 with | mk n18 ok18 ad18 ln18 cp18 pn18 =>
          simp only at e1 e2 e3
          replace e1 := e1.symm
          replace e2 := e2.symm
          replace e3 := e3.symm
          subst e1 e2 e3
          simp only [ResV.agg]
          have hc19 : w18.cell? ⟨w12.heap.size, 1, none⟩ = some (.int .i64 2) := (T18.out.kp _ _ ⟨rfl, (Blk.new w12 #[.int .i64 1, .int .i64 2] 3).cell 1⟩).1
          have hlt19 := World.block_lt_of_cell? _ _ hc19
          simp only at hlt19
          have nb19 : ¬ w12.heap.size = w18.heap.size := by omega
          go_wp2
          rw [rounds_succ]
          rcases R14w.out.recv1 (by omega) with ⟨si20, hR20⟩ | ⟨N20, so20, si20, hN20a, hN20b, hR20⟩
          · obtain ⟨ai21, qai21, bai21⟩ : ∃ l, ai15 ++ [(⟨1, 1, x, []⟩ : StepA)] = l ∧ l.length = (ai15).length + 1 := ⟨_, rfl, by simp⟩
            rw [qai21] at hR20
            have Qai21 := Lib.hid qai21
            have lai21 : ai21.length ≤ 2 + 3 * j + 3 := by omega
            clear qai21 bai21
            have R20w := Lib.hid hR20
            clear hR20
            obtain ⟨i22, hi22, hz22a, hz22b, hz22c⟩ := info_parts info26
            go_wp2_with (at_builtin; refine wpList_append_own2 _ rfl _ _ 27 rfl B 26 i22 (.agg #[.int .i64 0, .int .i64 0, .int .i64 0, .slice none 0 0]) 4 48 Tryd.underlying27 hi22 hz22a hz22b hz22c rfl (by decide) _ (ai15).length (flat (ai15)) rfl ?own _ 1 1 (stV ⟨1, 1, x, []⟩).cells rfl rfl ?c1 ?c2 ?c3 ?c4 ?c5 ?_)
            case own => exact (T18.out.on (by (repeat (first | (with_reducible exact Same.refl _ _) | (with_reducible apply Same.alloc))))).si
            case c1 => first | exact cells_at (by first | rfl | simp) rfl | (intro j u hu; simpa [stV, StepV.cells] using hu)
            case c2 => exact step_one _
            case c3 => unfold maxLen; omega
            case c4 => omega
            case c5 => have := T18.out.base; first | omega | (simp; omega) | (simp at this ⊢; omega)
            intro v22 w22 hown22 hg22 hw22
            have hT22 := T18.out.appI (a := ⟨1, 1, x, []⟩) (by (repeat (first | (with_reducible exact Same.refl _ _) | (with_reducible apply Same.alloc)))) (nice_of _ _ _ (by omega) (by omega) (by omega)) hown22 hg22 (by first | exact hw22 | simpa using hw22)
            rw [Qai21.out] at hT22
            have T22 := Lib.hid hT22
            clear hown22 hg22 hw22 hT22
            go_wp2_with fail
            refine (inflow_any _ v22 (ai21) _ (steps_of (T22.out.on (by (repeat (first | (with_reducible exact Same.refl _ _) | (with_reducible apply Same.alloc))))).si T22.out.ni) (R20w.out.ri).runs (by omega)).mono ?_
            rintro e w23 ⟨v23, rfl, hS23, hR23⟩
            have T23 := Lib.hid ((T22.out.on (by (repeat (first | (with_reducible exact Same.refl _ _) | (with_reducible apply Same.alloc))))).on hS23)
            have Q23 := Lib.hid hR23
            clear hS23 hR23
            go_wp2_with fail
            refine (last_any _ v23 _ _ Q23.out).mono ?_
            rintro e w24 ⟨x24, rfl, ⟨e1, e2, e3, _, _⟩, hS24⟩
            have T24 := Lib.hid (T23.out.on hS24)
            clear hS24
            cases x24 with | mk n24 ok24 ad24 ln24 cp24 pn24 =>
            simp only at e1 e2 e3
            replace e1 := e1.symm
            replace e2 := e2.symm
            replace e3 := e3.symm
            subst e1 e2 e3
            simp only [ResV.agg]
            go_wp2
            rw [rounds_succ]
            go_wp2
            go_roundg (gk - 1)
            case measure => omega
            case rel => exact ⟨j + 1, _, _, _, _, _, _, by omega, rfl, by omega, by omega, by omega, (T24.out.on (by (repeat (first | (with_reducible exact Same.refl _ _) | (with_reducible apply Same.alloc))))).forget, R20w.out⟩
          · obtain ⟨ai25, qai25, bai25⟩ : ∃ l, ai15 ++ [(⟨1, 1, x, []⟩ : StepA)] = l ∧ l.length = (ai15).length + 1 := ⟨_, rfl, by simp⟩
            rw [qai25] at hR20
            have Qai25 := Lib.hid qai25
            have lai25 : ai25.length ≤ 2 + 3 * j + 3 := by omega
            clear qai25 bai25
            obtain ⟨ao26, qao26, bao26⟩ : ∃ l, ao5 ++ [(⟨2, 0, N20, []⟩ : StepA)] = l ∧ l.length = (ao5).length + 1 := ⟨_, rfl, by simp⟩
            rw [qao26] at hR20
            have Qao26 := Lib.hid qao26
            have lao26 : ao26.length ≤ 1 + 4 * j + 4 := by omega
            clear qao26 bao26
            have R20f := Lib.hid hR20
            clear hR20
            have hNz20 : (N20 == 0) = false := beq_eq_false_iff_ne.2 (by omega)
            have hNy20 : ¬ N20 = 0 := by omega
            obtain ⟨i27, hi27, hz27a, hz27b, hz27c⟩ := info_parts info26
            go_wp2_with (at_builtin; refine wpList_append_own2 _ rfl _ _ 27 rfl B 26 i27 (.agg #[.int .i64 0, .int .i64 0, .int .i64 0, .slice none 0 0]) 4 48 Tryd.underlying27 hi27 hz27a hz27b hz27c rfl (by decide) _ (ai15).length (flat (ai15)) rfl ?own _ 1 1 (stV ⟨1, 1, x, []⟩).cells rfl rfl ?c1 ?c2 ?c3 ?c4 ?c5 ?_)
            case own => exact (T18.out.on (by (repeat (first | (with_reducible exact Same.refl _ _) | (with_reducible apply Same.alloc))))).si
            case c1 => first | exact cells_at (by first | rfl | simp) rfl | (intro j u hu; simpa [stV, StepV.cells] using hu)
            case c2 => exact step_one _
            case c3 => unfold maxLen; omega
            case c4 => omega
            case c5 => have := T18.out.base; first | omega | (simp; omega) | (simp at this ⊢; omega)
            intro v27 w27 hown27 hg27 hw27
            have hT27 := T18.out.appI (a := ⟨1, 1, x, []⟩) (by (repeat (first | (with_reducible exact Same.refl _ _) | (with_reducible apply Same.alloc)))) (nice_of _ _ _ (by omega) (by omega) (by omega)) hown27 hg27 (by first | exact hw27 | simpa using hw27)
            rw [Qai25.out] at hT27
            have T27 := Lib.hid hT27
            clear hown27 hg27 hw27 hT27
            go_wp2_with fail
            refine (inflow_any _ v27 (ai25) _ (steps_of (T27.out.on (by (repeat (first | (with_reducible exact Same.refl _ _) | (with_reducible apply Same.alloc))))).si T27.out.ni) (R20f.out.ri).runs (by omega)).mono ?_
            rintro e w28 ⟨v28, rfl, hS28, hR28⟩
            have T28 := Lib.hid ((T27.out.on (by (repeat (first | (with_reducible exact Same.refl _ _) | (with_reducible apply Same.alloc))))).on hS28)
            have Q28 := Lib.hid hR28
            clear hS28 hR28
            go_wp2_with fail
            refine (last_any _ v28 _ _ Q28.out).mono ?_
            rintro e w29 ⟨x29, rfl, ⟨e1, e2, e3, _, _⟩, hS29⟩
            have T29 := Lib.hid (T28.out.on hS29)
            clear hS29
            cases x29 with | mk n29 ok29 ad29 ln29 cp29 pn29 =>
            simp only at e1 e2 e3
            replace e1 := e1.symm
            replace e2 := e2.symm
            replace e3 := e3.symm
            subst e1 e2 e3
            simp only [ResV.agg]
            obtain ⟨i30, hi30, hz30a, hz30b, hz30c⟩ := info_parts info26
            go_wp2_with (at_builtin; refine wpList_append_own2 _ rfl _ _ 27 rfl B 26 i30 (.agg #[.int .i64 0, .int .i64 0, .int .i64 0, .slice none 0 0]) 4 48 Tryd.underlying27 hi30 hz30a hz30b hz30c rfl (by decide) _ (ao5).length (flat (ao5)) rfl ?own _ 1 1 (stV ⟨2, 0, N20, []⟩).cells rfl rfl ?c1 ?c2 ?c3 ?c4 ?c5 ?_)
            case own => exact (T29.out.on (by (repeat (first | (with_reducible exact Same.refl _ _) | (with_reducible apply Same.alloc))))).so
            case c1 => first | exact cells_at (by first | rfl | simp) rfl | (intro j u hu; simpa [stV, StepV.cells] using hu)
            case c2 => exact step_one _
            case c3 => unfold maxLen; omega
            case c4 => omega
            case c5 => have := T29.out.base; first | omega | (simp; omega) | (simp at this ⊢; omega)
            intro v30 w30 hown30 hg30 hw30
            have hT30 := T29.out.appO (a := ⟨2, 0, N20, []⟩) (by (repeat (first | (with_reducible exact Same.refl _ _) | (with_reducible apply Same.alloc)))) (nice_of _ _ _ (by omega) (by omega) (by omega)) hown30 hg30 (by first | exact hw30 | simpa using hw30)
            rw [Qao26.out] at hT30
            have T30 := Lib.hid hT30
            clear hown30 hg30 hw30 hT30
            go_wp2_with fail
            refine (outflow_any _ v30 (ao26) _ (steps_of (T30.out.on (by (repeat (first | (with_reducible exact Same.refl _ _) | (with_reducible apply Same.alloc))))).so T30.out.no) (R20f.out.ro).runs (by omega)).mono ?_
            rintro e w31 ⟨v31, rfl, hS31, hR31⟩
            have T31 := Lib.hid ((T30.out.on (by (repeat (first | (with_reducible exact Same.refl _ _) | (with_reducible apply Same.alloc))))).on hS31)
            have Q31 := Lib.hid hR31
            clear hS31 hR31
            go_wp2_with fail
            refine (last_any _ v31 _ _ Q31.out).mono ?_
            rintro e w32 ⟨x32, rfl, ⟨e1, e2, e3, _, _⟩, hS32⟩
            have T32 := Lib.hid (T31.out.on hS32)
            clear hS32
            cases x32 with | mk n32 ok32 ad32 ln32 cp32 pn32 =>
            simp only at e1 e2 e3
            replace e1 := e1.symm
            replace e2 := e2.symm
            replace e3 := e3.symm
            subst e1 e2 e3
            simp only [ResV.agg]
            go_wp2
            rw [rounds_succ]
            go_wp2
            go_roundg (gk - 1)
            case measure => omega
            case rel => exact ⟨j + 1, _, _, _, _, _, _, by omega, rfl, by omega, by omega, by omega, (T32.out.on (by (repeat (first | (with_reducible exact Same.refl _ _) | (with_reducible apply Same.alloc))))).forget, R20f.out⟩
        · obtain ⟨ai33, qai33, bai33⟩ : ∃ l, ai6 ++ [(⟨1, 0, x, []⟩ : StepA)] = l ∧ l.length = (ai6).length + 1 := ⟨_, rfl, by simp⟩
          rw [qai33] at hR14
          have Qai33 := Lib.hid qai33
          have lai33 : ai33.length ≤ 2 + 3 * j + 2 := by omega
          clear qai33 bai33
          obtain ⟨ao34, qao34, bao34⟩ : ∃ l, ao5 ++ [(⟨1, 0, N14, []⟩ : StepA)] = l ∧ l.length = (ao5).length + 1 := ⟨_, rfl, by simp⟩
          rw [qao34] at hR14
          have Qao34 := Lib.hid qao34
          have lao34 : ao34.length ≤ 1 + 4 * j + 3 := by omega
          clear qao34 bao34
          have R14f := Lib.hid hR14
          clear hR14
          have hNz14 : (N14 == 0) = false := beq_eq_false_iff_ne.2 (by omega)
          have hNy14 : ¬ N14 = 0 := by omega
          obtain ⟨i35, hi35, hz35a, hz35b, hz35c⟩ := info_parts info26
          go_wp2_with (at_builtin; refine wpList_append_own2 _ rfl _ _ 27 rfl B 26 i35 (.agg #[.int .i64 0, .int .i64 0, .int .i64 0, .slice none 0 0]) 4 48 Tryd.underlying27 hi35 hz35a hz35b hz35c rfl (by decide) _ (ai6).length (flat (ai6)) rfl ?own _ 1 1 (stV ⟨1, 0, x, []⟩).cells rfl rfl ?c1 ?c2 ?c3 ?c4 ?c5 ?_)
          case own => exact (T13.out.on (by (repeat (first | (with_reducible exact Same.refl _ _) | (with_reducible apply Same.alloc))))).si
          case c1 => first | exact cells_at (by first | rfl | simp) rfl | (intro j u hu; simpa [stV, StepV.cells] using hu)
          case c2 => exact step_one _
          case c3 => unfold maxLen; omega
          case c4 => omega
          case c5 => have := T13.out.base; first | omega | (simp; omega) | (simp at this ⊢; omega)
          intro v35 w35 hown35 hg35 hw35
          have hT35 := T13.out.appI (a := ⟨1, 0, x, []⟩) (by (repeat (first | (with_reducible exact Same.refl _ _) | (with_reducible apply Same.alloc)))) (nice_of _ _ _ (by omega) (by omega) (by omega)) hown35 hg35 (by first | exact hw35 | simpa using hw35)
          rw [Qai33.out] at hT35
          have T35 := Lib.hid hT35
          clear hown35 hg35 hw35 hT35
          go_wp2_with fail
          refine (inflow_any _ v35 (ai33) _ (steps_of (T35.out.on (by (repeat (first | (with_reducible exact Same.refl _ _) | (with_reducible apply Same.alloc))))).si T35.out.ni) (R14f.out.ri).runs (by omega)).mono ?_
          rintro e w36 ⟨v36, rfl, hS36, hR36⟩
          have T36 := Lib.hid ((T35.out.on (by (repeat (first | (with_reducible exact Same.refl _ _) | (with_reducible apply Same.alloc))))).on hS36)
          have Q36 := Lib.hid hR36
          clear hS36 hR36
          go_wp2_with fail
          refine (last_any _ v36 _ _ Q36.out).mono ?_
          rintro e w37 ⟨x37, rfl, ⟨e1, e2, e3, _, _⟩, hS37⟩
          have T37 := Lib.hid (T36.out.on hS37)
          clear hS37
          cases x37 with | mk n37 ok37 ad37 ln37 cp37 pn37 =>
          simp only at e1 e2 e3
          replace e1 := e1.symm
          replace e2 := e2.symm
          replace e3 := e3.symm
          subst e1 e2 e3
          simp only [ResV.agg]
          obtain ⟨i38, hi38, hz38a, hz38b, hz38c⟩ := info_parts info26
          go_wp2_with (at_builtin; refine wpList_append_own2 _ rfl _ _ 27 rfl B 26 i38 (.agg #[.int .i64 0, .int .i64 0, .int .i64 0, .slice none 0 0]) 4 48 Tryd.underlying27 hi38 hz38a hz38b hz38c rfl (by decide) _ (ao5).length (flat (ao5)) rfl ?own _ 1 1 (stV ⟨1, 0, N14, []⟩).cells rfl rfl ?c1 ?c2 ?c3 ?c4 ?c5 ?_)
          case own => exact (T37.out.on (by (repeat (first | (with_reducible exact Same.refl _ _) | (with_reducible apply Same.alloc))))).so
          case c1 => first | exact cells_at (by first | rfl | simp) rfl | (intro j u hu; simpa [stV, StepV.cells] using hu)
          case c2 => exact step_one _
          case c3 => unfold maxLen; omega
          case c4 => omega
          case c5 => have := T37.out.base; first | omega | (simp; omega) | (simp at this ⊢; omega)
          intro v38 w38 hown38 hg38 hw38
          have hT38 := T37.out.appO (a := ⟨1, 0, N14, []⟩) (by (repeat (first | (with_reducible exact Same.refl _ _) | (with_reducible apply Same.alloc)))) (nice_of _ _ _ (by omega) (by omega) (by omega)) hown38 hg38 (by first | exact hw38 | simpa using hw38)
          rw [Qao34.out] at hT38
          have T38 := Lib.hid hT38
          clear hown38 hg38 hw38 hT38
          go_wp2_with fail
          refine (outflow_any _ v38 (ao34) _ (steps_of (T38.out.on (by (repeat (first | (with_reducible exact Same.refl _ _) | (with_reducible apply Same.alloc))))).so T38.out.no) (R14f.out.ro).runs (by omega)).mono ?_
          rintro e w39 ⟨v39, rfl, hS39, hR39⟩
          have T39 := Lib.hid ((T38.out.on (by (repeat (first | (with_reducible exact Same.refl _ _) | (with_reducible apply Same.alloc))))).on hS39)
          have Q39 := Lib.hid hR39
          clear hS39 hR39
          go_wp2_with fail
          refine (last_any _ v39 _ _ Q39.out).mono ?_
          rintro e w40 ⟨x40, rfl, ⟨e1, e2, e3, _, _⟩, hS40⟩
          have T40 := Lib.hid (T39.out.on hS40)
          clear hS40
          cases x40 with | mk n40 ok40 ad40 ln40 cp40 pn40 =>
          simp only at e1 e2 e3
          replace e1 := e1.symm
          replace e2 := e2.symm
          replace e3 := e3.symm
          subst e1 e2 e3
          simp only [ResV.agg]
          have hc41 : w40.cell? ⟨w12.heap.size, 1, none⟩ = some (.int .i64 2) := (T40.out.kp _ _ ⟨rfl, (Blk.new w12 #[.int .i64 1, .int .i64 2] 3).cell 1⟩).1
          have hlt41 := World.block_lt_of_cell? _ _ hc41
          simp only at hlt41
          have nb41 : ¬ w12.heap.size = w40.heap.size := by omega
          go_wp2
          rw [rounds_succ]
          rcases R14f.out.recv1 (by omega) with ⟨si42, hR42⟩ | ⟨N42, so42, si42, hN42a, hN42b, hR42⟩
          · obtain ⟨ai43, qai43, bai43⟩ : ∃ l, ai33 ++ [(⟨1, 1, x, []⟩ : StepA)] = l ∧ l.length = (ai33).length + 1 := ⟨_, rfl, by simp⟩
            rw [qai43] at hR42
            have Qai43 := Lib.hid qai43
            have lai43 : ai43.length ≤ 2 + 3 * j + 3 := by omega
            clear qai43 bai43
            have R42w := Lib.hid hR42
            clear hR42
            obtain ⟨i44, hi44, hz44a, hz44b, hz44c⟩ := info_parts info26
            go_wp2_with (at_builtin; refine wpList_append_own2 _ rfl _ _ 27 rfl B 26 i44 (.agg #[.int .i64 0, .int .i64 0, .int .i64 0, .slice none 0 0]) 4 48 Tryd.underlying27 hi44 hz44a hz44b hz44c rfl (by decide) _ (ai33).length (flat (ai33)) rfl ?own _ 1 1 (stV ⟨1, 1, x, []⟩).cells rfl rfl ?c1 ?c2 ?c3 ?c4 ?c5 ?_)
            case own => exact (T40.out.on (by (repeat (first | (with_reducible exact Same.refl _ _) | (with_reducible apply Same.alloc))))).si
            case c1 => first | exact cells_at (by first | rfl | simp) rfl | (intro j u hu; simpa [stV, StepV.cells] using hu)
            case c2 => exact step_one _
            case c3 => unfold maxLen; omega
            case c4 => omega
            case c5 => have := T40.out.base; first | omega | (simp; omega) | (simp at this ⊢; omega)
            intro v44 w44 hown44 hg44 hw44
            have hT44 := T40.out.appI (a := ⟨1, 1, x, []⟩) (by (repeat (first | (with_reducible exact Same.refl _ _) | (with_reducible apply Same.alloc)))) (nice_of _ _ _ (by omega) (by omega) (by omega)) hown44 hg44 (by first | exact hw44 | simpa using hw44)
            rw [Qai43.out] at hT44
            have T44 := Lib.hid hT44
            clear hown44 hg44 hw44 hT44
            go_wp2_with fail
            refine (inflow_any _ v44 (ai43) _ (steps_of (T44.out.on (by (repeat (first | (with_reducible exact Same.refl _ _) | (with_reducible apply Same.alloc))))).si T44.out.ni) (R42w.out.ri).runs (by omega)).mono ?_
            rintro e w45 ⟨v45, rfl, hS45, hR45⟩
            have T45 := Lib.hid ((T44.out.on (by (repeat (first | (with_reducible exact Same.refl _ _) | (with_reducible apply Same.alloc))))).on hS45)
            have Q45 := Lib.hid hR45
            clear hS45 hR45
            go_wp2_with fail
            refine (last_any _ v45 _ _ Q45.out).mono ?_
            rintro e w46 ⟨x46, rfl, ⟨e1, e2, e3, _, _⟩, hS46⟩
            have T46 := Lib.hid (T45.out.on hS46)
            clear hS46
            cases x46 with | mk n46 ok46 ad46 ln46 cp46 pn46 =>
            simp only at e1 e2 e3
            replace e1 := e1.symm
            replace e2 := e2.symm
            replace e3 := e3.symm
            subst e1 e2 e3
            simp only [ResV.agg]
            go_wp2
            rw [rounds_succ]
            go_wp2
            go_roundg (gk - 1)
            case measure => omega
            case rel => exact ⟨j + 1, _, _, _, _, _, _, by omega, rfl, by omega, by omega, by omega, (T46.out.on (by (repeat (first | (with_reducible exact Same.refl _ _) | (with_reducible apply Same.alloc))))).forget, R42w.out⟩
          · obtain ⟨ai47, qai47, bai47⟩ : ∃ l, ai33 ++ [(⟨1, 1, x, []⟩ : StepA)] = l ∧ l.length = (ai33).length + 1 := ⟨_, rfl, by simp⟩
            rw [qai47] at hR42
            have Qai47 := Lib.hid qai47
            have lai47 : ai47.length ≤ 2 + 3 * j + 3 := by omega
            clear qai47 bai47
            obtain ⟨ao48, qao48, bao48⟩ : ∃ l, ao34 ++ [(⟨2, 0, N42, []⟩ : StepA)] = l ∧ l.length = (ao34).length + 1 := ⟨_, rfl, by simp⟩
            rw [qao48] at hR42
            have Qao48 := Lib.hid qao48
            have lao48 : ao48.length ≤ 1 + 4 * j + 4 := by omega
            clear qao48 bao48
            have R42f := Lib.hid hR42
            clear hR42
            have hNz42 : (N42 == 0) = false := beq_eq_false_iff_ne.2 (by omega)
            have hNy42 : ¬ N42 = 0 := by omega
            obtain ⟨i49, hi49, hz49a, hz49b, hz49c⟩ := info_parts info26
            go_wp2_with (at_builtin; refine wpList_append_own2 _ rfl _ _ 27 rfl B 26 i49 (.agg #[.int .i64 0, .int .i64 0, .int .i64 0, .slice none 0 0]) 4 48 Tryd.underlying27 hi49 hz49a hz49b hz49c rfl (by decide) _ (ai33).length (flat (ai33)) rfl ?own _ 1 1 (stV ⟨1, 1, x, []⟩).cells rfl rfl ?c1 ?c2 ?c3 ?c4 ?c5 ?_)
            case own => exact (T40.out.on (by (repeat (first | (with_reducible exact Same.refl _ _) | (with_reducible apply Same.alloc))))).si
            case c1 => first | exact cells_at (by first | rfl | simp) rfl | (intro j u hu; simpa [stV, StepV.cells] using hu)
            case c2 => exact step_one _
            case c3 => unfold maxLen; omega
            case c4 => omega
            case c5 => have := T40.out.base; first | omega | (simp; omega) | (simp at this ⊢; omega)
            intro v49 w49 hown49 hg49 hw49
            have hT49 := T40.out.appI (a := ⟨1, 1, x, []⟩) (by (repeat (first | (with_reducible exact Same.refl _ _) | (with_reducible apply Same.alloc)))) (nice_of _ _ _ (by omega) (by omega) (by omega)) hown49 hg49 (by first | exact hw49 | simpa using hw49)
            rw [Qai47.out] at hT49
            have T49 := Lib.hid hT49
            clear hown49 hg49 hw49 hT49
            go_wp2_with fail
            refine (inflow_any _ v49 (ai47) _ (steps_of (T49.out.on (by (repeat (first | (with_reducible exact Same.refl _ _) | (with_reducible apply Same.alloc))))).si T49.out.ni) (R42f.out.ri).runs (by omega)).mono ?_
            rintro e w50 ⟨v50, rfl, hS50, hR50⟩
            have T50 := Lib.hid ((T49.out.on (by (repeat (first | (with_reducible exact Same.refl _ _) | (with_reducible apply Same.alloc))))).on hS50)
            have Q50 := Lib.hid hR50
            clear hS50 hR50
            go_wp2_with fail
            refine (last_any _ v50 _ _ Q50.out).mono ?_
            rintro e w51 ⟨x51, rfl, ⟨e1, e2, e3, _, _⟩, hS51⟩
            have T51 := Lib.hid (T50.out.on hS51)
            clear hS51
            cases x51 with | mk n51 ok51 ad51 ln51 cp51 pn51 =>
            simp only at e1 e2 e3
            replace e1 := e1.symm
            replace e2 := e2.symm
            replace e3 := e3.symm
            subst e1 e2 e3
            simp only [ResV.agg]
            obtain ⟨i52, hi52, hz52a, hz52b, hz52c⟩ := info_parts info26
            go_wp2_with (at_builtin; refine wpList_append_own2 _ rfl _ _ 27 rfl B 26 i52 (.agg #[.int .i64 0, .int .i64 0, .int .i64 0, .slice none 0 0]) 4 48 Tryd.underlying27 hi52 hz52a hz52b hz52c rfl (by decide) _ (ao34).length (flat (ao34)) rfl ?own _ 1 1 (stV ⟨2, 0, N42, []⟩).cells rfl rfl ?c1 ?c2 ?c3 ?c4 ?c5 ?_)
            case own => exact (T51.out.on (by (repeat (first | (with_reducible exact Same.refl _ _) | (with_reducible apply Same.alloc))))).so
            case c1 => first | exact cells_at (by first | rfl | simp) rfl | (intro j u hu; simpa [stV, StepV.cells] using hu)
            case c2 => exact step_one _
            case c3 => unfold maxLen; omega
            case c4 => omega
            case c5 => have := T51.out.base; first | omega | (simp; omega) | (simp at this ⊢; omega)
            intro v52 w52 hown52 hg52 hw52
            have hT52 := T51.out.appO (a := ⟨2, 0, N42, []⟩) (by (repeat (first | (with_reducible exact Same.refl _ _) | (with_reducible apply Same.alloc)))) (nice_of _ _ _ (by omega) (by omega) (by omega)) hown52 hg52 (by first | exact hw52 | simpa using hw52)
            rw [Qao48.out] at hT52
            have T52 := Lib.hid hT52
            clear hown52 hg52 hw52 hT52
            go_wp2_with fail
            refine (outflow_any _ v52 (ao48) _ (steps_of (T52.out.on (by (repeat (first | (with_reducible exact Same.refl _ _) | (with_reducible apply Same.alloc))))).so T52.out.no) (R42f.out.ro).runs (by omega)).mono ?_
            rintro e w53 ⟨v53, rfl, hS53, hR53⟩
            have T53 := Lib.hid ((T52.out.on (by (repeat (first | (with_reducible exact Same.refl _ _) | (with_reducible apply Same.alloc))))).on hS53)
            have Q53 := Lib.hid hR53
            clear hS53 hR53
            go_wp2_with fail
            refine (last_any _ v53 _ _ Q53.out).mono ?_
            rintro e w54 ⟨x54, rfl, ⟨e1, e2, e3, _, _⟩, hS54⟩
            have T54 := Lib.hid (T53.out.on hS54)
            clear hS54
            cases x54 with | mk n54 ok54 ad54 ln54 cp54 pn54 =>
            simp only at e1 e2 e3
            replace e1 := e1.symm
            replace e2 := e2.symm
            replace e3 := e3.symm
            subst e1 e2 e3
            simp only [ResV.agg]
            go_wp2
            rw [rounds_succ]
            go_wp2
            go_roundg (gk - 1)
            case measure => omega
            case rel => exact ⟨j + 1, _, _, _, _, _, _, by omega, rfl, by omega, by omega, by omega, (T54.out.on (by (repeat (first | (with_reducible exact Same.refl _ _) | (with_reducible apply Same.alloc))))).forget, R42f.out⟩
      · obtain ⟨so2, si2, hR2⟩ := R1.out.send (n := m) (by omega) (by omega)
        obtain ⟨ao55, qao55, bao55⟩ : ∃ l, ao1 ++ [(⟨4, 0, m, []⟩ : StepA)] = l ∧ l.length = (ao1).length + 1 := ⟨_, rfl, by simp⟩
        rw [qao55] at hR2
        have Qao55 := Lib.hid qao55
        have lao55 : ao55.length ≤ 1 + 4 * j + 2 := by omega
        clear qao55 bao55
        obtain ⟨ai56, qai56, bai56⟩ : ∃ l, ai ++ [(⟨3, 0, m, []⟩ : StepA)] = l ∧ l.length = (ai).length + 1 := ⟨_, rfl, by simp⟩
        rw [qai56] at hR2
        have Qai56 := Lib.hid qai56
        have lai56 : ai56.length ≤ 2 + 3 * j + 1 := by omega
        clear qai56 bai56
        have R2 := Lib.hid hR2
        clear hR2
        obtain ⟨i57, hi57, hz57a, hz57b, hz57c⟩ := info_parts info26
        go_wp2_with (at_builtin; refine wpList_append_own2 _ rfl _ _ 27 rfl B 26 i57 (.agg #[.int .i64 0, .int .i64 0, .int .i64 0, .slice none 0 0]) 4 48 Tryd.underlying27 hi57 hz57a hz57b hz57c rfl (by decide) _ (ao1).length (flat (ao1)) rfl ?own _ 1 1 (stV ⟨4, 0, m, []⟩).cells rfl rfl ?c1 ?c2 ?c3 ?c4 ?c5 ?_)
        case own => exact (T4.out.on (by (repeat (first | (with_reducible exact Same.refl _ _) | (with_reducible apply Same.alloc))))).so
        case c1 => first | exact cells_at (by first | rfl | simp) rfl | (intro j u hu; simpa [stV, StepV.cells] using hu)
        case c2 => exact step_one _
        case c3 => unfold maxLen; omega
        case c4 => omega
        case c5 => have := T4.out.base; first | omega | (simp; omega) | (simp at this ⊢; omega)
        intro v57 w57 hown57 hg57 hw57
        have hT57 := T4.out.appO (a := ⟨4, 0, m, []⟩) (by (repeat (first | (with_reducible exact Same.refl _ _) | (with_reducible apply Same.alloc)))) (nice_of _ _ _ (by omega) (by omega) (by omega)) hown57 hg57 (by first | exact hw57 | simpa using hw57)
        rw [Qao55.out] at hT57
        have T57 := Lib.hid hT57
        clear hown57 hg57 hw57 hT57
        obtain ⟨i58, hi58, hz58a, hz58b, hz58c⟩ := info_parts info26
        go_wp2_with (at_builtin; refine wpList_append_own2 _ rfl _ _ 27 rfl B 26 i58 (.agg #[.int .i64 0, .int .i64 0, .int .i64 0, .slice none 0 0]) 4 48 Tryd.underlying27 hi58 hz58a hz58b hz58c rfl (by decide) _ (ai).length (flat (ai)) rfl ?own _ 1 1 (stV ⟨3, 0, m, []⟩).cells rfl rfl ?c1 ?c2 ?c3 ?c4 ?c5 ?_)
        case own => exact (T57.out.on (by (repeat (first | (with_reducible exact Same.refl _ _) | (with_reducible apply Same.alloc))))).si
        case c1 => first | exact cells_at (by first | rfl | simp) rfl | (intro j u hu; simpa [stV, StepV.cells] using hu)
        case c2 => exact step_one _
        case c3 => unfold maxLen; omega
        case c4 => omega
        case c5 => have := T57.out.base; first | omega | (simp; omega) | (simp at this ⊢; omega)
        intro v58 w58 hown58 hg58 hw58
        have hT58 := T57.out.appI (a := ⟨3, 0, m, []⟩) (by (repeat (first | (with_reducible exact Same.refl _ _) | (with_reducible apply Same.alloc)))) (nice_of _ _ _ (by omega) (by omega) (by omega)) hown58 hg58 (by first | exact hw58 | simpa using hw58)
        rw [Qai56.out] at hT58
        have T58 := Lib.hid hT58
        clear hown58 hg58 hw58 hT58
        go_wp2_with fail
        refine (outflow_any _ v57 (ao55) _ (steps_of (T58.out.on (by (repeat (first | (with_reducible exact Same.refl _ _) | (with_reducible apply Same.alloc))))).so T58.out.no) (R2.out.ro).runs (by omega)).mono ?_
        rintro e w59 ⟨v59, rfl, hS59, hR59⟩
        have T59 := Lib.hid ((T58.out.on (by (repeat (first | (with_reducible exact Same.refl _ _) | (with_reducible apply Same.alloc))))).on hS59)
        have Q59 := Lib.hid hR59
        clear hS59 hR59
        go_wp2_with fail
        refine (last_any _ v59 _ _ Q59.out).mono ?_
        rintro e w60 ⟨x60, rfl, ⟨e1, e2, e3, _, _⟩, hS60⟩
        have T60 := Lib.hid (T59.out.on hS60)
        clear hS60
        cases x60 with | mk n60 ok60 ad60 ln60 cp60 pn60 =>
        simp only at e1 e2 e3
        replace e1 := e1.symm
        replace e2 := e2.symm
        replace e3 := e3.symm
        subst e1 e2 e3
        simp only [ResV.agg]
        go_wp2_with fail
        refine (inflow_any _ v58 (ai56) _ (steps_of (T60.out.on (by (repeat (first | (with_reducible exact Same.refl _ _) | (with_reducible apply Same.alloc))))).si T60.out.ni) (R2.out.ri).runs (by omega)).mono ?_
        rintro e w61 ⟨v61, rfl, hS61, hR61⟩
        have T61 := Lib.hid ((T60.out.on (by (repeat (first | (with_reducible exact Same.refl _ _) | (with_reducible apply Same.alloc))))).on hS61)
        have Q61 := Lib.hid hR61
        clear hS61 hR61
        go_wp2_with fail
        refine (last_any _ v61 _ _ Q61.out).mono ?_
        rintro e w62 ⟨x62, rfl, ⟨e1, e2, e3, _, _⟩, hS62⟩
        have T62 := Lib.hid (T61.out.on hS62)
        clear hS62
        cases x62 with | mk n62 ok62 ad62 ln62 cp62 pn62 =>
        simp only at e1 e2 e3
        replace e1 := e1.symm
        replace e2 := e2.symm
        replace e3 := e3.symm
        subst e1 e2 e3
        simp only [ResV.agg]
        go_wp2
        refine wp_loop_rounds 3 ?_
        rw [rounds_succ]
        have T63 := Lib.hid ((T62.out.on (Same.refl _ w62)).keep #[.int .i64 1, .int .i64 2] 3)
        rcases R2.out.recv0 (by omega) with ⟨si64, hR64⟩ | ⟨N64, so64, si64, hN64a, hN64b, hR64⟩
        · obtain ⟨ai65, qai65, bai65⟩ : ∃ l, ai56 ++ [(⟨1, 0, m, []⟩ : StepA)] = l ∧ l.length = (ai56).length + 1 := ⟨_, rfl, by simp⟩
          rw [qai65] at hR64
          have Qai65 := Lib.hid qai65
          have lai65 : ai65.length ≤ 2 + 3 * j + 2 := by omega
          clear qai65 bai65
          have R64w := Lib.hid hR64
          clear hR64
          obtain ⟨i66, hi66, hz66a, hz66b, hz66c⟩ := info_parts info26
          go_wp2_with (at_builtin; refine wpList_append_own2 _ rfl _ _ 27 rfl B 26 i66 (.agg #[.int .i64 0, .int .i64 0, .int .i64 0, .slice none 0 0]) 4 48 Tryd.underlying27 hi66 hz66a hz66b hz66c rfl (by decide) _ (ai56).length (flat (ai56)) rfl ?own _ 1 1 (stV ⟨1, 0, m, []⟩).cells rfl rfl ?c1 ?c2 ?c3 ?c4 ?c5 ?_)
          case own => exact (T63.out.on (by (repeat (first | (with_reducible exact Same.refl _ _) | (with_reducible apply Same.alloc))))).si
          case c1 => first | exact cells_at (by first | rfl | simp) rfl | (intro j u hu; simpa [stV, StepV.cells] using hu)
          case c2 => exact step_one _
          case c3 => unfold maxLen; omega
          case c4 => omega
          case c5 => have := T63.out.base; first | omega | (simp; omega) | (simp at this ⊢; omega)
          intro v66 w66 hown66 hg66 hw66
          have hT66 := T63.out.appI (a := ⟨1, 0, m, []⟩) (by (repeat (first | (with_reducible exact Same.refl _ _) | (with_reducible apply Same.alloc)))) (nice_of _ _ _ (by omega) (by omega) (by omega)) hown66 hg66 (by first | exact hw66 | simpa using hw66)
          rw [Qai65.out] at hT66
          have T66 := Lib.hid hT66
          clear hown66 hg66 hw66 hT66
          go_wp2_with fail
          refine (inflow_any _ v66 (ai65) _ (steps_of (T66.out.on (by (repeat (first | (with_reducible exact Same.refl _ _) | (with_reducible apply Same.alloc))))).si T66.out.ni) (R64w.out.ri).runs (by omega)).mono ?_
          rintro e w67 ⟨v67, rfl, hS67, hR67⟩
          have T67 := Lib.hid ((T66.out.on (by (repeat (first | (with_reducible exact Same.refl _ _) | (with_reducible apply Same.alloc))))).on hS67)
          have Q67 := Lib.hid hR67
          clear hS67 hR67
          go_wp2_with fail
          refine (last_any _ v67 _ _ Q67.out).mono ?_
          rintro e w68 ⟨x68, rfl, ⟨e1, e2, e3, _, _⟩, hS68⟩
          have T68 := Lib.hid (T67.out.on hS68)
          clear hS68
          cases x68 with | mk n68 ok68 ad68 ln68 cp68 pn68 =>
          simp only at e1 e2 e3
          replace e1 := e1.symm
          replace e2 := e2.symm
          replace e3 := e3.symm
          subst e1 e2 e3
          simp only [ResV.agg]
          have hc69 : w68.cell? ⟨w62.heap.size, 1, none⟩ = some (.int .i64 2) := (T68.out.kp _ _ ⟨rfl, (Blk.new w62 #[.int .i64 1, .int .i64 2] 3).cell 1⟩).1
          have hlt69 := World.block_lt_of_cell? _ _ hc69
          simp only at hlt69
          have nb69 : ¬ w62.heap.size = w68.heap.size := by omega
          go_wp2
          rw [rounds_succ]
          rcases R64w.out.recv1 (by omega) with ⟨si70, hR70⟩ | ⟨N70, so70, si70, hN70a, hN70b, hR70⟩
          · obtain ⟨ai71, qai71, bai71⟩ : ∃ l, ai65 ++ [(⟨1, 1, m, []⟩ : StepA)] = l ∧ l.length = (ai65).length + 1 := ⟨_, rfl, by simp⟩
            rw [qai71] at hR70
            have Qai71 := Lib.hid qai71
            have lai71 : ai71.length ≤ 2 + 3 * j + 3 := by omega
            clear qai71 bai71
            have R70w := Lib.hid hR70
            clear hR70
            obtain ⟨i72, hi72, hz72a, hz72b, hz72c⟩ := info_parts info26
            go_wp2_with (at_builtin; refine wpList_append_own2 _ rfl _ _ 27 rfl B 26 i72 (.agg #[.int .i64 0, .int .i64 0, .int .i64 0, .slice none 0 0]) 4 48 Tryd.underlying27 hi72 hz72a hz72b hz72c rfl (by decide) _ (ai65).length (flat (ai65)) rfl ?own _ 1 1 (stV ⟨1, 1, m, []⟩).cells rfl rfl ?c1 ?c2 ?c3 ?c4 ?c5 ?_)
            case own => exact (T68.out.on (by (repeat (first | (with_reducible exact Same.refl _ _) | (with_reducible apply Same.alloc))))).si
            case c1 => first | exact cells_at (by first | rfl | simp) rfl | (intro j u hu; simpa [stV, StepV.cells] using hu)
            case c2 => exact step_one _
            case c3 => unfold maxLen; omega
            case c4 => omega
            case c5 => have := T68.out.base; first | omega | (simp; omega) | (simp at this ⊢; omega)
            intro v72 w72 hown72 hg72 hw72
            have hT72 := T68.out.appI (a := ⟨1, 1, m, []⟩) (by (repeat (first | (with_reducible exact Same.refl _ _) | (with_reducible apply Same.alloc)))) (nice_of _ _ _ (by omega) (by omega) (by omega)) hown72 hg72 (by first | exact hw72 | simpa using hw72)
            rw [Qai71.out] at hT72
            have T72 := Lib.hid hT72
            clear hown72 hg72 hw72 hT72
            go_wp2_with fail
            refine (inflow_any _ v72 (ai71) _ (steps_of (T72.out.on (by (repeat (first | (with_reducible exact Same.refl _ _) | (with_reducible apply Same.alloc))))).si T72.out.ni) (R70w.out.ri).runs (by omega)).mono ?_
            rintro e w73 ⟨v73, rfl, hS73, hR73⟩
            have T73 := Lib.hid ((T72.out.on (by (repeat (first | (with_reducible exact Same.refl _ _) | (with_reducible apply Same.alloc))))).on hS73)
            have Q73 := Lib.hid hR73
            clear hS73 hR73
            go_wp2_with fail
            refine (last_any _ v73 _ _ Q73.out).mono ?_
            rintro e w74 ⟨x74, rfl, ⟨e1, e2, e3, _, _⟩, hS74⟩
            have T74 := Lib.hid (T73.out.on hS74)
            clear hS74
            cases x74 with | mk n74 ok74 ad74 ln74 cp74 pn74 =>
            simp only at e1 e2 e3
            replace e1 := e1.symm
            replace e2 := e2.symm
            replace e3 := e3.symm
            subst e1 e2 e3
            simp only [ResV.agg]
            go_wp2
            rw [rounds_succ]
            go_wp2
            go_roundg (gk - 1)
            case measure => omega
            case rel => exact ⟨j + 1, _, _, _, _, _, _, by omega, rfl, by omega, by omega, by omega, (T74.out.on (by (repeat (first | (with_reducible exact Same.refl _ _) | (with_reducible apply Same.alloc))))).forget, R70w.out⟩
          · obtain ⟨ai75, qai75, bai75⟩ : ∃ l, ai65 ++ [(⟨1, 1, m, []⟩ : StepA)] = l ∧ l.length = (ai65).length + 1 := ⟨_, rfl, by simp⟩
            rw [qai75] at hR70
            have Qai75 := Lib.hid qai75
            have lai75 : ai75.length ≤ 2 + 3 * j + 3 := by omega
            clear qai75 bai75
            obtain ⟨ao76, qao76, bao76⟩ : ∃ l, ao55 ++ [(⟨2, 0, N70, []⟩ : StepA)] = l ∧ l.length = (ao55).length + 1 := ⟨_, rfl, by simp⟩
            rw [qao76] at hR70
            have Qao76 := Lib.hid qao76
            have lao76 : ao76.length ≤ 1 + 4 * j + 4 := by omega
            clear qao76 bao76
            have R70f := Lib.hid hR70
            clear hR70
            have hNz70 : (N70 == 0) = false := beq_eq_false_iff_ne.2 (by omega)
            have hNy70 : ¬ N70 = 0 := by omega
            obtain ⟨i77, hi77, hz77a, hz77b, hz77c⟩ := info_parts info26
            go_wp2_with (at_builtin; refine wpList_append_own2 _ rfl _ _ 27 rfl B 26 i77 (.agg #[.int .i64 0, .int .i64 0, .int .i64 0, .slice none 0 0]) 4 48 Tryd.underlying27 hi77 hz77a hz77b hz77c rfl (by decide) _ (ai65).length (flat (ai65)) rfl ?own _ 1 1 (stV ⟨1, 1, m, []⟩).cells rfl rfl ?c1 ?c2 ?c3 ?c4 ?c5 ?_)
            case own => exact (T68.out.on (by (repeat (first | (with_reducible exact Same.refl _ _) | (with_reducible apply Same.alloc))))).si
            case c1 => first | exact cells_at (by first | rfl | simp) rfl | (intro j u hu; simpa [stV, StepV.cells] using hu)
            case c2 => exact step_one _
            case c3 => unfold maxLen; omega
            case c4 => omega
            case c5 => have := T68.out.base; first | omega | (simp; omega) | (simp at this ⊢; omega)
            intro v77 w77 hown77 hg77 hw77
            have hT77 := T68.out.appI (a := ⟨1, 1, m, []⟩) (by (repeat (first | (with_reducible exact Same.refl _ _) | (with_reducible apply Same.alloc)))) (nice_of _ _ _ (by omega) (by omega) (by omega)) hown77 hg77 (by first | exact hw77 | simpa using hw77)
            rw [Qai75.out] at hT77
            have T77 := Lib.hid hT77
            clear hown77 hg77 hw77 hT77
            go_wp2_with fail
            refine (inflow_any _ v77 (ai75) _ (steps_of (T77.out.on (by (repeat (first | (with_reducible exact Same.refl _ _) | (with_reducible apply Same.alloc))))).si T77.out.ni) (R70f.out.ri).runs (by omega)).mono ?_
            rintro e w78 ⟨v78, rfl, hS78, hR78⟩
            have T78 := Lib.hid ((T77.out.on (by (repeat (first | (with_reducible exact Same.refl _ _) | (with_reducible apply Same.alloc))))).on hS78)
            have Q78 := Lib.hid hR78
            clear hS78 hR78
            go_wp2_with fail
            refine (last_any _ v78 _ _ Q78.out).mono ?_
            rintro e w79 ⟨x79, rfl, ⟨e1, e2, e3, _, _⟩, hS79⟩
            have T79 := Lib.hid (T78.out.on hS79)
            clear hS79
            cases x79 with | mk n79 ok79 ad79 ln79 cp79 pn79 =>
            simp only at e1 e2 e3
            replace e1 := e1.symm
            replace e2 := e2.symm
            replace e3 := e3.symm
            subst e1 e2 e3
            simp only [ResV.agg]
            obtain ⟨i80, hi80, hz80a, hz80b, hz80c⟩ := info_parts info26
            go_wp2_with (at_builtin; refine wpList_append_own2 _ rfl _ _ 27 rfl B 26 i80 (.agg #[.int .i64 0, .int .i64 0, .int .i64 0, .slice none 0 0]) 4 48 Tryd.underlying27 hi80 hz80a hz80b hz80c rfl (by decide) _ (ao55).length (flat (ao55)) rfl ?own _ 1 1 (stV ⟨2, 0, N70, []⟩).cells rfl rfl ?c1 ?c2 ?c3 ?c4 ?c5 ?_)
            case own => exact (T79.out.on (by (repeat (first | (with_reducible exact Same.refl _ _) | (with_reducible apply Same.alloc))))).so
            case c1 => first | exact cells_at (by first | rfl | simp) rfl | (intro j u hu; simpa [stV, StepV.cells] using hu)
            case c2 => exact step_one _
            case c3 => unfold maxLen; omega
            case c4 => omega
            case c5 => have := T79.out.base; first | omega | (simp; omega) | (simp at this ⊢; omega)
            intro v80 w80 hown80 hg80 hw80
            have hT80 := T79.out.appO (a := ⟨2, 0, N70, []⟩) (by (repeat (first | (with_reducible exact Same.refl _ _) | (with_reducible apply Same.alloc)))) (nice_of _ _ _ (by omega) (by omega) (by omega)) hown80 hg80 (by first | exact hw80 | simpa using hw80)
            rw [Qao76.out] at hT80
            have T80 := Lib.hid hT80
            clear hown80 hg80 hw80 hT80
            go_wp2_with fail
            refine (outflow_any _ v80 (ao76) _ (steps_of (T80.out.on (by (repeat (first | (with_reducible exact Same.refl _ _) | (with_reducible apply Same.alloc))))).so T80.out.no) (R70f.out.ro).runs (by omega)).mono ?_
            rintro e w81 ⟨v81, rfl, hS81, hR81⟩
            have T81 := Lib.hid ((T80.out.on (by (repeat (first | (with_reducible exact Same.refl _ _) | (with_reducible apply Same.alloc))))).on hS81)
            have Q81 := Lib.hid hR81
            clear hS81 hR81
            go_wp2_with fail
            refine (last_any _ v81 _ _ Q81.out).mono ?_
            rintro e w82 ⟨x82, rfl, ⟨e1, e2, e3, _, _⟩, hS82⟩
            have T82 := Lib.hid (T81.out.on hS82)
            clear hS82
            cases x82 with | mk n82 ok82 ad82 ln82 cp82 pn82 =>
            simp only at e1 e2 e3
            replace e1 := e1.symm
            replace e2 := e2.symm
            replace e3 := e3.symm
            subst e1 e2 e3
            simp only [ResV.agg]
            go_wp2
            rw [rounds_succ]
            go_wp2
            go_roundg (gk - 1)
            case measure => omega
            case rel => exact ⟨j + 1, _, _, _, _, _, _, by omega, rfl, by omega, by omega, by omega, (T82.out.on (by (repeat (first | (with_reducible exact Same.refl _ _) | (with_reducible apply Same.alloc))))).forget, R70f.out⟩
        · obtain ⟨ai83, qai83, bai83⟩ : ∃ l, ai56 ++ [(⟨1, 0, m, []⟩ : StepA)] = l ∧ l.length = (ai56).length + 1 := ⟨_, rfl, by simp⟩
          rw [qai83] at hR64
          have Qai83 := Lib.hid qai83
          have lai83 : ai83.length ≤ 2 + 3 * j + 2 := by omega
          clear qai83 bai83
          obtain ⟨ao84, qao84, bao84⟩ : ∃ l, ao55 ++ [(⟨1, 0, N64, []⟩ : StepA)] = l ∧ l.length = (ao55).length + 1 := ⟨_, rfl, by simp⟩
          rw [qao84] at hR64
          have Qao84 := Lib.hid qao84
          have lao84 : ao84.length ≤ 1 + 4 * j + 3 := by omega
          clear qao84 bao84
          have R64f := Lib.hid hR64
          clear hR64
          have hNz64 : (N64 == 0) = false := beq_eq_false_iff_ne.2 (by omega)
          have hNy64 : ¬ N64 = 0 := by omega
          obtain ⟨i85, hi85, hz85a, hz85b, hz85c⟩ := info_parts info26
          go_wp2_with (at_builtin; refine wpList_append_own2 _ rfl _ _ 27 rfl B 26 i85 (.agg #[.int .i64 0, .int .i64 0, .int .i64 0, .slice none 0 0]) 4 48 Tryd.underlying27 hi85 hz85a hz85b hz85c rfl (by decide) _ (ai56).length (flat (ai56)) rfl ?own _ 1 1 (stV ⟨1, 0, m, []⟩).cells rfl rfl ?c1 ?c2 ?c3 ?c4 ?c5 ?_)
          case own => exact (T63.out.on (by (repeat (first | (with_reducible exact Same.refl _ _) | (with_reducible apply Same.alloc))))).si
          case c1 => first | exact cells_at (by first | rfl | simp) rfl | (intro j u hu; simpa [stV, StepV.cells] using hu)
          case c2 => exact step_one _
          case c3 => unfold maxLen; omega
          case c4 => omega
          case c5 => have := T63.out.base; first | omega | (simp; omega) | (simp at this ⊢; omega)
          intro v85 w85 hown85 hg85 hw85
          have hT85 := T63.out.appI (a := ⟨1, 0, m, []⟩) (by (repeat (first | (with_reducible exact Same.refl _ _) | (with_reducible apply Same.alloc)))) (nice_of _ _ _ (by omega) (by omega) (by omega)) hown85 hg85 (by first | exact hw85 | simpa using hw85)
          rw [Qai83.out] at hT85
          have T85 := Lib.hid hT85
          clear hown85 hg85 hw85 hT85
          go_wp2_with fail
          refine (inflow_any _ v85 (ai83) _ (steps_of (T85.out.on (by (repeat (first | (with_reducible exact Same.refl _ _) | (with_reducible apply Same.alloc))))).si T85.out.ni) (R64f.out.ri).runs (by omega)).mono ?_
          rintro e w86 ⟨v86, rfl, hS86, hR86⟩
          have T86 := Lib.hid ((T85.out.on (by (repeat (first | (with_reducible exact Same.refl _ _) | (with_reducible apply Same.alloc))))).on hS86)
          have Q86 := Lib.hid hR86
          clear hS86 hR86
          go_wp2_with fail
          refine (last_any _ v86 _ _ Q86.out).mono ?_
          rintro e w87 ⟨x87, rfl, ⟨e1, e2, e3, _, _⟩, hS87⟩
          have T87 := Lib.hid (T86.out.on hS87)
          clear hS87
          cases x87 with | mk n87 ok87 ad87 ln87 cp87 pn87 =>
          simp only at e1 e2 e3
          replace e1 := e1.symm
          replace e2 := e2.symm
          replace e3 := e3.symm
          subst e1 e2 e3
          simp only [ResV.agg]
          obtain ⟨i88, hi88, hz88a, hz88b, hz88c⟩ := info_parts info26
          go_wp2_with (at_builtin; refine wpList_append_own2 _ rfl _ _ 27 rfl B 26 i88 (.agg #[.int .i64 0, .int .i64 0, .int .i64 0, .slice none 0 0]) 4 48 Tryd.underlying27 hi88 hz88a hz88b hz88c rfl (by decide) _ (ao55).length (flat (ao55)) rfl ?own _ 1 1 (stV ⟨1, 0, N64, []⟩).cells rfl rfl ?c1 ?c2 ?c3 ?c4 ?c5 ?_)
          case own => exact (T87.out.on (by (repeat (first | (with_reducible exact Same.refl _ _) | (with_reducible apply Same.alloc))))).so
          case c1 => first | exact cells_at (by first | rfl | simp) rfl | (intro j u hu; simpa [stV, StepV.cells] using hu)
          case c2 => exact step_one _
          case c3 => unfold maxLen; omega
          case c4 => omega
          case c5 => have := T87.out.base; first | omega | (simp; omega) | (simp at this ⊢; omega)
          intro v88 w88 hown88 hg88 hw88
          have hT88 := T87.out.appO (a := ⟨1, 0, N64, []⟩) (by (repeat (first | (with_reducible exact Same.refl _ _) | (with_reducible apply Same.alloc)))) (nice_of _ _ _ (by omega) (by omega) (by omega)) hown88 hg88 (by first | exact hw88 | simpa using hw88)
          rw [Qao84.out] at hT88
          have T88 := Lib.hid hT88
          clear hown88 hg88 hw88 hT88
          go_wp2_with fail
          refine (outflow_any _ v88 (ao84) _ (steps_of (T88.out.on (by (repeat (first | (with_reducible exact Same.refl _ _) | (with_reducible apply Same.alloc))))).so T88.out.no) (R64f.out.ro).runs (by omega)).mono ?_
          rintro e w89 ⟨v89, rfl, hS89, hR89⟩
          have T89 := Lib.hid ((T88.out.on (by (repeat (first | (with_reducible exact Same.refl _ _) | (with_reducible apply Same.alloc))))).on hS89)
          have Q89 := Lib.hid hR89
          clear hS89 hR89
          go_wp2_with fail
          refine (last_any _ v89 _ _ Q89.out).mono ?_
          rintro e w90 ⟨x90, rfl, ⟨e1, e2, e3, _, _⟩, hS90⟩
          have T90 := Lib.hid (T89.out.on hS90)
          clear hS90
          cases x90 with | mk n90 ok90 ad90 ln90 cp90 pn90 =>
          simp only at e1 e2 e3
          replace e1 := e1.symm
          replace e2 := e2.symm
          replace e3 := e3.symm
          subst e1 e2 e3
          simp only [ResV.agg]
          have hc91 : w90.cell? ⟨w62.heap.size, 1, none⟩ = some (.int .i64 2) := (T90.out.kp _ _ ⟨rfl, (Blk.new w62 #[.int .i64 1, .int .i64 2] 3).cell 1⟩).1
          have hlt91 := World.block_lt_of_cell? _ _ hc91
          simp only at hlt91
          have nb91 : ¬ w62.heap.size = w90.heap.size := by omega
          go_wp2
          rw [rounds_succ]
          rcases R64f.out.recv1 (by omega) with ⟨si92, hR92⟩ | ⟨N92, so92, si92, hN92a, hN92b, hR92⟩
          · obtain ⟨ai93, qai93, bai93⟩ : ∃ l, ai83 ++ [(⟨1, 1, m, []⟩ : StepA)] = l ∧ l.length = (ai83).length + 1 := ⟨_, rfl, by simp⟩
            rw [qai93] at hR92
            have Qai93 := Lib.hid qai93
            have lai93 : ai93.length ≤ 2 + 3 * j + 3 := by omega
            clear qai93 bai93
            have R92w := Lib.hid hR92
            clear hR92
            obtain ⟨i94, hi94, hz94a, hz94b, hz94c⟩ := info_parts info26
            go_wp2_with (at_builtin; refine wpList_append_own2 _ rfl _ _ 27 rfl B 26 i94 (.agg #[.int .i64 0, .int .i64 0, .int .i64 0, .slice none 0 0]) 4 48 Tryd.underlying27 hi94 hz94a hz94b hz94c rfl (by decide) _ (ai83).length (flat (ai83)) rfl ?own _ 1 1 (stV ⟨1, 1, m, []⟩).cells rfl rfl ?c1 ?c2 ?c3 ?c4 ?c5 ?_)
            case own => exact (T90.out.on (by (repeat (first | (with_reducible exact Same.refl _ _) | (with_reducible apply Same.alloc))))).si
            case c1 => first | exact cells_at (by first | rfl | simp) rfl | (intro j u hu; simpa [stV, StepV.cells] using hu)
            case c2 => exact step_one _
            case c3 => unfold maxLen; omega
            case c4 => omega
            case c5 => have := T90.out.base; first | omega | (simp; omega) | (simp at this ⊢; omega)
            intro v94 w94 hown94 hg94 hw94
            have hT94 := T90.out.appI (a := ⟨1, 1, m, []⟩) (by (repeat (first | (with_reducible exact Same.refl _ _) | (with_reducible apply Same.alloc)))) (nice_of _ _ _ (by omega) (by omega) (by omega)) hown94 hg94 (by first | exact hw94 | simpa using hw94)
            rw [Qai93.out] at hT94
            have T94 := Lib.hid hT94
            clear hown94 hg94 hw94 hT94
            go_wp2_with fail
            refine (inflow_any _ v94 (ai93) _ (steps_of (T94.out.on (by (repeat (first | (with_reducible exact Same.refl _ _) | (with_reducible apply Same.alloc))))).si T94.out.ni) (R92w.out.ri).runs (by omega)).mono ?_
            rintro e w95 ⟨v95, rfl, hS95, hR95⟩
            have T95 := Lib.hid ((T94.out.on (by (repeat (first | (with_reducible exact Same.refl _ _) | (with_reducible apply Same.alloc))))).on hS95)
            have Q95 := Lib.hid hR95
            clear hS95 hR95
            go_wp2_with fail
            refine (last_any _ v95 _ _ Q95.out).mono ?_
            rintro e w96 ⟨x96, rfl, ⟨e1, e2, e3, _, _⟩, hS96⟩
            have T96 := Lib.hid (T95.out.on hS96)
            clear hS96
            cases x96 with | mk n96 ok96 ad96 ln96 cp96 pn96 =>
            simp only at e1 e2 e3
            replace e1 := e1.symm
            replace e2 := e2.symm
            replace e3 := e3.symm
            subst e1 e2 e3
            simp only [ResV.agg]
            go_wp2
            rw [rounds_succ]
            go_wp2
            go_roundg (gk - 1)
            case measure => omega
            case rel => exact ⟨j + 1, _, _, _, _, _, _, by omega, rfl, by omega, by omega, by omega, (T96.out.on (by (repeat (first | (with_reducible exact Same.refl _ _) | (with_reducible apply Same.alloc))))).forget, R92w.out⟩
          · obtain ⟨ai97, qai97, bai97⟩ : ∃ l, ai83 ++ [(⟨1, 1, m, []⟩ : StepA)] = l ∧ l.length = (ai83).length + 1 := ⟨_, rfl, by simp⟩
            rw [qai97] at hR92
            have Qai97 := Lib.hid qai97
            have lai97 : ai97.length ≤ 2 + 3 * j + 3 := by omega
            clear qai97 bai97
            obtain ⟨ao98, qao98, bao98⟩ : ∃ l, ao84 ++ [(⟨2, 0, N92, []⟩ : StepA)] = l ∧ l.length = (ao84).length + 1 := ⟨_, rfl, by simp⟩
            rw [qao98] at hR92
            have Qao98 := Lib.hid qao98
            have lao98 : ao98.length ≤ 1 + 4 * j + 4 := by omega
            clear qao98 bao98
            have R92f := Lib.hid hR92
            clear hR92
            have hNz92 : (N92 == 0) = false := beq_eq_false_iff_ne.2 (by omega)
            have hNy92 : ¬ N92 = 0 := by omega
            obtain ⟨i99, hi99, hz99a, hz99b, hz99c⟩ := info_parts info26
            go_wp2_with (at_builtin; refine wpList_append_own2 _ rfl _ _ 27 rfl B 26 i99 (.agg #[.int .i64 0, .int .i64 0, .int .i64 0, .slice none 0 0]) 4 48 Tryd.underlying27 hi99 hz99a hz99b hz99c rfl (by decide) _ (ai83).length (flat (ai83)) rfl ?own _ 1 1 (stV ⟨1, 1, m, []⟩).cells rfl rfl ?c1 ?c2 ?c3 ?c4 ?c5 ?_)
            case own => exact (T90.out.on (by (repeat (first | (with_reducible exact Same.refl _ _) | (with_reducible apply Same.alloc))))).si
            case c1 => first | exact cells_at (by first | rfl | simp) rfl | (intro j u hu; simpa [stV, StepV.cells] using hu)
            case c2 => exact step_one _
            case c3 => unfold maxLen; omega
            case c4 => omega
            case c5 => have := T90.out.base; first | omega | (simp; omega) | (simp at this ⊢; omega)
            intro v99 w99 hown99 hg99 hw99
            have hT99 := T90.out.appI (a := ⟨1, 1, m, []⟩) (by (repeat (first | (with_reducible exact Same.refl _ _) | (with_reducible apply Same.alloc)))) (nice_of _ _ _ (by omega) (by omega) (by omega)) hown99 hg99 (by first | exact hw99 | simpa using hw99)
            rw [Qai97.out] at hT99
            have T99 := Lib.hid hT99
            clear hown99 hg99 hw99 hT99
            go_wp2_with fail
            refine (inflow_any _ v99 (ai97) _ (steps_of (T99.out.on (by (repeat (first | (with_reducible exact Same.refl _ _) | (with_reducible apply Same.alloc))))).si T99.out.ni) (R92f.out.ri).runs (by omega)).mono ?_
            rintro e w100 ⟨v100, rfl, hS100, hR100⟩
            have T100 := Lib.hid ((T99.out.on (by (repeat (first | (with_reducible exact Same.refl _ _) | (with_reducible apply Same.alloc))))).on hS100)
            have Q100 := Lib.hid hR100
            clear hS100 hR100
            go_wp2_with fail
            refine (last_any _ v100 _ _ Q100.out).mono ?_
            rintro e w101 ⟨x101, rfl, ⟨e1, e2, e3, _, _⟩, hS101⟩
            have T101 := Lib.hid (T100.out.on hS101)
            clear hS101
            cases x101 with | mk n101 ok101 ad101 ln101 cp101 pn101 =>
            simp only at e1 e2 e3
            replace e1 := e1.symm
            replace e2 := e2.symm
            replace e3 := e3.symm
            subst e1 e2 e3
            simp only [ResV.agg]
            obtain ⟨i102, hi102, hz102a, hz102b, hz102c⟩ := info_parts info26
            go_wp2_with (at_builtin; refine wpList_append_own2 _ rfl _ _ 27 rfl B 26 i102 (.agg #[.int .i64 0, .int .i64 0, .int .i64 0, .slice none 0 0]) 4 48 Tryd.underlying27 hi102 hz102a hz102b hz102c rfl (by decide) _ (ao84).length (flat (ao84)) rfl ?own _ 1 1 (stV ⟨2, 0, N92, []⟩).cells rfl rfl ?c1 ?c2 ?c3 ?c4 ?c5 ?_)
            case own => exact (T101.out.on (by (repeat (first | (with_reducible exact Same.refl _ _) | (with_reducible apply Same.alloc))))).so
            case c1 => first | exact cells_at (by first | rfl | simp) rfl | (intro j u hu; simpa [stV, StepV.cells] using hu)
            case c2 => exact step_one _
            case c3 => unfold maxLen; omega
            case c4 => omega
            case c5 => have := T101.out.base; first | omega | (simp; omega) | (simp at this ⊢; omega)
            intro v102 w102 hown102 hg102 hw102
            have hT102 := T101.out.appO (a := ⟨2, 0, N92, []⟩) (by (repeat (first | (with_reducible exact Same.refl _ _) | (with_reducible apply Same.alloc)))) (nice_of _ _ _ (by omega) (by omega) (by omega)) hown102 hg102 (by first | exact hw102 | simpa using hw102)
            rw [Qao98.out] at hT102
            have T102 := Lib.hid hT102
            clear hown102 hg102 hw102 hT102
            go_wp2_with fail
            refine (outflow_any _ v102 (ao98) _ (steps_of (T102.out.on (by (repeat (first | (with_reducible exact Same.refl _ _) | (with_reducible apply Same.alloc))))).so T102.out.no) (R92f.out.ro).runs (by omega)).mono ?_
            rintro e w103 ⟨v103, rfl, hS103, hR103⟩
            have T103 := Lib.hid ((T102.out.on (by (repeat (first | (with_reducible exact Same.refl _ _) | (with_reducible apply Same.alloc))))).on hS103)
            have Q103 := Lib.hid hR103
            clear hS103 hR103
            go_wp2_with fail
            refine (last_any _ v103 _ _ Q103.out).mono ?_
            rintro e w104 ⟨x104, rfl, ⟨e1, e2, e3, _, _⟩, hS104⟩
            have T104 := Lib.hid (T103.out.on hS104)
            clear hS104
            cases x104 with | mk n104 ok104 ad104 ln104 cp104 pn104 =>
            simp only at e1 e2 e3
            replace e1 := e1.symm
            replace e2 := e2.symm
            replace e3 := e3.symm
            subst e1 e2 e3
            simp only [ResV.agg]
            go_wp2
            rw [rounds_succ]
            go_wp2
            go_roundg (gk - 1)
            case measure => omega
            case rel => exact ⟨j + 1, _, _, _, _, _, _, by omega, rfl, by omega, by omega, by omega, (T104.out.on (by (repeat (first | (with_reducible exact Same.refl _ _) | (with_reducible apply Same.alloc))))).forget, R92f.out⟩
    · have hge : ¬ ((j : Int) < (xs.length : Int)) := by omega
      clear hT
      go_wp2_with fail
      refine (runs_any _).mono ?_
      rintro e w3 ⟨rfl, hS3⟩
      have H3 := Lib.hid hS3
      clear hS3
      go_wp2
      go_ret
      exact ⟨rfl, T0.out.same.trans H3.out (fun _ _ h => h)⟩
end Go.Proofs.YtalpilbpgkijlaaDoor
