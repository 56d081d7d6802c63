/- spec.Inbound's rounds, some cases (the walks). No condition beside what each names. -/
import Derived.Test.YtalpilbpgkijlaaDoorInbBody
import Derived.BigRegion
namespace Go.Proofs.YtalpilbpgkijlaaDoor
open Go.RowKit
set_option maxRecDepth 1000000
set_option maxHeartbeats 8000000
theorem inb_a (w : World) (al : List StepA) (B j gk : Nat) (s : InS) (rs : List ResA) (ad : Option Addr) (cp : Nat) (wr : World) (u2 u3 u6 u7 u8 u12 u13 u14 u15 u16 u17 u18 u19 u20 u21 u22 u23 u24 u25 u26 u27 u28 u29 u30 u31 u32 u33 u34 u35 u36 u37 u38 u39 u40 u41 u42 u43 u44 u45 u46 u47 u48 u49 u50 u51 u52 u53 u54 u55 u56 u57 u58 u59 u60 u61 u62 u63 u64 u65 u66 u67 u68 u69 u70 u71 u72 u73 u74 u75 u76 u77 u78 u79 u80 u81 u82 u83 u84 u85 u86 u87 u88 u89 u90 u91 u92 u93 u94 u95 u96 u97 u98 u99 u100 u101 u102 u103 u104 u105 u106 u107 u108 u109 u110 u111 u112 u113 u114 u115 u116 u117 u118 u119 u120 u121 u122 u123 u124 u125 u126 u127 u128 u129 u130 u131 u132 u133 u134 u135 u136 u137 u138 u139 u140 u141 u142 u143 u144 u145 u146 u147 u148 u149 u150 u151 u152 u153 u154 u155 u156 u157 u158 u159 u160 u161 u162 u163 u164 u165 u166 u167 u168 u169 u170 u171 u172 u173 u174 u175 u176 u177 u178 u179 u180 u181 u182 u183 u184 u185 u186 u187 u188 u189 u190 u191 u192 u193 u194 u195 u196 u197 u198 u199 u200 u201 u202 u203 u204 u205 u206 : Value) (J : Nat → Act → World → Prop) (K K1 : Act → World → Prop) (hlen : al.length ≤ 1000)
    (hv : StepsR (fun _ => True) w (.slice ad al.length cp) al) (hform : ∀ j, j < al.length → ∃ pb po ps, ad = some ⟨pb, po, ps⟩) (hk : gk + j = al.length) (_hjl : j ≤ al.length) (hC : InbCore al w B j s rs u2 wr) (hj : j < al.length) (hsel : al[j].which < 0 ∨ 1 < al[j].which ∨ al[j].what < 0 ∨ 3 < al[j].what)
    (hJ : ∀ (k : Nat) (a' : Act) (w' : World), (∃ u2 u3 u6 u7 u8 u11 u12 u13 u14 u15 u16 u17 u18 u19 u20 u21 u22 u23 u24 u25 u26 u27 u28 u29 u30 u31 u32 u33 u34 u35 u36 u37 u38 u39 u40 u41 u42 u43 u44 u45 u46 u47 u48 u49 u50 u51 u52 u53 u54 u55 u56 u57 u58 u59 u60 u61 u62 u63 u64 u65 u66 u67 u68 u69 u70 u71 u72 u73 u74 u75 u76 u77 u78 u79 u80 u81 u82 u83 u84 u85 u86 u87 u88 u89 u90 u91 u92 u93 u94 u95 u96 u97 u98 u99 u100 u101 u102 u103 u104 u105 u106 u107 u108 u109 u110 u111 u112 u113 u114 u115 u116 u117 u118 u119 u120 u121 u122 u123 u124 u125 u126 u127 u128 u129 u130 u131 u132 u133 u134 u135 u136 u137 u138 u139 u140 u141 u142 u143 u144 u145 u146 u147 u148 u149 u150 u151 u152 u153 u154 u155 u156 u157 u158 u159 u160 u161 u162 u163 u164 u165 u166 u167 u168 u169 u170 u171 u172 u173 u174 u175 u176 u177 u178 u179 u180 u181 u182 u183 u184 u185 u186 u187 u188 u189 u190 u191 u192 u193 u194 u195 u196 u197 u198 u199 u200 u201 u202 u203 u204 u205 u206 : Value, InbRel al w B k u2 u11 w' ∧ a' = ⟨#[.slice ad al.length cp, undef, u2, u3, .pointer (some ⟨B, 0, none⟩), undef, u6, u7, u8, .slice ad al.length cp, .int .i64 al.length, u11, u12, u13, u14, u15, u16, u17, u18, u19, u20, u21, u22, u23, u24, u25, u26, u27, u28, u29, u30, u31, u32, u33, u34, u35, u36, u37, u38, u39, u40, u41, u42, u43, u44, u45, u46, u47, u48, u49, u50, u51, u52, u53, u54, u55, u56, u57, u58, u59, u60, u61, u62, u63, u64, u65, u66, u67, u68, u69, u70, u71, u72, u73, u74, u75, u76, u77, u78, u79, u80, u81, u82, u83, u84, u85, u86, u87, u88, u89, u90, u91, u92, u93, u94, u95, u96, u97, u98, u99, u100, u101, u102, u103, u104, u105, u106, u107, u108, u109, u110, u111, u112, u113, u114, u115, u116, u117, u118, u119, u120, u121, u122, u123, u124, u125, u126, u127, u128, u129, u130, u131, u132, u133, u134, u135, u136, u137, u138, u139, u140, u141, u142, u143, u144, u145, u146, u147, u148, u149, u150, u151, u152, u153, u154, u155, u156, u157, u158, u159, u160, u161, u162, u163, u164, u165, u166, u167, u168, u169, u170, u171, u172, u173, u174, u175, u176, u177, u178, u179, u180, u181, u182, u183, u184, u185, u186, u187, u188, u189, u190, u191, u192, u193, u194, u195, u196, u197, u198, u199, u200, u201, u202, u203, u204, u205, u206, undef], []⟩) → J k a' w') (hK : ∀ (a' : Act) (w' : World), Handed J gk a' w' → K a' w') :
    Code.wp Tryd.prog inbBody (Exit.then K (Exit.inBlock 0 (Exit.then K1 (bodyPost Tryd.prog Tryd.f16 (InbPost al w))))) ⟨#[.slice ad al.length cp, undef, u2, u3, .pointer (some ⟨B, 0, none⟩), undef, u6, u7, u8, .slice ad al.length cp, .int .i64 al.length, .int .i64 j, u12, u13, u14, u15, u16, u17, u18, u19, u20, u21, u22, u23, u24, u25, u26, u27, u28, u29, u30, u31, u32, u33, u34, u35, u36, u37, u38, u39, u40, u41, u42, u43, u44, u45, u46, u47, u48, u49, u50, u51, u52, u53, u54, u55, u56, u57, u58, u59, u60, u61, u62, u63, u64, u65, u66, u67, u68, u69, u70, u71, u72, u73, u74, u75, u76, u77, u78, u79, u80, u81, u82, u83, u84, u85, u86, u87, u88, u89, u90, u91, u92, u93, u94, u95, u96, u97, u98, u99, u100, u101, u102, u103, u104, u105, u106, u107, u108, u109, u110, u111, u112, u113, u114, u115, u116, u117, u118, u119, u120, u121, u122, u123, u124, u125, u126, u127, u128, u129, u130, u131, u132, u133, u134, u135, u136, u137, u138, u139, u140, u141, u142, u143, u144, u145, u146, u147, u148, u149, u150, u151, u152, u153, u154, u155, u156, u157, u158, u159, u160, u161, u162, u163, u164, u165, u166, u167, u168, u169, u170, u171, u172, u173, u174, u175, u176, u177, u178, u179, u180, u181, u182, u183, u184, u185, u186, u187, u188, u189, u190, u191, u192, u193, u194, u195, u196, u197, u198, u199, u200, u201, u202, u203, u204, u205, u206, undef], []⟩ wr := by
  conv => arg 2; whnf
  have hmax : al.length ≤ 9223372036854775807 := by omega
  have HV := Lib.hid hv
  have HF := Lib.hid hform
  clear hv hform
  have hB := hC.hB
  have A := Lib.hid hC
  · obtain ⟨pb, po, ps, rfl⟩ := HF.out j hj
    obtain ⟨rfl, x, ⟨e1, e2, e3, b1, b2, b3, _⟩, r0, r1, r2, r3⟩ := HV.out.at hC.same hj
    have hcl := World.block_lt_of_cell? _ _ r0
    simp only at hcl
    have hbl := hC.blk.lt
    have nB0 : ¬ B = wr.heap.size := by omega
    have nB1 : ¬ B = wr.heap.size + 1 := by omega
    have nB2 : ¬ B = wr.heap.size + 2 := by omega
    have np0 : ¬ pb = wr.heap.size := by omega
    have np1 : ¬ pb = wr.heap.size + 1 := by omega
    have c0 : wr.cell? ⟨B, 0, none⟩ = some (.int .i64 s.a0) := hC.blk.cell 0
    have c1 : wr.cell? ⟨B, 1, none⟩ = some (.int .i64 s.u0) := hC.blk.cell 1
    have c2 : wr.cell? ⟨B, 2, none⟩ = some (.int .i64 s.a1) := hC.blk.cell 2
    have c3 : wr.cell? ⟨B, 3, none⟩ = some (.int .i64 s.u1) := hC.blk.cell 3
    have f0 : wr.frozen? ⟨B, 0, none⟩ = false := hC.blk.free 0
    have f1 : wr.frozen? ⟨B, 1, none⟩ = false := hC.blk.free 1
    have f2 : wr.frozen? ⟨B, 2, none⟩ = false := hC.blk.free 2
    have f3 : wr.frozen? ⟨B, 3, none⟩ = false := hC.blk.free 3
    have g0 : ∀ o o', ((wr.alloc o).alloc o').cell? ⟨B, 0, none⟩ = some (.int .i64 s.a0) := fun o o' => ((hC.blk.alloc o).alloc o').cell 0
    have k0 : ∀ o o', ((wr.alloc o).alloc o').frozen? ⟨B, 0, none⟩ = false := fun o o' => ((hC.blk.alloc o).alloc o').free 0
    have g1 : ∀ o o', ((wr.alloc o).alloc o').cell? ⟨B, 1, none⟩ = some (.int .i64 s.u0) := fun o o' => ((hC.blk.alloc o).alloc o').cell 1
    have k1 : ∀ o o', ((wr.alloc o).alloc o').frozen? ⟨B, 1, none⟩ = false := fun o o' => ((hC.blk.alloc o).alloc o').free 1
    have g2 : ∀ o o', ((wr.alloc o).alloc o').cell? ⟨B, 2, none⟩ = some (.int .i64 s.a1) := fun o o' => ((hC.blk.alloc o).alloc o').cell 2
    have k2 : ∀ o o', ((wr.alloc o).alloc o').frozen? ⟨B, 2, none⟩ = false := fun o o' => ((hC.blk.alloc o).alloc o').free 2
    have g3 : ∀ o o', ((wr.alloc o).alloc o').cell? ⟨B, 3, none⟩ = some (.int .i64 s.u1) := fun o o' => ((hC.blk.alloc o).alloc o').cell 3
    have k3 : ∀ o o', ((wr.alloc o).alloc o').frozen? ⟨B, 3, none⟩ = false := fun o o' => ((hC.blk.alloc o).alloc o').free 3
    obtain ⟨w0, w1, w2, w3, w4, w5⟩ := hC.win
    rw [e1] at r0
    rw [e2] at r1
    rw [e3] at r2
    have N := Lib.hid (fun r s' W w2 v1 => InbCore.next (al := al) (w := w) (wr := wr) (W := W) (w2 := w2) (v1 := v1) (B := B) (j := j) (s := s) (s' := s') (rs := rs) (v := u2) (r := r) hC hj)
    have D := Lib.hid (fun W w2 v1 => InbCore.die (al := al) (w := w) (wr := wr) (W := W) (w2 := w2) (v1 := v1) (B := B) (j := j) (s := s) (rs := rs) (v := u2) hC hj)
    generalize al[j] = a at hsel r0 r1 r2 e1 e2 e3 b1 b2 b3 N D
    clear hC e1 e2 e3 HF HV
    have HB := Lib.hid hB
    clear hB
    have lt1 := Lib.hid A.out.own.lt
    have b3l : -9223372036854775808 ≤ a.n := b3.1
    have b3h : a.n ≤ 9223372036854775807 := b3.2
    clear b1 b2 b3 hbl hcl
    rcases (show a.which < 0 ∨ 1 < a.which ∨ a.which = 0 ∨ a.which = 1 by omega) with hx | hx | hx | hx
    · obtain ⟨i0, hi, hz0, hz1, hz2⟩ := info_parts info61
      go_wp2_with (at_builtin; refine wpList_append_own2 _ rfl _ _ 36 rfl (B + 1) 61 i0 (.agg #[.int .i64 0, .bool false, .slice none 0 0, .bool false]) 4 48 Tryd.underlying36 hi hz0 hz1 hz2 rfl (by decide) _ j (rs.map ResA.cells).flatten rfl ?own _ 1 1 (ResA.cells ⟨0, false, [], false⟩) rfl rfl ?c1 ?c2 ?c3 ?c4 ?c5 ?_)
      case own => exact ownsRow_same A.out.own (F := fun k => k = B) (by (repeat (first | (with_reducible exact Same.refl _ _) | (with_reducible apply Same.drewN) | (with_reducible apply Same.drew) | (with_reducible apply Same.alloc) | (with_reducible apply Same.set') | (intro h; first | exact rfl | omega | (exfalso; simp at h <;> omega))))) (fun g hg h => by have := lt1.out g hg; omega)
      case c1 => first | exact cells_at (by first | rfl | simp [] | simp) (by first | rfl | (simp [ResA.cells]; omega)) | (intro j u hu; refine Eq.trans (congrArg (fun l : List Value => l[j]?) ?_) hu; first | rfl | (simp [ResA.cells]; omega))
      case c2 => exact resA_one _
      case c3 => unfold maxLen; omega
      case c4 => omega
      case c5 => have := A.out.blk.lt; first | omega | (simp []; omega) | (simp; omega)
      intro v1 w2 hown1 hgrow1 _
      have C1 := Lib.hid (And.intro hown1 hgrow1)
      clear hown1 hgrow1
      go_wp2
      go_roundg (gk - 1)
      case measure => omega
      case rel => exact ⟨j + 1, s, rs ++ [⟨0, false, [], false⟩], by omega, rfl, by omega, N.out ⟨0, false, [], false⟩ s _ _ _ (StpIn.whichlo hx) rfl rfl ⟨by first | omega | (simp only; omega), by first | omega | (simp only; omega)⟩ ⟨by first | omega | (simp only; omega), by first | omega | (simp only; omega), by first | omega | (simp only; omega), by first | omega | (simp only; omega), by first | omega | (simp only; omega), by first | omega | (simp only; omega)⟩ (by (repeat (first | (with_reducible exact A.out.blk) | (with_reducible apply Blk.drewN) | (with_reducible apply Blk.drew) | (with_reducible apply Blk.alloc) | (with_reducible apply Blk.other' (hp := nB0)) | (with_reducible apply Blk.other' (hp := nB1)) | (with_reducible apply Blk.set') | (exact rfl)))) (by (repeat (first | (with_reducible exact Same.refl _ _) | (with_reducible apply Same.drewN) | (with_reducible apply Same.drew) | (with_reducible apply Same.alloc) | (with_reducible apply Same.set') | (intro h; first | exact rfl | omega | (exfalso; simp at h <;> omega))))) C1.out.1 C1.out.2⟩
    · obtain ⟨i0, hi, hz0, hz1, hz2⟩ := info_parts info61
      go_wp2_with (at_builtin; refine wpList_append_own2 _ rfl _ _ 36 rfl (B + 1) 61 i0 (.agg #[.int .i64 0, .bool false, .slice none 0 0, .bool false]) 4 48 Tryd.underlying36 hi hz0 hz1 hz2 rfl (by decide) _ j (rs.map ResA.cells).flatten rfl ?own _ 1 1 (ResA.cells ⟨0, false, [], false⟩) rfl rfl ?c1 ?c2 ?c3 ?c4 ?c5 ?_)
      case own => exact ownsRow_same A.out.own (F := fun k => k = B) (by (repeat (first | (with_reducible exact Same.refl _ _) | (with_reducible apply Same.drewN) | (with_reducible apply Same.drew) | (with_reducible apply Same.alloc) | (with_reducible apply Same.set') | (intro h; first | exact rfl | omega | (exfalso; simp at h <;> omega))))) (fun g hg h => by have := lt1.out g hg; omega)
      case c1 => first | exact cells_at (by first | rfl | simp [] | simp) (by first | rfl | (simp [ResA.cells]; omega)) | (intro j u hu; refine Eq.trans (congrArg (fun l : List Value => l[j]?) ?_) hu; first | rfl | (simp [ResA.cells]; omega))
      case c2 => exact resA_one _
      case c3 => unfold maxLen; omega
      case c4 => omega
      case c5 => have := A.out.blk.lt; first | omega | (simp []; omega) | (simp; omega)
      intro v1 w2 hown1 hgrow1 _
      have C1 := Lib.hid (And.intro hown1 hgrow1)
      clear hown1 hgrow1
      go_wp2
      go_roundg (gk - 1)
      case measure => omega
      case rel => exact ⟨j + 1, s, rs ++ [⟨0, false, [], false⟩], by omega, rfl, by omega, N.out ⟨0, false, [], false⟩ s _ _ _ (StpIn.whichhi hx) rfl rfl ⟨by first | omega | (simp only; omega), by first | omega | (simp only; omega)⟩ ⟨by first | omega | (simp only; omega), by first | omega | (simp only; omega), by first | omega | (simp only; omega), by first | omega | (simp only; omega), by first | omega | (simp only; omega), by first | omega | (simp only; omega)⟩ (by (repeat (first | (with_reducible exact A.out.blk) | (with_reducible apply Blk.drewN) | (with_reducible apply Blk.drew) | (with_reducible apply Blk.alloc) | (with_reducible apply Blk.other' (hp := nB0)) | (with_reducible apply Blk.other' (hp := nB1)) | (with_reducible apply Blk.set') | (exact rfl)))) (by (repeat (first | (with_reducible exact Same.refl _ _) | (with_reducible apply Same.drewN) | (with_reducible apply Same.drew) | (with_reducible apply Same.alloc) | (with_reducible apply Same.set') | (intro h; first | exact rfl | omega | (exfalso; simp at h <;> omega))))) C1.out.1 C1.out.2⟩
    · rw [hx] at r1
      rcases (show a.what < 0 ∨ 3 < a.what ∨ a.what = 0 ∨ a.what = 1 ∨ a.what = 2 ∨ a.what = 3 by omega) with h1 | h1 | h1 | h1 | h1 | h1
      · obtain ⟨i0, hi, hz0, hz1, hz2⟩ := info_parts info61
        go_wp2_with (at_builtin; refine wpList_append_own2 _ rfl _ _ 36 rfl (B + 1) 61 i0 (.agg #[.int .i64 0, .bool false, .slice none 0 0, .bool false]) 4 48 Tryd.underlying36 hi hz0 hz1 hz2 rfl (by decide) _ j (rs.map ResA.cells).flatten rfl ?own _ 1 1 (ResA.cells ⟨0, false, [], false⟩) rfl rfl ?c1 ?c2 ?c3 ?c4 ?c5 ?_)
        case own => exact ownsRow_same A.out.own (F := fun k => k = B) (by (repeat (first | (with_reducible exact Same.refl _ _) | (with_reducible apply Same.drewN) | (with_reducible apply Same.drew) | (with_reducible apply Same.alloc) | (with_reducible apply Same.set') | (intro h; first | exact rfl | omega | (exfalso; simp at h <;> omega))))) (fun g hg h => by have := lt1.out g hg; omega)
        case c1 => first | exact cells_at (by first | rfl | simp [] | simp) (by first | rfl | (simp [ResA.cells]; omega)) | (intro j u hu; refine Eq.trans (congrArg (fun l : List Value => l[j]?) ?_) hu; first | rfl | (simp [ResA.cells]; omega))
        case c2 => exact resA_one _
        case c3 => unfold maxLen; omega
        case c4 => omega
        case c5 => have := A.out.blk.lt; first | omega | (simp []; omega) | (simp; omega)
        intro v1 w2 hown1 hgrow1 _
        have C1 := Lib.hid (And.intro hown1 hgrow1)
        clear hown1 hgrow1
        go_wp2
        go_roundg (gk - 1)
        case measure => omega
        case rel => exact ⟨j + 1, s, rs ++ [⟨0, false, [], false⟩], by omega, rfl, by omega, N.out ⟨0, false, [], false⟩ s _ _ _ (StpIn.whatlo (by omega) (by omega) h1) rfl rfl ⟨by first | omega | (simp only; omega), by first | omega | (simp only; omega)⟩ ⟨by first | omega | (simp only; omega), by first | omega | (simp only; omega), by first | omega | (simp only; omega), by first | omega | (simp only; omega), by first | omega | (simp only; omega), by first | omega | (simp only; omega)⟩ (by (repeat (first | (with_reducible exact A.out.blk) | (with_reducible apply Blk.drewN) | (with_reducible apply Blk.drew) | (with_reducible apply Blk.alloc) | (with_reducible apply Blk.other' (hp := nB0)) | (with_reducible apply Blk.other' (hp := nB1)) | (with_reducible apply Blk.set') | (exact rfl)))) (by (repeat (first | (with_reducible exact Same.refl _ _) | (with_reducible apply Same.drewN) | (with_reducible apply Same.drew) | (with_reducible apply Same.alloc) | (with_reducible apply Same.set') | (intro h; first | exact rfl | omega | (exfalso; simp at h <;> omega))))) C1.out.1 C1.out.2⟩
      · obtain ⟨i0, hi, hz0, hz1, hz2⟩ := info_parts info61
        go_wp2_with (at_builtin; refine wpList_append_own2 _ rfl _ _ 36 rfl (B + 1) 61 i0 (.agg #[.int .i64 0, .bool false, .slice none 0 0, .bool false]) 4 48 Tryd.underlying36 hi hz0 hz1 hz2 rfl (by decide) _ j (rs.map ResA.cells).flatten rfl ?own _ 1 1 (ResA.cells ⟨0, false, [], false⟩) rfl rfl ?c1 ?c2 ?c3 ?c4 ?c5 ?_)
        case own => exact ownsRow_same A.out.own (F := fun k => k = B) (by (repeat (first | (with_reducible exact Same.refl _ _) | (with_reducible apply Same.drewN) | (with_reducible apply Same.drew) | (with_reducible apply Same.alloc) | (with_reducible apply Same.set') | (intro h; first | exact rfl | omega | (exfalso; simp at h <;> omega))))) (fun g hg h => by have := lt1.out g hg; omega)
        case c1 => first | exact cells_at (by first | rfl | simp [] | simp) (by first | rfl | (simp [ResA.cells]; omega)) | (intro j u hu; refine Eq.trans (congrArg (fun l : List Value => l[j]?) ?_) hu; first | rfl | (simp [ResA.cells]; omega))
        case c2 => exact resA_one _
        case c3 => unfold maxLen; omega
        case c4 => omega
        case c5 => have := A.out.blk.lt; first | omega | (simp []; omega) | (simp; omega)
        intro v1 w2 hown1 hgrow1 _
        have C1 := Lib.hid (And.intro hown1 hgrow1)
        clear hown1 hgrow1
        go_wp2
        go_roundg (gk - 1)
        case measure => omega
        case rel => exact ⟨j + 1, s, rs ++ [⟨0, false, [], false⟩], by omega, rfl, by omega, N.out ⟨0, false, [], false⟩ s _ _ _ (StpIn.whathi (by omega) (by omega) h1) rfl rfl ⟨by first | omega | (simp only; omega), by first | omega | (simp only; omega)⟩ ⟨by first | omega | (simp only; omega), by first | omega | (simp only; omega), by first | omega | (simp only; omega), by first | omega | (simp only; omega), by first | omega | (simp only; omega), by first | omega | (simp only; omega)⟩ (by (repeat (first | (with_reducible exact A.out.blk) | (with_reducible apply Blk.drewN) | (with_reducible apply Blk.drew) | (with_reducible apply Blk.alloc) | (with_reducible apply Blk.other' (hp := nB0)) | (with_reducible apply Blk.other' (hp := nB1)) | (with_reducible apply Blk.set') | (exact rfl)))) (by (repeat (first | (with_reducible exact Same.refl _ _) | (with_reducible apply Same.drewN) | (with_reducible apply Same.drew) | (with_reducible apply Same.alloc) | (with_reducible apply Same.set') | (intro h; first | exact rfl | omega | (exfalso; simp at h <;> omega))))) C1.out.1 C1.out.2⟩
      · rw [h1] at r0
        by_cases hbig : 2147483647 < a.n
        · (exfalso; omega)
        by_cases h_neg : a.n < 0
        · (exfalso; omega)
        by_cases h_u : ¬ s.u0 = 0
        · (exfalso; omega)
        (exfalso; omega)
      · rw [h1] at r0
        by_cases hbig : 2147483647 < a.n
        · (exfalso; omega)
        by_cases h_low : a.n < -2147483647
        · (exfalso; omega)
        by_cases h_neg : a.n < 0
        · (exfalso; omega)
        have y0 : IntKind.i64.wrap (s.a0 + s.u0) = s.a0 + s.u0 := IntWalk.i64_in _ (by omega)
        have y1 : IntKind.i64.wrap (s.a0 + s.u0 + a.n) = s.a0 + s.u0 + a.n := IntWalk.i64_in _ (by omega)
        have y2 : IntKind.i64.wrap (s.u0 + a.n) = s.u0 + a.n := IntWalk.i64_in _ (by omega)
        have y3 : IntKind.i64.wrap (s.a0 + (s.u0 + a.n)) = s.a0 + (s.u0 + a.n) := IntWalk.i64_in _ (by omega)
        by_cases h_over : 2147483647 < s.a0 + s.u0 + a.n
        · (exfalso; omega)
        by_cases h_flushA : 4096 ≤ s.u0 + a.n
        · (exfalso; omega)
        by_cases h_flushB : s.a0 ≤ s.u0 + a.n
        · (exfalso; omega)
        (exfalso; omega)
      · rw [h1] at r0
        by_cases hbig : 2147483647 < a.n
        · (exfalso; omega)
        by_cases h_neg : a.n < 0
        · (exfalso; omega)
        have y0 : IntKind.i64.wrap (s.a0 - a.n) = s.a0 - a.n := IntWalk.i64_in _ (by omega)
        by_cases h_no : s.a0 < a.n
        · (exfalso; omega)
        (exfalso; omega)
      · rw [h1] at r0
        by_cases hbig : 2147483647 < a.n
        · (exfalso; omega)
        by_cases h_neg : a.n < 0
        · (exfalso; omega)
        by_cases h_no0 : s.a0 < a.n
        · (exfalso; omega)
        by_cases h_no1 : s.a1 < a.n
        · (exfalso; omega)
        (exfalso; omega)
    · rw [hx] at r1
      rcases (show a.what < 0 ∨ 3 < a.what ∨ a.what = 0 ∨ a.what = 1 ∨ a.what = 2 ∨ a.what = 3 by omega) with h1 | h1 | h1 | h1 | h1 | h1
      · obtain ⟨i0, hi, hz0, hz1, hz2⟩ := info_parts info61
        go_wp2_with (at_builtin; refine wpList_append_own2 _ rfl _ _ 36 rfl (B + 1) 61 i0 (.agg #[.int .i64 0, .bool false, .slice none 0 0, .bool false]) 4 48 Tryd.underlying36 hi hz0 hz1 hz2 rfl (by decide) _ j (rs.map ResA.cells).flatten rfl ?own _ 1 1 (ResA.cells ⟨0, false, [], false⟩) rfl rfl ?c1 ?c2 ?c3 ?c4 ?c5 ?_)
        case own => exact ownsRow_same A.out.own (F := fun k => k = B) (by (repeat (first | (with_reducible exact Same.refl _ _) | (with_reducible apply Same.drewN) | (with_reducible apply Same.drew) | (with_reducible apply Same.alloc) | (with_reducible apply Same.set') | (intro h; first | exact rfl | omega | (exfalso; simp at h <;> omega))))) (fun g hg h => by have := lt1.out g hg; omega)
        case c1 => first | exact cells_at (by first | rfl | simp [] | simp) (by first | rfl | (simp [ResA.cells]; omega)) | (intro j u hu; refine Eq.trans (congrArg (fun l : List Value => l[j]?) ?_) hu; first | rfl | (simp [ResA.cells]; omega))
        case c2 => exact resA_one _
        case c3 => unfold maxLen; omega
        case c4 => omega
        case c5 => have := A.out.blk.lt; first | omega | (simp []; omega) | (simp; omega)
        intro v1 w2 hown1 hgrow1 _
        have C1 := Lib.hid (And.intro hown1 hgrow1)
        clear hown1 hgrow1
        go_wp2
        go_roundg (gk - 1)
        case measure => omega
        case rel => exact ⟨j + 1, s, rs ++ [⟨0, false, [], false⟩], by omega, rfl, by omega, N.out ⟨0, false, [], false⟩ s _ _ _ (StpIn.whatlo (by omega) (by omega) h1) rfl rfl ⟨by first | omega | (simp only; omega), by first | omega | (simp only; omega)⟩ ⟨by first | omega | (simp only; omega), by first | omega | (simp only; omega), by first | omega | (simp only; omega), by first | omega | (simp only; omega), by first | omega | (simp only; omega), by first | omega | (simp only; omega)⟩ (by (repeat (first | (with_reducible exact A.out.blk) | (with_reducible apply Blk.drewN) | (with_reducible apply Blk.drew) | (with_reducible apply Blk.alloc) | (with_reducible apply Blk.other' (hp := nB0)) | (with_reducible apply Blk.other' (hp := nB1)) | (with_reducible apply Blk.set') | (exact rfl)))) (by (repeat (first | (with_reducible exact Same.refl _ _) | (with_reducible apply Same.drewN) | (with_reducible apply Same.drew) | (with_reducible apply Same.alloc) | (with_reducible apply Same.set') | (intro h; first | exact rfl | omega | (exfalso; simp at h <;> omega))))) C1.out.1 C1.out.2⟩
      · obtain ⟨i0, hi, hz0, hz1, hz2⟩ := info_parts info61
        go_wp2_with (at_builtin; refine wpList_append_own2 _ rfl _ _ 36 rfl (B + 1) 61 i0 (.agg #[.int .i64 0, .bool false, .slice none 0 0, .bool false]) 4 48 Tryd.underlying36 hi hz0 hz1 hz2 rfl (by decide) _ j (rs.map ResA.cells).flatten rfl ?own _ 1 1 (ResA.cells ⟨0, false, [], false⟩) rfl rfl ?c1 ?c2 ?c3 ?c4 ?c5 ?_)
        case own => exact ownsRow_same A.out.own (F := fun k => k = B) (by (repeat (first | (with_reducible exact Same.refl _ _) | (with_reducible apply Same.drewN) | (with_reducible apply Same.drew) | (with_reducible apply Same.alloc) | (with_reducible apply Same.set') | (intro h; first | exact rfl | omega | (exfalso; simp at h <;> omega))))) (fun g hg h => by have := lt1.out g hg; omega)
        case c1 => first | exact cells_at (by first | rfl | simp [] | simp) (by first | rfl | (simp [ResA.cells]; omega)) | (intro j u hu; refine Eq.trans (congrArg (fun l : List Value => l[j]?) ?_) hu; first | rfl | (simp [ResA.cells]; omega))
        case c2 => exact resA_one _
        case c3 => unfold maxLen; omega
        case c4 => omega
        case c5 => have := A.out.blk.lt; first | omega | (simp []; omega) | (simp; omega)
        intro v1 w2 hown1 hgrow1 _
        have C1 := Lib.hid (And.intro hown1 hgrow1)
        clear hown1 hgrow1
        go_wp2
        go_roundg (gk - 1)
        case measure => omega
        case rel => exact ⟨j + 1, s, rs ++ [⟨0, false, [], false⟩], by omega, rfl, by omega, N.out ⟨0, false, [], false⟩ s _ _ _ (StpIn.whathi (by omega) (by omega) h1) rfl rfl ⟨by first | omega | (simp only; omega), by first | omega | (simp only; omega)⟩ ⟨by first | omega | (simp only; omega), by first | omega | (simp only; omega), by first | omega | (simp only; omega), by first | omega | (simp only; omega), by first | omega | (simp only; omega), by first | omega | (simp only; omega)⟩ (by (repeat (first | (with_reducible exact A.out.blk) | (with_reducible apply Blk.drewN) | (with_reducible apply Blk.drew) | (with_reducible apply Blk.alloc) | (with_reducible apply Blk.other' (hp := nB0)) | (with_reducible apply Blk.other' (hp := nB1)) | (with_reducible apply Blk.set') | (exact rfl)))) (by (repeat (first | (with_reducible exact Same.refl _ _) | (with_reducible apply Same.drewN) | (with_reducible apply Same.drew) | (with_reducible apply Same.alloc) | (with_reducible apply Same.set') | (intro h; first | exact rfl | omega | (exfalso; simp at h <;> omega))))) C1.out.1 C1.out.2⟩
      · rw [h1] at r0
        by_cases hbig : 2147483647 < a.n
        · (exfalso; omega)
        by_cases h_neg : a.n < 0
        · (exfalso; omega)
        by_cases h_u : ¬ s.u1 = 0
        · (exfalso; omega)
        (exfalso; omega)
      · rw [h1] at r0
        by_cases hbig : 2147483647 < a.n
        · (exfalso; omega)
        by_cases h_low : a.n < -2147483647
        · (exfalso; omega)
        by_cases h_neg : a.n < 0
        · (exfalso; omega)
        have y0 : IntKind.i64.wrap (s.a1 + s.u1) = s.a1 + s.u1 := IntWalk.i64_in _ (by omega)
        have y1 : IntKind.i64.wrap (s.a1 + s.u1 + a.n) = s.a1 + s.u1 + a.n := IntWalk.i64_in _ (by omega)
        have y2 : IntKind.i64.wrap (s.u1 + a.n) = s.u1 + a.n := IntWalk.i64_in _ (by omega)
        have y3 : IntKind.i64.wrap (s.a1 + (s.u1 + a.n)) = s.a1 + (s.u1 + a.n) := IntWalk.i64_in _ (by omega)
        by_cases h_over : 2147483647 < s.a1 + s.u1 + a.n
        · (exfalso; omega)
        by_cases h_flushA : 4096 ≤ s.u1 + a.n
        · (exfalso; omega)
        by_cases h_flushB : s.a1 ≤ s.u1 + a.n
        · (exfalso; omega)
        (exfalso; omega)
      · rw [h1] at r0
        by_cases hbig : 2147483647 < a.n
        · (exfalso; omega)
        by_cases h_neg : a.n < 0
        · (exfalso; omega)
        have y0 : IntKind.i64.wrap (s.a1 - a.n) = s.a1 - a.n := IntWalk.i64_in _ (by omega)
        by_cases h_no : s.a1 < a.n
        · (exfalso; omega)
        (exfalso; omega)
      · rw [h1] at r0
        by_cases hbig : 2147483647 < a.n
        · (exfalso; omega)
        by_cases h_neg : a.n < 0
        · (exfalso; omega)
        by_cases h_no0 : s.a0 < a.n
        · (exfalso; omega)
        by_cases h_no1 : s.a1 < a.n
        · (exfalso; omega)
        (exfalso; omega)

theorem inb_d0 (w : World) (al : List StepA) (B j gk : Nat) (s : InS) (rs : List ResA) (ad : Option Addr) (cp : Nat) (wr : World) (u2 u3 u6 u7 u8 u12 u13 u14 u15 u16 u17 u18 u19 u20 u21 u22 u23 u24 u25 u26 u27 u28 u29 u30 u31 u32 u33 u34 u35 u36 u37 u38 u39 u40 u41 u42 u43 u44 u45 u46 u47 u48 u49 u50 u51 u52 u53 u54 u55 u56 u57 u58 u59 u60 u61 u62 u63 u64 u65 u66 u67 u68 u69 u70 u71 u72 u73 u74 u75 u76 u77 u78 u79 u80 u81 u82 u83 u84 u85 u86 u87 u88 u89 u90 u91 u92 u93 u94 u95 u96 u97 u98 u99 u100 u101 u102 u103 u104 u105 u106 u107 u108 u109 u110 u111 u112 u113 u114 u115 u116 u117 u118 u119 u120 u121 u122 u123 u124 u125 u126 u127 u128 u129 u130 u131 u132 u133 u134 u135 u136 u137 u138 u139 u140 u141 u142 u143 u144 u145 u146 u147 u148 u149 u150 u151 u152 u153 u154 u155 u156 u157 u158 u159 u160 u161 u162 u163 u164 u165 u166 u167 u168 u169 u170 u171 u172 u173 u174 u175 u176 u177 u178 u179 u180 u181 u182 u183 u184 u185 u186 u187 u188 u189 u190 u191 u192 u193 u194 u195 u196 u197 u198 u199 u200 u201 u202 u203 u204 u205 u206 : Value) (J : Nat → Act → World → Prop) (K K1 : Act → World → Prop) (hlen : al.length ≤ 1000)
    (hv : StepsR (fun _ => True) w (.slice ad al.length cp) al) (hform : ∀ j, j < al.length → ∃ pb po ps, ad = some ⟨pb, po, ps⟩) (hk : gk + j = al.length) (_hjl : j ≤ al.length) (hC : InbCore al w B j s rs u2 wr) (hj : j < al.length) (hsel : al[j].which = 0 ∧ al[j].what = 3)
    (hJ : ∀ (k : Nat) (a' : Act) (w' : World), (∃ u2 u3 u6 u7 u8 u11 u12 u13 u14 u15 u16 u17 u18 u19 u20 u21 u22 u23 u24 u25 u26 u27 u28 u29 u30 u31 u32 u33 u34 u35 u36 u37 u38 u39 u40 u41 u42 u43 u44 u45 u46 u47 u48 u49 u50 u51 u52 u53 u54 u55 u56 u57 u58 u59 u60 u61 u62 u63 u64 u65 u66 u67 u68 u69 u70 u71 u72 u73 u74 u75 u76 u77 u78 u79 u80 u81 u82 u83 u84 u85 u86 u87 u88 u89 u90 u91 u92 u93 u94 u95 u96 u97 u98 u99 u100 u101 u102 u103 u104 u105 u106 u107 u108 u109 u110 u111 u112 u113 u114 u115 u116 u117 u118 u119 u120 u121 u122 u123 u124 u125 u126 u127 u128 u129 u130 u131 u132 u133 u134 u135 u136 u137 u138 u139 u140 u141 u142 u143 u144 u145 u146 u147 u148 u149 u150 u151 u152 u153 u154 u155 u156 u157 u158 u159 u160 u161 u162 u163 u164 u165 u166 u167 u168 u169 u170 u171 u172 u173 u174 u175 u176 u177 u178 u179 u180 u181 u182 u183 u184 u185 u186 u187 u188 u189 u190 u191 u192 u193 u194 u195 u196 u197 u198 u199 u200 u201 u202 u203 u204 u205 u206 : Value, InbRel al w B k u2 u11 w' ∧ a' = ⟨#[.slice ad al.length cp, undef, u2, u3, .pointer (some ⟨B, 0, none⟩), undef, u6, u7, u8, .slice ad al.length cp, .int .i64 al.length, u11, u12, u13, u14, u15, u16, u17, u18, u19, u20, u21, u22, u23, u24, u25, u26, u27, u28, u29, u30, u31, u32, u33, u34, u35, u36, u37, u38, u39, u40, u41, u42, u43, u44, u45, u46, u47, u48, u49, u50, u51, u52, u53, u54, u55, u56, u57, u58, u59, u60, u61, u62, u63, u64, u65, u66, u67, u68, u69, u70, u71, u72, u73, u74, u75, u76, u77, u78, u79, u80, u81, u82, u83, u84, u85, u86, u87, u88, u89, u90, u91, u92, u93, u94, u95, u96, u97, u98, u99, u100, u101, u102, u103, u104, u105, u106, u107, u108, u109, u110, u111, u112, u113, u114, u115, u116, u117, u118, u119, u120, u121, u122, u123, u124, u125, u126, u127, u128, u129, u130, u131, u132, u133, u134, u135, u136, u137, u138, u139, u140, u141, u142, u143, u144, u145, u146, u147, u148, u149, u150, u151, u152, u153, u154, u155, u156, u157, u158, u159, u160, u161, u162, u163, u164, u165, u166, u167, u168, u169, u170, u171, u172, u173, u174, u175, u176, u177, u178, u179, u180, u181, u182, u183, u184, u185, u186, u187, u188, u189, u190, u191, u192, u193, u194, u195, u196, u197, u198, u199, u200, u201, u202, u203, u204, u205, u206, undef], []⟩) → J k a' w') (hK : ∀ (a' : Act) (w' : World), Handed J gk a' w' → K a' w') :
    Code.wp Tryd.prog inbBody (Exit.then K (Exit.inBlock 0 (Exit.then K1 (bodyPost Tryd.prog Tryd.f16 (InbPost al w))))) ⟨#[.slice ad al.length cp, undef, u2, u3, .pointer (some ⟨B, 0, none⟩), undef, u6, u7, u8, .slice ad al.length cp, .int .i64 al.length, .int .i64 j, u12, u13, u14, u15, u16, u17, u18, u19, u20, u21, u22, u23, u24, u25, u26, u27, u28, u29, u30, u31, u32, u33, u34, u35, u36, u37, u38, u39, u40, u41, u42, u43, u44, u45, u46, u47, u48, u49, u50, u51, u52, u53, u54, u55, u56, u57, u58, u59, u60, u61, u62, u63, u64, u65, u66, u67, u68, u69, u70, u71, u72, u73, u74, u75, u76, u77, u78, u79, u80, u81, u82, u83, u84, u85, u86, u87, u88, u89, u90, u91, u92, u93, u94, u95, u96, u97, u98, u99, u100, u101, u102, u103, u104, u105, u106, u107, u108, u109, u110, u111, u112, u113, u114, u115, u116, u117, u118, u119, u120, u121, u122, u123, u124, u125, u126, u127, u128, u129, u130, u131, u132, u133, u134, u135, u136, u137, u138, u139, u140, u141, u142, u143, u144, u145, u146, u147, u148, u149, u150, u151, u152, u153, u154, u155, u156, u157, u158, u159, u160, u161, u162, u163, u164, u165, u166, u167, u168, u169, u170, u171, u172, u173, u174, u175, u176, u177, u178, u179, u180, u181, u182, u183, u184, u185, u186, u187, u188, u189, u190, u191, u192, u193, u194, u195, u196, u197, u198, u199, u200, u201, u202, u203, u204, u205, u206, undef], []⟩ wr := by
  conv => arg 2; whnf
  have hmax : al.length ≤ 9223372036854775807 := by omega
  have HV := Lib.hid hv
  have HF := Lib.hid hform
  clear hv hform
  have hB := hC.hB
  have A := Lib.hid hC
  · obtain ⟨pb, po, ps, rfl⟩ := HF.out j hj
    obtain ⟨rfl, x, ⟨e1, e2, e3, b1, b2, b3, _⟩, r0, r1, r2, r3⟩ := HV.out.at hC.same hj
    have hcl := World.block_lt_of_cell? _ _ r0
    simp only at hcl
    have hbl := hC.blk.lt
    have nB0 : ¬ B = wr.heap.size := by omega
    have nB1 : ¬ B = wr.heap.size + 1 := by omega
    have nB2 : ¬ B = wr.heap.size + 2 := by omega
    have np0 : ¬ pb = wr.heap.size := by omega
    have np1 : ¬ pb = wr.heap.size + 1 := by omega
    have c0 : wr.cell? ⟨B, 0, none⟩ = some (.int .i64 s.a0) := hC.blk.cell 0
    have c1 : wr.cell? ⟨B, 1, none⟩ = some (.int .i64 s.u0) := hC.blk.cell 1
    have c2 : wr.cell? ⟨B, 2, none⟩ = some (.int .i64 s.a1) := hC.blk.cell 2
    have c3 : wr.cell? ⟨B, 3, none⟩ = some (.int .i64 s.u1) := hC.blk.cell 3
    have f0 : wr.frozen? ⟨B, 0, none⟩ = false := hC.blk.free 0
    have f1 : wr.frozen? ⟨B, 1, none⟩ = false := hC.blk.free 1
    have f2 : wr.frozen? ⟨B, 2, none⟩ = false := hC.blk.free 2
    have f3 : wr.frozen? ⟨B, 3, none⟩ = false := hC.blk.free 3
    have g0 : ∀ o o', ((wr.alloc o).alloc o').cell? ⟨B, 0, none⟩ = some (.int .i64 s.a0) := fun o o' => ((hC.blk.alloc o).alloc o').cell 0
    have k0 : ∀ o o', ((wr.alloc o).alloc o').frozen? ⟨B, 0, none⟩ = false := fun o o' => ((hC.blk.alloc o).alloc o').free 0
    have g1 : ∀ o o', ((wr.alloc o).alloc o').cell? ⟨B, 1, none⟩ = some (.int .i64 s.u0) := fun o o' => ((hC.blk.alloc o).alloc o').cell 1
    have k1 : ∀ o o', ((wr.alloc o).alloc o').frozen? ⟨B, 1, none⟩ = false := fun o o' => ((hC.blk.alloc o).alloc o').free 1
    have g2 : ∀ o o', ((wr.alloc o).alloc o').cell? ⟨B, 2, none⟩ = some (.int .i64 s.a1) := fun o o' => ((hC.blk.alloc o).alloc o').cell 2
    have k2 : ∀ o o', ((wr.alloc o).alloc o').frozen? ⟨B, 2, none⟩ = false := fun o o' => ((hC.blk.alloc o).alloc o').free 2
    have g3 : ∀ o o', ((wr.alloc o).alloc o').cell? ⟨B, 3, none⟩ = some (.int .i64 s.u1) := fun o o' => ((hC.blk.alloc o).alloc o').cell 3
    have k3 : ∀ o o', ((wr.alloc o).alloc o').frozen? ⟨B, 3, none⟩ = false := fun o o' => ((hC.blk.alloc o).alloc o').free 3
    obtain ⟨w0, w1, w2, w3, w4, w5⟩ := hC.win
    rw [e1] at r0
    rw [e2] at r1
    rw [e3] at r2
    have N := Lib.hid (fun r s' W w2 v1 => InbCore.next (al := al) (w := w) (wr := wr) (W := W) (w2 := w2) (v1 := v1) (B := B) (j := j) (s := s) (s' := s') (rs := rs) (v := u2) (r := r) hC hj)
    have D := Lib.hid (fun W w2 v1 => InbCore.die (al := al) (w := w) (wr := wr) (W := W) (w2 := w2) (v1 := v1) (B := B) (j := j) (s := s) (rs := rs) (v := u2) hC hj)
    generalize al[j] = a at hsel r0 r1 r2 e1 e2 e3 b1 b2 b3 N D
    clear hC e1 e2 e3 HF HV
    have HB := Lib.hid hB
    clear hB
    have lt1 := Lib.hid A.out.own.lt
    have b3l : -9223372036854775808 ≤ a.n := b3.1
    have b3h : a.n ≤ 9223372036854775807 := b3.2
    clear b1 b2 b3 hbl hcl
    rcases (show a.which < 0 ∨ 1 < a.which ∨ a.which = 0 ∨ a.which = 1 by omega) with hx | hx | hx | hx
    · (exfalso; omega)
    · (exfalso; omega)
    · rw [hx] at r1
      rcases (show a.what < 0 ∨ 3 < a.what ∨ a.what = 0 ∨ a.what = 1 ∨ a.what = 2 ∨ a.what = 3 by omega) with h1 | h1 | h1 | h1 | h1 | h1
      · (exfalso; omega)
      · (exfalso; omega)
      · rw [h1] at r0
        by_cases hbig : 2147483647 < a.n
        · (exfalso; omega)
        by_cases h_neg : a.n < 0
        · (exfalso; omega)
        by_cases h_u : ¬ s.u0 = 0
        · (exfalso; omega)
        (exfalso; omega)
      · rw [h1] at r0
        by_cases hbig : 2147483647 < a.n
        · (exfalso; omega)
        by_cases h_low : a.n < -2147483647
        · (exfalso; omega)
        by_cases h_neg : a.n < 0
        · (exfalso; omega)
        have y0 : IntKind.i64.wrap (s.a0 + s.u0) = s.a0 + s.u0 := IntWalk.i64_in _ (by omega)
        have y1 : IntKind.i64.wrap (s.a0 + s.u0 + a.n) = s.a0 + s.u0 + a.n := IntWalk.i64_in _ (by omega)
        have y2 : IntKind.i64.wrap (s.u0 + a.n) = s.u0 + a.n := IntWalk.i64_in _ (by omega)
        have y3 : IntKind.i64.wrap (s.a0 + (s.u0 + a.n)) = s.a0 + (s.u0 + a.n) := IntWalk.i64_in _ (by omega)
        by_cases h_over : 2147483647 < s.a0 + s.u0 + a.n
        · (exfalso; omega)
        by_cases h_flushA : 4096 ≤ s.u0 + a.n
        · (exfalso; omega)
        by_cases h_flushB : s.a0 ≤ s.u0 + a.n
        · (exfalso; omega)
        (exfalso; omega)
      · rw [h1] at r0
        by_cases hbig : 2147483647 < a.n
        · (exfalso; omega)
        by_cases h_neg : a.n < 0
        · (exfalso; omega)
        have y0 : IntKind.i64.wrap (s.a0 - a.n) = s.a0 - a.n := IntWalk.i64_in _ (by omega)
        by_cases h_no : s.a0 < a.n
        · (exfalso; omega)
        (exfalso; omega)
      · rw [h1] at r0
        by_cases hbig : 2147483647 < a.n
        · go_wp2
          go_ret2
          exact A.out.no (by (repeat (first | (with_reducible exact Same.refl _ _) | (with_reducible apply Same.drewN) | (with_reducible apply Same.drew) | (with_reducible apply Same.alloc) | (with_reducible apply Same.set') | (intro h; first | exact rfl | omega | (exfalso; simp at h <;> omega)))))
        by_cases h_neg : a.n < 0
        · go_wp2
          go_ret2
          exact A.out.no (by (repeat (first | (with_reducible exact Same.refl _ _) | (with_reducible apply Same.drewN) | (with_reducible apply Same.drew) | (with_reducible apply Same.alloc) | (with_reducible apply Same.set') | (intro h; first | exact rfl | omega | (exfalso; simp at h <;> omega)))))
        by_cases h_no0 : s.a0 < a.n
        · obtain ⟨i0, hi, hz0, hz1, hz2⟩ := info_parts info61
          go_wp2_with (at_builtin; refine wpList_append_own2 _ rfl _ _ 36 rfl (B + 1) 61 i0 (.agg #[.int .i64 0, .bool false, .slice none 0 0, .bool false]) 4 48 Tryd.underlying36 hi hz0 hz1 hz2 rfl (by decide) _ j (rs.map ResA.cells).flatten rfl ?own _ 1 1 (ResA.cells ⟨0, false, [], false⟩) rfl rfl ?c1 ?c2 ?c3 ?c4 ?c5 ?_)
          case own => exact ownsRow_same A.out.own (F := fun k => k = B) (by (repeat (first | (with_reducible exact Same.refl _ _) | (with_reducible apply Same.drewN) | (with_reducible apply Same.drew) | (with_reducible apply Same.alloc) | (with_reducible apply Same.set') | (intro h; first | exact rfl | omega | (exfalso; simp at h <;> omega))))) (fun g hg h => by have := lt1.out g hg; omega)
          case c1 => first | exact cells_at (by first | rfl | simp [] | simp) (by first | rfl | (simp [ResA.cells]; omega)) | (intro j u hu; refine Eq.trans (congrArg (fun l : List Value => l[j]?) ?_) hu; first | rfl | (simp [ResA.cells]; omega))
          case c2 => exact resA_one _
          case c3 => unfold maxLen; omega
          case c4 => omega
          case c5 => have := A.out.blk.lt; first | omega | (simp []; omega) | (simp; omega)
          intro v1 w2 hown1 hgrow1 _
          have C1 := Lib.hid (And.intro hown1 hgrow1)
          clear hown1 hgrow1
          go_wp2
          go_roundg (gk - 1)
          case measure => omega
          case rel => exact ⟨j + 1, s, rs ++ [⟨0, false, [], false⟩], by omega, rfl, by omega, N.out ⟨0, false, [], false⟩ s _ _ _ (StpIn.bothno h1 (by omega) (by omega) (by omega) (by omega) (by omega) (by omega) (by omega) (by omega) (by omega)) rfl rfl ⟨by first | omega | (simp only; omega), by first | omega | (simp only; omega)⟩ ⟨by first | omega | (simp only; omega), by first | omega | (simp only; omega), by first | omega | (simp only; omega), by first | omega | (simp only; omega), by first | omega | (simp only; omega), by first | omega | (simp only; omega)⟩ (by (repeat (first | (with_reducible exact A.out.blk) | (with_reducible apply Blk.drewN) | (with_reducible apply Blk.drew) | (with_reducible apply Blk.alloc) | (with_reducible apply Blk.other' (hp := nB0)) | (with_reducible apply Blk.other' (hp := nB1)) | (with_reducible apply Blk.set') | (exact rfl)))) (by (repeat (first | (with_reducible exact Same.refl _ _) | (with_reducible apply Same.drewN) | (with_reducible apply Same.drew) | (with_reducible apply Same.alloc) | (with_reducible apply Same.set') | (intro h; first | exact rfl | omega | (exfalso; simp at h <;> omega))))) C1.out.1 C1.out.2⟩
        by_cases h_no1 : s.a1 < a.n
        · obtain ⟨i0, hi, hz0, hz1, hz2⟩ := info_parts info61
          go_wp2_with (at_builtin; refine wpList_append_own2 _ rfl _ _ 36 rfl (B + 1) 61 i0 (.agg #[.int .i64 0, .bool false, .slice none 0 0, .bool false]) 4 48 Tryd.underlying36 hi hz0 hz1 hz2 rfl (by decide) _ j (rs.map ResA.cells).flatten rfl ?own _ 1 1 (ResA.cells ⟨0, false, [], false⟩) rfl rfl ?c1 ?c2 ?c3 ?c4 ?c5 ?_)
          case own => exact ownsRow_same A.out.own (F := fun k => k = B) (by (repeat (first | (with_reducible exact Same.refl _ _) | (with_reducible apply Same.drewN) | (with_reducible apply Same.drew) | (with_reducible apply Same.alloc) | (with_reducible apply Same.set') | (intro h; first | exact rfl | omega | (exfalso; simp at h <;> omega))))) (fun g hg h => by have := lt1.out g hg; omega)
          case c1 => first | exact cells_at (by first | rfl | simp [] | simp) (by first | rfl | (simp [ResA.cells]; omega)) | (intro j u hu; refine Eq.trans (congrArg (fun l : List Value => l[j]?) ?_) hu; first | rfl | (simp [ResA.cells]; omega))
          case c2 => exact resA_one _
          case c3 => unfold maxLen; omega
          case c4 => omega
          case c5 => have := A.out.blk.lt; first | omega | (simp []; omega) | (simp; omega)
          intro v1 w2 hown1 hgrow1 _
          have C1 := Lib.hid (And.intro hown1 hgrow1)
          clear hown1 hgrow1
          go_wp2
          go_roundg (gk - 1)
          case measure => omega
          case rel => exact ⟨j + 1, s, rs ++ [⟨0, false, [], false⟩], by omega, rfl, by omega, N.out ⟨0, false, [], false⟩ s _ _ _ (StpIn.bothno h1 (by omega) (by omega) (by omega) (by omega) (by omega) (by omega) (by omega) (by omega) (by omega)) rfl rfl ⟨by first | omega | (simp only; omega), by first | omega | (simp only; omega)⟩ ⟨by first | omega | (simp only; omega), by first | omega | (simp only; omega), by first | omega | (simp only; omega), by first | omega | (simp only; omega), by first | omega | (simp only; omega), by first | omega | (simp only; omega)⟩ (by (repeat (first | (with_reducible exact A.out.blk) | (with_reducible apply Blk.drewN) | (with_reducible apply Blk.drew) | (with_reducible apply Blk.alloc) | (with_reducible apply Blk.other' (hp := nB0)) | (with_reducible apply Blk.other' (hp := nB1)) | (with_reducible apply Blk.set') | (exact rfl)))) (by (repeat (first | (with_reducible exact Same.refl _ _) | (with_reducible apply Same.drewN) | (with_reducible apply Same.drew) | (with_reducible apply Same.alloc) | (with_reducible apply Same.set') | (intro h; first | exact rfl | omega | (exfalso; simp at h <;> omega))))) C1.out.1 C1.out.2⟩
        obtain ⟨i0, hi, hz0, hz1, hz2⟩ := info_parts info61
        go_wp2_with (at_builtin; refine wpList_append_own2 _ rfl _ _ 36 rfl (B + 1) 61 i0 (.agg #[.int .i64 0, .bool false, .slice none 0 0, .bool false]) 4 48 Tryd.underlying36 hi hz0 hz1 hz2 rfl (by decide) _ j (rs.map ResA.cells).flatten rfl ?own _ 1 1 (ResA.cells ⟨0, true, [], false⟩) rfl rfl ?c1 ?c2 ?c3 ?c4 ?c5 ?_)
        case own => exact ownsRow_same A.out.own (F := fun k => k = B) (by (repeat (first | (with_reducible exact Same.refl _ _) | (with_reducible apply Same.drewN) | (with_reducible apply Same.drew) | (with_reducible apply Same.alloc) | (with_reducible apply Same.set') | (intro h; first | exact rfl | omega | (exfalso; simp at h <;> omega))))) (fun g hg h => by have := lt1.out g hg; omega)
        case c1 => first | exact cells_at (by first | rfl | simp [World.setCell] | simp) (by first | rfl | (simp [ResA.cells]; omega)) | (intro j u hu; refine Eq.trans (congrArg (fun l : List Value => l[j]?) ?_) hu; first | rfl | (simp [ResA.cells]; omega))
        case c2 => exact resA_one _
        case c3 => unfold maxLen; omega
        case c4 => omega
        case c5 => have := A.out.blk.lt; first | omega | (simp [World.setCell]; omega) | (simp; omega)
        intro v1 w2 hown1 hgrow1 _
        have C1 := Lib.hid (And.intro hown1 hgrow1)
        clear hown1 hgrow1
        go_wp2
        go_roundg (gk - 1)
        case measure => omega
        case rel => exact ⟨j + 1, ⟨s.a0 - a.n, s.u0, s.a1 - a.n, s.u1⟩, rs ++ [⟨0, true, [], false⟩], by omega, rfl, by omega, N.out ⟨0, true, [], false⟩ ⟨s.a0 - a.n, s.u0, s.a1 - a.n, s.u1⟩ _ _ _ (StpIn.both h1 (by omega) (by omega) (by omega) (by omega) (by omega) (by omega) (by omega) (by omega) (by omega)) rfl rfl ⟨by first | omega | (simp only; omega), by first | omega | (simp only; omega)⟩ ⟨by first | omega | (simp only; omega), by first | omega | (simp only; omega), by first | omega | (simp only; omega), by first | omega | (simp only; omega), by first | omega | (simp only; omega), by first | omega | (simp only; omega)⟩ (by (repeat (first | (with_reducible exact A.out.blk) | (with_reducible apply Blk.drewN) | (with_reducible apply Blk.drew) | (with_reducible apply Blk.alloc) | (with_reducible apply Blk.other' (hp := nB0)) | (with_reducible apply Blk.other' (hp := nB1)) | (with_reducible apply Blk.set') | (exact rfl)))) (by (repeat (first | (with_reducible exact Same.refl _ _) | (with_reducible apply Same.drewN) | (with_reducible apply Same.drew) | (with_reducible apply Same.alloc) | (with_reducible apply Same.set') | (intro h; first | exact rfl | omega | (exfalso; simp at h <;> omega))))) C1.out.1 C1.out.2⟩
    · rw [hx] at r1
      rcases (show a.what < 0 ∨ 3 < a.what ∨ a.what = 0 ∨ a.what = 1 ∨ a.what = 2 ∨ a.what = 3 by omega) with h1 | h1 | h1 | h1 | h1 | h1
      · (exfalso; omega)
      · (exfalso; omega)
      · rw [h1] at r0
        by_cases hbig : 2147483647 < a.n
        · (exfalso; omega)
        by_cases h_neg : a.n < 0
        · (exfalso; omega)
        by_cases h_u : ¬ s.u1 = 0
        · (exfalso; omega)
        (exfalso; omega)
      · rw [h1] at r0
        by_cases hbig : 2147483647 < a.n
        · (exfalso; omega)
        by_cases h_low : a.n < -2147483647
        · (exfalso; omega)
        by_cases h_neg : a.n < 0
        · (exfalso; omega)
        have y0 : IntKind.i64.wrap (s.a1 + s.u1) = s.a1 + s.u1 := IntWalk.i64_in _ (by omega)
        have y1 : IntKind.i64.wrap (s.a1 + s.u1 + a.n) = s.a1 + s.u1 + a.n := IntWalk.i64_in _ (by omega)
        have y2 : IntKind.i64.wrap (s.u1 + a.n) = s.u1 + a.n := IntWalk.i64_in _ (by omega)
        have y3 : IntKind.i64.wrap (s.a1 + (s.u1 + a.n)) = s.a1 + (s.u1 + a.n) := IntWalk.i64_in _ (by omega)
        by_cases h_over : 2147483647 < s.a1 + s.u1 + a.n
        · (exfalso; omega)
        by_cases h_flushA : 4096 ≤ s.u1 + a.n
        · (exfalso; omega)
        by_cases h_flushB : s.a1 ≤ s.u1 + a.n
        · (exfalso; omega)
        (exfalso; omega)
      · rw [h1] at r0
        by_cases hbig : 2147483647 < a.n
        · (exfalso; omega)
        by_cases h_neg : a.n < 0
        · (exfalso; omega)
        have y0 : IntKind.i64.wrap (s.a1 - a.n) = s.a1 - a.n := IntWalk.i64_in _ (by omega)
        by_cases h_no : s.a1 < a.n
        · (exfalso; omega)
        (exfalso; omega)
      · rw [h1] at r0
        by_cases hbig : 2147483647 < a.n
        · (exfalso; omega)
        by_cases h_neg : a.n < 0
        · (exfalso; omega)
        by_cases h_no0 : s.a0 < a.n
        · (exfalso; omega)
        by_cases h_no1 : s.a1 < a.n
        · (exfalso; omega)
        (exfalso; omega)

theorem inb_d1 (w : World) (al : List StepA) (B j gk : Nat) (s : InS) (rs : List ResA) (ad : Option Addr) (cp : Nat) (wr : World) (u2 u3 u6 u7 u8 u12 u13 u14 u15 u16 u17 u18 u19 u20 u21 u22 u23 u24 u25 u26 u27 u28 u29 u30 u31 u32 u33 u34 u35 u36 u37 u38 u39 u40 u41 u42 u43 u44 u45 u46 u47 u48 u49 u50 u51 u52 u53 u54 u55 u56 u57 u58 u59 u60 u61 u62 u63 u64 u65 u66 u67 u68 u69 u70 u71 u72 u73 u74 u75 u76 u77 u78 u79 u80 u81 u82 u83 u84 u85 u86 u87 u88 u89 u90 u91 u92 u93 u94 u95 u96 u97 u98 u99 u100 u101 u102 u103 u104 u105 u106 u107 u108 u109 u110 u111 u112 u113 u114 u115 u116 u117 u118 u119 u120 u121 u122 u123 u124 u125 u126 u127 u128 u129 u130 u131 u132 u133 u134 u135 u136 u137 u138 u139 u140 u141 u142 u143 u144 u145 u146 u147 u148 u149 u150 u151 u152 u153 u154 u155 u156 u157 u158 u159 u160 u161 u162 u163 u164 u165 u166 u167 u168 u169 u170 u171 u172 u173 u174 u175 u176 u177 u178 u179 u180 u181 u182 u183 u184 u185 u186 u187 u188 u189 u190 u191 u192 u193 u194 u195 u196 u197 u198 u199 u200 u201 u202 u203 u204 u205 u206 : Value) (J : Nat → Act → World → Prop) (K K1 : Act → World → Prop) (hlen : al.length ≤ 1000)
    (hv : StepsR (fun _ => True) w (.slice ad al.length cp) al) (hform : ∀ j, j < al.length → ∃ pb po ps, ad = some ⟨pb, po, ps⟩) (hk : gk + j = al.length) (_hjl : j ≤ al.length) (hC : InbCore al w B j s rs u2 wr) (hj : j < al.length) (hsel : al[j].which = 1 ∧ al[j].what = 3)
    (hJ : ∀ (k : Nat) (a' : Act) (w' : World), (∃ u2 u3 u6 u7 u8 u11 u12 u13 u14 u15 u16 u17 u18 u19 u20 u21 u22 u23 u24 u25 u26 u27 u28 u29 u30 u31 u32 u33 u34 u35 u36 u37 u38 u39 u40 u41 u42 u43 u44 u45 u46 u47 u48 u49 u50 u51 u52 u53 u54 u55 u56 u57 u58 u59 u60 u61 u62 u63 u64 u65 u66 u67 u68 u69 u70 u71 u72 u73 u74 u75 u76 u77 u78 u79 u80 u81 u82 u83 u84 u85 u86 u87 u88 u89 u90 u91 u92 u93 u94 u95 u96 u97 u98 u99 u100 u101 u102 u103 u104 u105 u106 u107 u108 u109 u110 u111 u112 u113 u114 u115 u116 u117 u118 u119 u120 u121 u122 u123 u124 u125 u126 u127 u128 u129 u130 u131 u132 u133 u134 u135 u136 u137 u138 u139 u140 u141 u142 u143 u144 u145 u146 u147 u148 u149 u150 u151 u152 u153 u154 u155 u156 u157 u158 u159 u160 u161 u162 u163 u164 u165 u166 u167 u168 u169 u170 u171 u172 u173 u174 u175 u176 u177 u178 u179 u180 u181 u182 u183 u184 u185 u186 u187 u188 u189 u190 u191 u192 u193 u194 u195 u196 u197 u198 u199 u200 u201 u202 u203 u204 u205 u206 : Value, InbRel al w B k u2 u11 w' ∧ a' = ⟨#[.slice ad al.length cp, undef, u2, u3, .pointer (some ⟨B, 0, none⟩), undef, u6, u7, u8, .slice ad al.length cp, .int .i64 al.length, u11, u12, u13, u14, u15, u16, u17, u18, u19, u20, u21, u22, u23, u24, u25, u26, u27, u28, u29, u30, u31, u32, u33, u34, u35, u36, u37, u38, u39, u40, u41, u42, u43, u44, u45, u46, u47, u48, u49, u50, u51, u52, u53, u54, u55, u56, u57, u58, u59, u60, u61, u62, u63, u64, u65, u66, u67, u68, u69, u70, u71, u72, u73, u74, u75, u76, u77, u78, u79, u80, u81, u82, u83, u84, u85, u86, u87, u88, u89, u90, u91, u92, u93, u94, u95, u96, u97, u98, u99, u100, u101, u102, u103, u104, u105, u106, u107, u108, u109, u110, u111, u112, u113, u114, u115, u116, u117, u118, u119, u120, u121, u122, u123, u124, u125, u126, u127, u128, u129, u130, u131, u132, u133, u134, u135, u136, u137, u138, u139, u140, u141, u142, u143, u144, u145, u146, u147, u148, u149, u150, u151, u152, u153, u154, u155, u156, u157, u158, u159, u160, u161, u162, u163, u164, u165, u166, u167, u168, u169, u170, u171, u172, u173, u174, u175, u176, u177, u178, u179, u180, u181, u182, u183, u184, u185, u186, u187, u188, u189, u190, u191, u192, u193, u194, u195, u196, u197, u198, u199, u200, u201, u202, u203, u204, u205, u206, undef], []⟩) → J k a' w') (hK : ∀ (a' : Act) (w' : World), Handed J gk a' w' → K a' w') :
    Code.wp Tryd.prog inbBody (Exit.then K (Exit.inBlock 0 (Exit.then K1 (bodyPost Tryd.prog Tryd.f16 (InbPost al w))))) ⟨#[.slice ad al.length cp, undef, u2, u3, .pointer (some ⟨B, 0, none⟩), undef, u6, u7, u8, .slice ad al.length cp, .int .i64 al.length, .int .i64 j, u12, u13, u14, u15, u16, u17, u18, u19, u20, u21, u22, u23, u24, u25, u26, u27, u28, u29, u30, u31, u32, u33, u34, u35, u36, u37, u38, u39, u40, u41, u42, u43, u44, u45, u46, u47, u48, u49, u50, u51, u52, u53, u54, u55, u56, u57, u58, u59, u60, u61, u62, u63, u64, u65, u66, u67, u68, u69, u70, u71, u72, u73, u74, u75, u76, u77, u78, u79, u80, u81, u82, u83, u84, u85, u86, u87, u88, u89, u90, u91, u92, u93, u94, u95, u96, u97, u98, u99, u100, u101, u102, u103, u104, u105, u106, u107, u108, u109, u110, u111, u112, u113, u114, u115, u116, u117, u118, u119, u120, u121, u122, u123, u124, u125, u126, u127, u128, u129, u130, u131, u132, u133, u134, u135, u136, u137, u138, u139, u140, u141, u142, u143, u144, u145, u146, u147, u148, u149, u150, u151, u152, u153, u154, u155, u156, u157, u158, u159, u160, u161, u162, u163, u164, u165, u166, u167, u168, u169, u170, u171, u172, u173, u174, u175, u176, u177, u178, u179, u180, u181, u182, u183, u184, u185, u186, u187, u188, u189, u190, u191, u192, u193, u194, u195, u196, u197, u198, u199, u200, u201, u202, u203, u204, u205, u206, undef], []⟩ wr := by
  conv => arg 2; whnf
  have hmax : al.length ≤ 9223372036854775807 := by omega
  have HV := Lib.hid hv
  have HF := Lib.hid hform
  clear hv hform
  have hB := hC.hB
  have A := Lib.hid hC
  · obtain ⟨pb, po, ps, rfl⟩ := HF.out j hj
    obtain ⟨rfl, x, ⟨e1, e2, e3, b1, b2, b3, _⟩, r0, r1, r2, r3⟩ := HV.out.at hC.same hj
    have hcl := World.block_lt_of_cell? _ _ r0
    simp only at hcl
    have hbl := hC.blk.lt
    have nB0 : ¬ B = wr.heap.size := by omega
    have nB1 : ¬ B = wr.heap.size + 1 := by omega
    have nB2 : ¬ B = wr.heap.size + 2 := by omega
    have np0 : ¬ pb = wr.heap.size := by omega
    have np1 : ¬ pb = wr.heap.size + 1 := by omega
    have c0 : wr.cell? ⟨B, 0, none⟩ = some (.int .i64 s.a0) := hC.blk.cell 0
    have c1 : wr.cell? ⟨B, 1, none⟩ = some (.int .i64 s.u0) := hC.blk.cell 1
    have c2 : wr.cell? ⟨B, 2, none⟩ = some (.int .i64 s.a1) := hC.blk.cell 2
    have c3 : wr.cell? ⟨B, 3, none⟩ = some (.int .i64 s.u1) := hC.blk.cell 3
    have f0 : wr.frozen? ⟨B, 0, none⟩ = false := hC.blk.free 0
    have f1 : wr.frozen? ⟨B, 1, none⟩ = false := hC.blk.free 1
    have f2 : wr.frozen? ⟨B, 2, none⟩ = false := hC.blk.free 2
    have f3 : wr.frozen? ⟨B, 3, none⟩ = false := hC.blk.free 3
    have g0 : ∀ o o', ((wr.alloc o).alloc o').cell? ⟨B, 0, none⟩ = some (.int .i64 s.a0) := fun o o' => ((hC.blk.alloc o).alloc o').cell 0
    have k0 : ∀ o o', ((wr.alloc o).alloc o').frozen? ⟨B, 0, none⟩ = false := fun o o' => ((hC.blk.alloc o).alloc o').free 0
    have g1 : ∀ o o', ((wr.alloc o).alloc o').cell? ⟨B, 1, none⟩ = some (.int .i64 s.u0) := fun o o' => ((hC.blk.alloc o).alloc o').cell 1
    have k1 : ∀ o o', ((wr.alloc o).alloc o').frozen? ⟨B, 1, none⟩ = false := fun o o' => ((hC.blk.alloc o).alloc o').free 1
    have g2 : ∀ o o', ((wr.alloc o).alloc o').cell? ⟨B, 2, none⟩ = some (.int .i64 s.a1) := fun o o' => ((hC.blk.alloc o).alloc o').cell 2
    have k2 : ∀ o o', ((wr.alloc o).alloc o').frozen? ⟨B, 2, none⟩ = false := fun o o' => ((hC.blk.alloc o).alloc o').free 2
    have g3 : ∀ o o', ((wr.alloc o).alloc o').cell? ⟨B, 3, none⟩ = some (.int .i64 s.u1) := fun o o' => ((hC.blk.alloc o).alloc o').cell 3
    have k3 : ∀ o o', ((wr.alloc o).alloc o').frozen? ⟨B, 3, none⟩ = false := fun o o' => ((hC.blk.alloc o).alloc o').free 3
    obtain ⟨w0, w1, w2, w3, w4, w5⟩ := hC.win
    rw [e1] at r0
    rw [e2] at r1
    rw [e3] at r2
    have N := Lib.hid (fun r s' W w2 v1 => InbCore.next (al := al) (w := w) (wr := wr) (W := W) (w2 := w2) (v1 := v1) (B := B) (j := j) (s := s) (s' := s') (rs := rs) (v := u2) (r := r) hC hj)
    have D := Lib.hid (fun W w2 v1 => InbCore.die (al := al) (w := w) (wr := wr) (W := W) (w2 := w2) (v1 := v1) (B := B) (j := j) (s := s) (rs := rs) (v := u2) hC hj)
    generalize al[j] = a at hsel r0 r1 r2 e1 e2 e3 b1 b2 b3 N D
    clear hC e1 e2 e3 HF HV
    have HB := Lib.hid hB
    clear hB
    have lt1 := Lib.hid A.out.own.lt
    have b3l : -9223372036854775808 ≤ a.n := b3.1
    have b3h : a.n ≤ 9223372036854775807 := b3.2
    clear b1 b2 b3 hbl hcl
    rcases (show a.which < 0 ∨ 1 < a.which ∨ a.which = 0 ∨ a.which = 1 by omega) with hx | hx | hx | hx
    · (exfalso; omega)
    · (exfalso; omega)
    · rw [hx] at r1
      rcases (show a.what < 0 ∨ 3 < a.what ∨ a.what = 0 ∨ a.what = 1 ∨ a.what = 2 ∨ a.what = 3 by omega) with h1 | h1 | h1 | h1 | h1 | h1
      · (exfalso; omega)
      · (exfalso; omega)
      · rw [h1] at r0
        by_cases hbig : 2147483647 < a.n
        · (exfalso; omega)
        by_cases h_neg : a.n < 0
        · (exfalso; omega)
        by_cases h_u : ¬ s.u0 = 0
        · (exfalso; omega)
        (exfalso; omega)
      · rw [h1] at r0
        by_cases hbig : 2147483647 < a.n
        · (exfalso; omega)
        by_cases h_low : a.n < -2147483647
        · (exfalso; omega)
        by_cases h_neg : a.n < 0
        · (exfalso; omega)
        have y0 : IntKind.i64.wrap (s.a0 + s.u0) = s.a0 + s.u0 := IntWalk.i64_in _ (by omega)
        have y1 : IntKind.i64.wrap (s.a0 + s.u0 + a.n) = s.a0 + s.u0 + a.n := IntWalk.i64_in _ (by omega)
        have y2 : IntKind.i64.wrap (s.u0 + a.n) = s.u0 + a.n := IntWalk.i64_in _ (by omega)
        have y3 : IntKind.i64.wrap (s.a0 + (s.u0 + a.n)) = s.a0 + (s.u0 + a.n) := IntWalk.i64_in _ (by omega)
        by_cases h_over : 2147483647 < s.a0 + s.u0 + a.n
        · (exfalso; omega)
        by_cases h_flushA : 4096 ≤ s.u0 + a.n
        · (exfalso; omega)
        by_cases h_flushB : s.a0 ≤ s.u0 + a.n
        · (exfalso; omega)
        (exfalso; omega)
      · rw [h1] at r0
        by_cases hbig : 2147483647 < a.n
        · (exfalso; omega)
        by_cases h_neg : a.n < 0
        · (exfalso; omega)
        have y0 : IntKind.i64.wrap (s.a0 - a.n) = s.a0 - a.n := IntWalk.i64_in _ (by omega)
        by_cases h_no : s.a0 < a.n
        · (exfalso; omega)
        (exfalso; omega)
      · rw [h1] at r0
        by_cases hbig : 2147483647 < a.n
        · (exfalso; omega)
        by_cases h_neg : a.n < 0
        · (exfalso; omega)
        by_cases h_no0 : s.a0 < a.n
        · (exfalso; omega)
        by_cases h_no1 : s.a1 < a.n
        · (exfalso; omega)
        (exfalso; omega)
    · rw [hx] at r1
      rcases (show a.what < 0 ∨ 3 < a.what ∨ a.what = 0 ∨ a.what = 1 ∨ a.what = 2 ∨ a.what = 3 by omega) with h1 | h1 | h1 | h1 | h1 | h1
      · (exfalso; omega)
      · (exfalso; omega)
      · rw [h1] at r0
        by_cases hbig : 2147483647 < a.n
        · (exfalso; omega)
        by_cases h_neg : a.n < 0
        · (exfalso; omega)
        by_cases h_u : ¬ s.u1 = 0
        · (exfalso; omega)
        (exfalso; omega)
      · rw [h1] at r0
        by_cases hbig : 2147483647 < a.n
        · (exfalso; omega)
        by_cases h_low : a.n < -2147483647
        · (exfalso; omega)
        by_cases h_neg : a.n < 0
        · (exfalso; omega)
        have y0 : IntKind.i64.wrap (s.a1 + s.u1) = s.a1 + s.u1 := IntWalk.i64_in _ (by omega)
        have y1 : IntKind.i64.wrap (s.a1 + s.u1 + a.n) = s.a1 + s.u1 + a.n := IntWalk.i64_in _ (by omega)
        have y2 : IntKind.i64.wrap (s.u1 + a.n) = s.u1 + a.n := IntWalk.i64_in _ (by omega)
        have y3 : IntKind.i64.wrap (s.a1 + (s.u1 + a.n)) = s.a1 + (s.u1 + a.n) := IntWalk.i64_in _ (by omega)
        by_cases h_over : 2147483647 < s.a1 + s.u1 + a.n
        · (exfalso; omega)
        by_cases h_flushA : 4096 ≤ s.u1 + a.n
        · (exfalso; omega)
        by_cases h_flushB : s.a1 ≤ s.u1 + a.n
        · (exfalso; omega)
        (exfalso; omega)
      · rw [h1] at r0
        by_cases hbig : 2147483647 < a.n
        · (exfalso; omega)
        by_cases h_neg : a.n < 0
        · (exfalso; omega)
        have y0 : IntKind.i64.wrap (s.a1 - a.n) = s.a1 - a.n := IntWalk.i64_in _ (by omega)
        by_cases h_no : s.a1 < a.n
        · (exfalso; omega)
        (exfalso; omega)
      · rw [h1] at r0
        by_cases hbig : 2147483647 < a.n
        · go_wp2
          go_ret2
          exact A.out.no (by (repeat (first | (with_reducible exact Same.refl _ _) | (with_reducible apply Same.drewN) | (with_reducible apply Same.drew) | (with_reducible apply Same.alloc) | (with_reducible apply Same.set') | (intro h; first | exact rfl | omega | (exfalso; simp at h <;> omega)))))
        by_cases h_neg : a.n < 0
        · go_wp2
          go_ret2
          exact A.out.no (by (repeat (first | (with_reducible exact Same.refl _ _) | (with_reducible apply Same.drewN) | (with_reducible apply Same.drew) | (with_reducible apply Same.alloc) | (with_reducible apply Same.set') | (intro h; first | exact rfl | omega | (exfalso; simp at h <;> omega)))))
        by_cases h_no0 : s.a0 < a.n
        · obtain ⟨i0, hi, hz0, hz1, hz2⟩ := info_parts info61
          go_wp2_with (at_builtin; refine wpList_append_own2 _ rfl _ _ 36 rfl (B + 1) 61 i0 (.agg #[.int .i64 0, .bool false, .slice none 0 0, .bool false]) 4 48 Tryd.underlying36 hi hz0 hz1 hz2 rfl (by decide) _ j (rs.map ResA.cells).flatten rfl ?own _ 1 1 (ResA.cells ⟨0, false, [], false⟩) rfl rfl ?c1 ?c2 ?c3 ?c4 ?c5 ?_)
          case own => exact ownsRow_same A.out.own (F := fun k => k = B) (by (repeat (first | (with_reducible exact Same.refl _ _) | (with_reducible apply Same.drewN) | (with_reducible apply Same.drew) | (with_reducible apply Same.alloc) | (with_reducible apply Same.set') | (intro h; first | exact rfl | omega | (exfalso; simp at h <;> omega))))) (fun g hg h => by have := lt1.out g hg; omega)
          case c1 => first | exact cells_at (by first | rfl | simp [] | simp) (by first | rfl | (simp [ResA.cells]; omega)) | (intro j u hu; refine Eq.trans (congrArg (fun l : List Value => l[j]?) ?_) hu; first | rfl | (simp [ResA.cells]; omega))
          case c2 => exact resA_one _
          case c3 => unfold maxLen; omega
          case c4 => omega
          case c5 => have := A.out.blk.lt; first | omega | (simp []; omega) | (simp; omega)
          intro v1 w2 hown1 hgrow1 _
          have C1 := Lib.hid (And.intro hown1 hgrow1)
          clear hown1 hgrow1
          go_wp2
          go_roundg (gk - 1)
          case measure => omega
          case rel => exact ⟨j + 1, s, rs ++ [⟨0, false, [], false⟩], by omega, rfl, by omega, N.out ⟨0, false, [], false⟩ s _ _ _ (StpIn.bothno h1 (by omega) (by omega) (by omega) (by omega) (by omega) (by omega) (by omega) (by omega) (by omega)) rfl rfl ⟨by first | omega | (simp only; omega), by first | omega | (simp only; omega)⟩ ⟨by first | omega | (simp only; omega), by first | omega | (simp only; omega), by first | omega | (simp only; omega), by first | omega | (simp only; omega), by first | omega | (simp only; omega), by first | omega | (simp only; omega)⟩ (by (repeat (first | (with_reducible exact A.out.blk) | (with_reducible apply Blk.drewN) | (with_reducible apply Blk.drew) | (with_reducible apply Blk.alloc) | (with_reducible apply Blk.other' (hp := nB0)) | (with_reducible apply Blk.other' (hp := nB1)) | (with_reducible apply Blk.set') | (exact rfl)))) (by (repeat (first | (with_reducible exact Same.refl _ _) | (with_reducible apply Same.drewN) | (with_reducible apply Same.drew) | (with_reducible apply Same.alloc) | (with_reducible apply Same.set') | (intro h; first | exact rfl | omega | (exfalso; simp at h <;> omega))))) C1.out.1 C1.out.2⟩
        by_cases h_no1 : s.a1 < a.n
        · obtain ⟨i0, hi, hz0, hz1, hz2⟩ := info_parts info61
          go_wp2_with (at_builtin; refine wpList_append_own2 _ rfl _ _ 36 rfl (B + 1) 61 i0 (.agg #[.int .i64 0, .bool false, .slice none 0 0, .bool false]) 4 48 Tryd.underlying36 hi hz0 hz1 hz2 rfl (by decide) _ j (rs.map ResA.cells).flatten rfl ?own _ 1 1 (ResA.cells ⟨0, false, [], false⟩) rfl rfl ?c1 ?c2 ?c3 ?c4 ?c5 ?_)
          case own => exact ownsRow_same A.out.own (F := fun k => k = B) (by (repeat (first | (with_reducible exact Same.refl _ _) | (with_reducible apply Same.drewN) | (with_reducible apply Same.drew) | (with_reducible apply Same.alloc) | (with_reducible apply Same.set') | (intro h; first | exact rfl | omega | (exfalso; simp at h <;> omega))))) (fun g hg h => by have := lt1.out g hg; omega)
          case c1 => first | exact cells_at (by first | rfl | simp [] | simp) (by first | rfl | (simp [ResA.cells]; omega)) | (intro j u hu; refine Eq.trans (congrArg (fun l : List Value => l[j]?) ?_) hu; first | rfl | (simp [ResA.cells]; omega))
          case c2 => exact resA_one _
          case c3 => unfold maxLen; omega
          case c4 => omega
          case c5 => have := A.out.blk.lt; first | omega | (simp []; omega) | (simp; omega)
          intro v1 w2 hown1 hgrow1 _
          have C1 := Lib.hid (And.intro hown1 hgrow1)
          clear hown1 hgrow1
          go_wp2
          go_roundg (gk - 1)
          case measure => omega
          case rel => exact ⟨j + 1, s, rs ++ [⟨0, false, [], false⟩], by omega, rfl, by omega, N.out ⟨0, false, [], false⟩ s _ _ _ (StpIn.bothno h1 (by omega) (by omega) (by omega) (by omega) (by omega) (by omega) (by omega) (by omega) (by omega)) rfl rfl ⟨by first | omega | (simp only; omega), by first | omega | (simp only; omega)⟩ ⟨by first | omega | (simp only; omega), by first | omega | (simp only; omega), by first | omega | (simp only; omega), by first | omega | (simp only; omega), by first | omega | (simp only; omega), by first | omega | (simp only; omega)⟩ (by (repeat (first | (with_reducible exact A.out.blk) | (with_reducible apply Blk.drewN) | (with_reducible apply Blk.drew) | (with_reducible apply Blk.alloc) | (with_reducible apply Blk.other' (hp := nB0)) | (with_reducible apply Blk.other' (hp := nB1)) | (with_reducible apply Blk.set') | (exact rfl)))) (by (repeat (first | (with_reducible exact Same.refl _ _) | (with_reducible apply Same.drewN) | (with_reducible apply Same.drew) | (with_reducible apply Same.alloc) | (with_reducible apply Same.set') | (intro h; first | exact rfl | omega | (exfalso; simp at h <;> omega))))) C1.out.1 C1.out.2⟩
        obtain ⟨i0, hi, hz0, hz1, hz2⟩ := info_parts info61
        go_wp2_with (at_builtin; refine wpList_append_own2 _ rfl _ _ 36 rfl (B + 1) 61 i0 (.agg #[.int .i64 0, .bool false, .slice none 0 0, .bool false]) 4 48 Tryd.underlying36 hi hz0 hz1 hz2 rfl (by decide) _ j (rs.map ResA.cells).flatten rfl ?own _ 1 1 (ResA.cells ⟨0, true, [], false⟩) rfl rfl ?c1 ?c2 ?c3 ?c4 ?c5 ?_)
        case own => exact ownsRow_same A.out.own (F := fun k => k = B) (by (repeat (first | (with_reducible exact Same.refl _ _) | (with_reducible apply Same.drewN) | (with_reducible apply Same.drew) | (with_reducible apply Same.alloc) | (with_reducible apply Same.set') | (intro h; first | exact rfl | omega | (exfalso; simp at h <;> omega))))) (fun g hg h => by have := lt1.out g hg; omega)
        case c1 => first | exact cells_at (by first | rfl | simp [World.setCell] | simp) (by first | rfl | (simp [ResA.cells]; omega)) | (intro j u hu; refine Eq.trans (congrArg (fun l : List Value => l[j]?) ?_) hu; first | rfl | (simp [ResA.cells]; omega))
        case c2 => exact resA_one _
        case c3 => unfold maxLen; omega
        case c4 => omega
        case c5 => have := A.out.blk.lt; first | omega | (simp [World.setCell]; omega) | (simp; omega)
        intro v1 w2 hown1 hgrow1 _
        have C1 := Lib.hid (And.intro hown1 hgrow1)
        clear hown1 hgrow1
        go_wp2
        go_roundg (gk - 1)
        case measure => omega
        case rel => exact ⟨j + 1, ⟨s.a0 - a.n, s.u0, s.a1 - a.n, s.u1⟩, rs ++ [⟨0, true, [], false⟩], by omega, rfl, by omega, N.out ⟨0, true, [], false⟩ ⟨s.a0 - a.n, s.u0, s.a1 - a.n, s.u1⟩ _ _ _ (StpIn.both h1 (by omega) (by omega) (by omega) (by omega) (by omega) (by omega) (by omega) (by omega) (by omega)) rfl rfl ⟨by first | omega | (simp only; omega), by first | omega | (simp only; omega)⟩ ⟨by first | omega | (simp only; omega), by first | omega | (simp only; omega), by first | omega | (simp only; omega), by first | omega | (simp only; omega), by first | omega | (simp only; omega), by first | omega | (simp only; omega)⟩ (by (repeat (first | (with_reducible exact A.out.blk) | (with_reducible apply Blk.drewN) | (with_reducible apply Blk.drew) | (with_reducible apply Blk.alloc) | (with_reducible apply Blk.other' (hp := nB0)) | (with_reducible apply Blk.other' (hp := nB1)) | (with_reducible apply Blk.set') | (exact rfl)))) (by (repeat (first | (with_reducible exact Same.refl _ _) | (with_reducible apply Same.drewN) | (with_reducible apply Same.drew) | (with_reducible apply Same.alloc) | (with_reducible apply Same.set') | (intro h; first | exact rfl | omega | (exfalso; simp at h <;> omega))))) C1.out.1 C1.out.2⟩
end Go.Proofs.YtalpilbpgkijlaaDoor
