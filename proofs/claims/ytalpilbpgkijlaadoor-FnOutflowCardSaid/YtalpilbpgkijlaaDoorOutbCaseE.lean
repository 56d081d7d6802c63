/- spec.Outbound's rounds, some cases (the walks). No condition beside what each names. -/
import Derived.Test.YtalpilbpgkijlaaDoorOutbBody
import Derived.BigRegion
namespace Go.Proofs.YtalpilbpgkijlaaDoor
open Go.RowKit
set_option maxRecDepth 1000000
set_option maxHeartbeats 8000000
theorem outb_f (w : World) (al : List StepA) (B j gk : Nat) (s : OutS) (rs : List ResA) (ad : Option Addr) (cp : Nat) (wr : World) (u2 u3 u8 u9 u10 u12 u16 u17 u18 u19 u20 u21 u22 u23 u24 u25 u26 u27 u28 u29 u30 u31 u32 u33 u34 u35 u36 u37 u38 u39 u40 u41 u42 u43 u44 u45 u46 u47 u48 u49 u50 u51 u52 u53 u54 u55 u56 u57 u58 u59 u60 u61 u62 u63 u64 u65 u66 u67 u68 u69 u70 u71 u72 u73 u74 u75 u76 u77 u78 u79 u80 u81 u82 u83 u84 u85 u86 u87 u88 u89 u90 u91 u92 u93 u94 u95 u96 u97 u98 u99 u100 u101 u102 u103 u104 u105 u106 u107 u108 u109 u110 u111 u112 u113 u114 u115 u116 u117 u118 u119 u120 u121 u122 u123 u124 u125 u126 u127 u128 u129 u130 u131 u132 u133 u134 u135 u136 u137 u138 u139 u140 u141 u142 u143 u144 u145 u146 u147 u148 u149 u150 u151 u152 u153 u154 u155 u156 u157 u158 u159 u160 u161 u162 u163 u164 u165 u166 u167 u168 u169 u170 u171 u172 u173 u174 u175 u176 u177 u178 u179 u180 u181 u182 u183 u184 u185 u186 u187 u188 u189 u190 u191 u192 u193 u194 u195 u196 u197 : Value) (J : Nat → Act → World → Prop) (K K1 : Act → World → Prop) (hlen : al.length ≤ 1000)
    (hv : StepsR (fun _ => True) w (.slice ad al.length cp) al) (hform : ∀ j, j < al.length → ∃ pb po ps, ad = some ⟨pb, po, ps⟩) (hk : gk + j = al.length) (hjl : j ≤ al.length) (hC : OutbCore al w B j s rs u2 wr) (hj : j < al.length) (hsel : 0 ≤ al[j].which ∧ al[j].which ≤ 3 ∧ al[j].what = 4)
    (hJ : ∀ (k : Nat) (a' : Act) (w' : World), (∃ u2 u3 u4 u5 u8 u9 u10 u12 u15 u16 u17 u18 u19 u20 u21 u22 u23 u24 u25 u26 u27 u28 u29 u30 u31 u32 u33 u34 u35 u36 u37 u38 u39 u40 u41 u42 u43 u44 u45 u46 u47 u48 u49 u50 u51 u52 u53 u54 u55 u56 u57 u58 u59 u60 u61 u62 u63 u64 u65 u66 u67 u68 u69 u70 u71 u72 u73 u74 u75 u76 u77 u78 u79 u80 u81 u82 u83 u84 u85 u86 u87 u88 u89 u90 u91 u92 u93 u94 u95 u96 u97 u98 u99 u100 u101 u102 u103 u104 u105 u106 u107 u108 u109 u110 u111 u112 u113 u114 u115 u116 u117 u118 u119 u120 u121 u122 u123 u124 u125 u126 u127 u128 u129 u130 u131 u132 u133 u134 u135 u136 u137 u138 u139 u140 u141 u142 u143 u144 u145 u146 u147 u148 u149 u150 u151 u152 u153 u154 u155 u156 u157 u158 u159 u160 u161 u162 u163 u164 u165 u166 u167 u168 u169 u170 u171 u172 u173 u174 u175 u176 u177 u178 u179 u180 u181 u182 u183 u184 u185 u186 u187 u188 u189 u190 u191 u192 u193 u194 u195 u196 u197 : Value, OutbRel al w B k u2 u4 u5 u15 w' ∧ a' = ⟨#[.slice ad al.length cp, undef, u2, u3, u4, u5, .pointer (some ⟨B, 0, none⟩), undef, u8, u9, u10, undef, u12, .slice ad al.length cp, .int .i64 al.length, u15, u16, u17, u18, u19, u20, u21, u22, u23, u24, u25, u26, u27, u28, u29, u30, u31, u32, u33, u34, u35, u36, u37, u38, u39, u40, u41, u42, u43, u44, u45, u46, u47, u48, u49, u50, u51, u52, u53, u54, u55, u56, u57, u58, u59, u60, u61, u62, u63, u64, u65, u66, u67, u68, u69, u70, u71, u72, u73, u74, u75, u76, u77, u78, u79, u80, u81, u82, u83, u84, u85, u86, u87, u88, u89, u90, u91, u92, u93, u94, u95, u96, u97, u98, u99, u100, u101, u102, u103, u104, u105, u106, u107, u108, u109, u110, u111, u112, u113, u114, u115, u116, u117, u118, u119, u120, u121, u122, u123, u124, u125, u126, u127, u128, u129, u130, u131, u132, u133, u134, u135, u136, u137, u138, u139, u140, u141, u142, u143, u144, u145, u146, u147, u148, u149, u150, u151, u152, u153, u154, u155, u156, u157, u158, u159, u160, u161, u162, u163, u164, u165, u166, u167, u168, u169, u170, u171, u172, u173, u174, u175, u176, u177, u178, u179, u180, u181, u182, u183, u184, u185, u186, u187, u188, u189, u190, u191, u192, u193, u194, u195, u196, u197, undef], []⟩) → J k a' w') (hK : ∀ (a' : Act) (w' : World), Handed J gk a' w' → K a' w') :
    Code.wp Tryd.prog outbBody (Exit.then K (Exit.inBlock 0 (Exit.then K1 (bodyPost Tryd.prog Tryd.f17 (OutbPost al w))))) ⟨#[.slice ad al.length cp, undef, u2, u3, .int .i64 s.cn, .int .i64 s.ini, .pointer (some ⟨B, 0, none⟩), undef, u8, u9, u10, undef, u12, .slice ad al.length cp, .int .i64 al.length, .int .i64 j, u16, u17, u18, u19, u20, u21, u22, u23, u24, u25, u26, u27, u28, u29, u30, u31, u32, u33, u34, u35, u36, u37, u38, u39, u40, u41, u42, u43, u44, u45, u46, u47, u48, u49, u50, u51, u52, u53, u54, u55, u56, u57, u58, u59, u60, u61, u62, u63, u64, u65, u66, u67, u68, u69, u70, u71, u72, u73, u74, u75, u76, u77, u78, u79, u80, u81, u82, u83, u84, u85, u86, u87, u88, u89, u90, u91, u92, u93, u94, u95, u96, u97, u98, u99, u100, u101, u102, u103, u104, u105, u106, u107, u108, u109, u110, u111, u112, u113, u114, u115, u116, u117, u118, u119, u120, u121, u122, u123, u124, u125, u126, u127, u128, u129, u130, u131, u132, u133, u134, u135, u136, u137, u138, u139, u140, u141, u142, u143, u144, u145, u146, u147, u148, u149, u150, u151, u152, u153, u154, u155, u156, u157, u158, u159, u160, u161, u162, u163, u164, u165, u166, u167, u168, u169, u170, u171, u172, u173, u174, u175, u176, u177, u178, u179, u180, u181, u182, u183, u184, u185, u186, u187, u188, u189, u190, u191, u192, u193, u194, u195, u196, u197, undef], []⟩ wr := by
  conv => arg 2; whnf
  have hmax : al.length ≤ 9223372036854775807 := by omega
  have HV := Lib.hid hv
  have HF := Lib.hid hform
  clear hv hform
  have hB := hC.hB
  have A := Lib.hid hC
  · obtain ⟨pb, po, ps, rfl⟩ := HF.out j hj
    obtain ⟨rfl, x, ⟨e1, e2, e3, b1, b2, b3, _⟩, r0, r1, r2, r3⟩ := HV.out.at hC.same hj
    have hcl := World.block_lt_of_cell? _ _ r0
    simp only at hcl
    have hbl := hC.blk.lt
    have nB0 : ¬ B = wr.heap.size := by omega
    have nB1 : ¬ B = wr.heap.size + 1 := by omega
    have nB2 : ¬ B = wr.heap.size + 2 := by omega
    have np0 : ¬ pb = wr.heap.size := by omega
    have np1 : ¬ pb = wr.heap.size + 1 := by omega
    rw [e1] at r0
    rw [e2] at r1
    rw [e3] at r2
    have N := Lib.hid (fun r s' W w2 v1 => OutbCore.next (al := al) (w := w) (wr := wr) (W := W) (w2 := w2) (v1 := v1) (B := B) (j := j) (s := s) (s' := s') (rs := rs) (v := u2) (r := r) hC hj)
    have P := Lib.hid (fun r s' W w2 v1 => OutbCore.stop (al := al) (w := w) (wr := wr) (W := W) (w2 := w2) (v1 := v1) (B := B) (j := j) (s := s) (s' := s') (rs := rs) (v := u2) (r := r) hC hj)
    have D := Lib.hid (fun W w2 v1 => OutbCore.die (al := al) (w := w) (wr := wr) (W := W) (w2 := w2) (v1 := v1) (B := B) (j := j) (s := s) (rs := rs) (v := u2) hC hj)
    generalize al[j] = a at hsel r0 r1 r2 e1 e2 e3 b1 b2 b3 N P D
    obtain ⟨we, w0, w1, w2, w3, wd⟩ := hC.win
    have WD := Lib.hid wd
    clear hC e1 e2 e3 HF HV wd
    have HB := Lib.hid hB
    clear hB
    have lt1 := Lib.hid A.out.own.lt
    have b3l : -9223372036854775808 ≤ a.n := b3.1
    have b3h : a.n ≤ 9223372036854775807 := b3.2
    clear b1 b2 b3 hbl hcl
    rcases (show a.which < 0 ∨ 3 < a.which ∨ (0 ≤ a.which ∧ a.which ≤ 3) by omega) with hx | hx | hx
    · (exfalso; omega)
    · (exfalso; omega)
    · obtain ⟨k, hk, hx⟩ : ∃ k : Nat, k < 4 ∧ a.which = (k : Int) := ⟨a.which.toNat, by omega, by omega⟩
      rw [hx] at r1
      have hk0 : (0 : Int) ≤ (k : Int) := by omega
      have hk4 : (k : Int) < 4 := by omega
      have dk := WD.out k hk
      obtain ⟨dk0, dk1⟩ := dk
      have ck : wr.cell? ⟨B, k, none⟩ = some (.int .i64 (s.d k)) := (A.out.blk.cell k).trans (CI_get _ hk)
      have fk : wr.frozen? ⟨B, k, none⟩ = false := A.out.blk.free k
      have gk0 : ∀ o o', ((wr.alloc o).alloc o').cell? ⟨B, k, none⟩ = some (.int .i64 (s.d k)) := fun o o' => (((A.out.blk.alloc o).alloc o').cell k).trans (CI_get _ hk)
      have kk0 : ∀ o o', ((wr.alloc o).alloc o').frozen? ⟨B, k, none⟩ = false := fun o o' => ((A.out.blk.alloc o).alloc o').free k
      have ys : IntKind.i64.wrap (s.ini + s.d k) = s.ini + s.d k := IntWalk.i64_in _ (by omega)
      rcases (show a.what < 0 ∨ 4 < a.what ∨ a.what = 0 ∨ a.what = 1 ∨ a.what = 2 ∨ a.what = 3 ∨ a.what = 4 by omega) with h1 | h1 | h1 | h1 | h1 | h1 | h1
      · (exfalso; omega)
      · (exfalso; omega)
      · rw [h1] at r0
        by_cases h_big : 2147483647 < a.n
        · (exfalso; omega)
        by_cases h_low : a.n < -1073741824
        · (exfalso; omega)
        by_cases h_neg : a.n < 0
        · (exfalso; omega)
        by_cases hm : s.ini + s.d k ≤ s.cn
        · by_cases h_hi0 : 2147483647 < a.n + s.d 0
          · (exfalso; omega)
          by_cases h_lo0 : a.n + s.d 0 < -1073741824
          · (exfalso; omega)
          by_cases h_hi1 : 2147483647 < a.n + s.d 1
          · (exfalso; omega)
          by_cases h_lo1 : a.n + s.d 1 < -1073741824
          · (exfalso; omega)
          by_cases h_hi2 : 2147483647 < a.n + s.d 2
          · (exfalso; omega)
          by_cases h_lo2 : a.n + s.d 2 < -1073741824
          · (exfalso; omega)
          by_cases h_hi3 : 2147483647 < a.n + s.d 3
          · (exfalso; omega)
          by_cases h_lo3 : a.n + s.d 3 < -1073741824
          · (exfalso; omega)
          (exfalso; omega)
        by_cases h_hi0 : 2147483647 < a.n + s.d 0
        · (exfalso; omega)
        by_cases h_lo0 : a.n + s.d 0 < -1073741824
        · (exfalso; omega)
        by_cases h_hi1 : 2147483647 < a.n + s.d 1
        · (exfalso; omega)
        by_cases h_lo1 : a.n + s.d 1 < -1073741824
        · (exfalso; omega)
        by_cases h_hi2 : 2147483647 < a.n + s.d 2
        · (exfalso; omega)
        by_cases h_lo2 : a.n + s.d 2 < -1073741824
        · (exfalso; omega)
        by_cases h_hi3 : 2147483647 < a.n + s.d 3
        · (exfalso; omega)
        by_cases h_lo3 : a.n + s.d 3 < -1073741824
        · (exfalso; omega)
        (exfalso; omega)
      · rw [h1] at r0
        by_cases h_big : 2147483647 < a.n
        · (exfalso; omega)
        by_cases h_low : a.n < -1073741824
        · (exfalso; omega)
        by_cases h_neg : a.n < 0
        · by_cases hm : s.ini + s.d k ≤ s.cn
          · by_cases h_lo : s.cn + a.n < -1073741824
            · (exfalso; omega)
            by_cases h_hi : 2147483647 < s.cn + a.n
            · (exfalso; omega)
            (exfalso; omega)
          · by_cases h_lo : s.cn + a.n < -1073741824
            · (exfalso; omega)
            by_cases h_hi : 2147483647 < s.cn + a.n
            · (exfalso; omega)
            (exfalso; omega)
        by_cases hm : s.ini + s.d k ≤ s.cn
        · by_cases h_lo : s.cn + a.n < -1073741824
          · (exfalso; omega)
          by_cases h_hi : 2147483647 < s.cn + a.n
          · (exfalso; omega)
          (exfalso; omega)
        by_cases h_lo : s.cn + a.n < -1073741824
        · (exfalso; omega)
        by_cases h_hi : 2147483647 < s.cn + a.n
        · (exfalso; omega)
        (exfalso; omega)
      · rw [h1] at r0
        by_cases h_big : 2147483647 < a.n
        · (exfalso; omega)
        by_cases h_low : a.n < -1073741824
        · (exfalso; omega)
        by_cases h_neg : a.n < 0
        · by_cases hm : s.ini + s.d k ≤ s.cn
          · by_cases h_lo : s.d k + a.n < -1073741824
            · (exfalso; omega)
            by_cases h_hi : 2147483647 < s.ini + s.d k + a.n
            · (exfalso; omega)
            (exfalso; omega)
          · by_cases h_lo : s.d k + a.n < -1073741824
            · (exfalso; omega)
            by_cases h_hi : 2147483647 < s.ini + s.d k + a.n
            · (exfalso; omega)
            (exfalso; omega)
        by_cases hm : s.ini + s.d k ≤ s.cn
        · by_cases h_lo : s.d k + a.n < -1073741824
          · (exfalso; omega)
          by_cases h_hi : 2147483647 < s.ini + s.d k + a.n
          · (exfalso; omega)
          (exfalso; omega)
        by_cases h_lo : s.d k + a.n < -1073741824
        · (exfalso; omega)
        by_cases h_hi : 2147483647 < s.ini + s.d k + a.n
        · (exfalso; omega)
        (exfalso; omega)
      · rw [h1] at r0
        by_cases h_big : 2147483647 < a.n
        · (exfalso; omega)
        by_cases h_low : a.n < -1073741824
        · (exfalso; omega)
        by_cases h_neg : a.n < 0
        · by_cases hm : s.ini + s.d k ≤ s.cn
          · (exfalso; omega)
          · (exfalso; omega)
        by_cases hm : s.ini + s.d k ≤ s.cn
        · (exfalso; omega)
        (exfalso; omega)
      · rw [h1] at r0
        by_cases h_big : 2147483647 < a.n
        · go_wp2
          go_ret2
          exact A.out.no hjl (by (repeat (first | (with_reducible exact Same.refl _ _) | (with_reducible apply Same.drewN) | (with_reducible apply Same.drew) | (with_reducible apply Same.alloc) | (with_reducible apply Same.set') | (intro h; first | exact rfl | omega | (exfalso; simp at h <;> omega)))))
        by_cases h_low : a.n < -1073741824
        · go_wp2
          go_ret2
          exact A.out.no hjl (by (repeat (first | (with_reducible exact Same.refl _ _) | (with_reducible apply Same.drewN) | (with_reducible apply Same.drew) | (with_reducible apply Same.alloc) | (with_reducible apply Same.set') | (intro h; first | exact rfl | omega | (exfalso; simp at h <;> omega)))))
        by_cases h_neg : a.n < 0
        · go_wp2
          go_ret2
          exact A.out.no hjl (by (repeat (first | (with_reducible exact Same.refl _ _) | (with_reducible apply Same.drewN) | (with_reducible apply Same.drew) | (with_reducible apply Same.alloc) | (with_reducible apply Same.set') | (intro h; first | exact rfl | omega | (exfalso; simp at h <;> omega)))))
        by_cases hm : s.ini + s.d k ≤ s.cn
        · by_cases h_die : s.ini + s.d k < a.n
          · have hx32 : wrap32 (s.ini + s.d k) = s.ini + s.d k := wrap32_in ⟨by omega, by omega⟩
            have hw32' : wrap32 a.n = a.n := wrap32_in ⟨by omega, by omega⟩
            have hdd : DieOut s a := DieOut.die h1 k hk hx we (by omega) (by rw [hx32, hw32']; omega)
            have HS := Lib.hid hdd
            clear hdd
            obtain ⟨i0, hi, hz0, hz1, hz2⟩ := info_parts info61
            go_wp2_with (at_builtin; refine wpList_append_own2 _ rfl _ _ 36 rfl (B + 1) 61 i0 (.agg #[.int .i64 0, .bool false, .slice none 0 0, .bool false]) 4 48 Tryd.underlying36 hi hz0 hz1 hz2 rfl (by decide) _ j (rs.map ResA.cells).flatten rfl ?own _ 1 1 (ResA.cells ⟨0, false, [], true⟩) rfl rfl ?c1 ?c2 ?c3 ?c4 ?c5 ?_)
            case own => exact ownsRow_same A.out.own (F := fun k => k = B) (by (repeat (first | (with_reducible exact Same.refl _ _) | (with_reducible apply Same.drewN) | (with_reducible apply Same.drew) | (with_reducible apply Same.alloc) | (with_reducible apply Same.set') | (intro h; first | exact rfl | omega | (exfalso; simp at h <;> omega))))) (fun g hg h => by have := lt1.out g hg; omega)
            case c1 => first | exact cells_at (by first | rfl | simp [World.setCell] | simp) (by first | rfl | (simp [ResA.cells]; omega)) | (intro j u hu; refine Eq.trans (congrArg (fun l : List Value => l[j]?) ?_) hu; first | rfl | (simp [ResA.cells]; omega))
            case c2 => exact resA_one _
            case c3 => unfold maxLen; omega
            case c4 => omega
            case c5 => have := A.out.blk.lt; first | omega | (simp [World.setCell]; omega) | (simp; omega)
            intro v1 w2' hown1 hgrow1 _
            have C1 := Lib.hid (And.intro hown1 hgrow1)
            clear hown1 hgrow1
            go_wp2
            go_ret2
            exact D.out _ _ _ (HS.out) (by (repeat (first | (with_reducible exact Same.refl _ _) | (with_reducible apply Same.drewN) | (with_reducible apply Same.drew) | (with_reducible apply Same.alloc) | (with_reducible apply Same.set') | (intro h; first | exact rfl | omega | (exfalso; simp at h <;> omega))))) C1.out.1 C1.out.2
          by_cases h_lo : s.d k - a.n < -1073741824
          · have y0 : IntKind.i64.wrap (s.d k - a.n) = s.d k - a.n := IntWalk.i64_in _ (by omega)
            have y1 : IntKind.i64.wrap (s.cn - a.n) = s.cn - a.n := IntWalk.i64_in _ (by omega)
            go_wp2
            go_quiet (fail)
            go_wp2
            go_ret2
            exact A.out.no hjl (by (repeat (first | (with_reducible exact Same.refl _ _) | (with_reducible apply Same.drewN) | (with_reducible apply Same.drew) | (with_reducible apply Same.alloc) | (with_reducible apply Same.set') | (intro h; first | exact rfl | omega | (exfalso; simp at h <;> omega)))))
          have y0 : IntKind.i64.wrap (s.d k - a.n) = s.d k - a.n := IntWalk.i64_in _ (by omega)
          have y1 : IntKind.i64.wrap (s.cn - a.n) = s.cn - a.n := IntWalk.i64_in _ (by omega)
          have hx32 : wrap32 (s.ini + s.d k) = s.ini + s.d k := wrap32_in ⟨by omega, by omega⟩
          have hw32' : wrap32 a.n = a.n := wrap32_in ⟨by omega, by omega⟩
          have hw32 : wrap32 a.n = a.n := wrap32_in ⟨by omega, by omega⟩
          have hxa : wrap32 (s.cn - a.n) = s.cn - a.n := wrap32_in ⟨by omega, by omega⟩
          have hxb : wrap32 (s.d k - a.n) = s.d k - a.n := wrap32_in ⟨by omega, by omega⟩
          have hst : StpOut s a ⟨0, false, [], false⟩ ⟨s.ini, s.cn - a.n, s.err, upd s.d k (s.d k - a.n)⟩ := by
            have h := StpOut.take (s := s) (x := a) h1 k hk hx we (by omega) (by rw [hx32, hw32']; omega)
            try rw [hw32] at h
            try rw [hxa] at h
            try rw [hxb] at h
            exact h
          have hwin : OutWin ⟨s.ini, s.cn - a.n, s.err, upd s.d k (s.d k - a.n)⟩ := ⟨A.out.win.1, by show -1073741824 ≤ s.cn - a.n; omega, by show s.cn - a.n ≤ 2147483647; omega, A.out.win.2.2.2.1, A.out.win.2.2.2.2.1, fun i hi => by
              show -1073741824 ≤ upd s.d k (s.d k - a.n) i ∧ s.ini + upd s.d k (s.d k - a.n) i ≤ 2147483647
              unfold upd
              split
              · exact ⟨by omega, by omega⟩
              · exact WD.out i hi⟩
          have HS := Lib.hid (And.intro hst hwin)
          clear hst hwin
          go_wp2
          go_quiet (fail)
          go_wp2
          go_region
          obtain ⟨i0, hi, hz0, hz1, hz2⟩ := info_parts info61
          go_wp2_with (at_builtin; refine wpList_append_own2 _ rfl _ _ 36 rfl (B + 1) 61 i0 (.agg #[.int .i64 0, .bool false, .slice none 0 0, .bool false]) 4 48 Tryd.underlying36 hi hz0 hz1 hz2 rfl (by decide) _ j (rs.map ResA.cells).flatten rfl ?own _ 1 1 (ResA.cells ⟨0, false, [], false⟩) rfl rfl ?c1 ?c2 ?c3 ?c4 ?c5 ?_)
          case own => exact ownsRow_same A.out.own (F := fun k => k = B) (by (repeat (first | (with_reducible exact Same.refl _ _) | (with_reducible apply Same.drewN) | (with_reducible apply Same.drew) | (with_reducible apply Same.alloc) | (with_reducible apply Same.set') | (intro h; first | exact rfl | omega | (exfalso; simp at h <;> omega))))) (fun g hg h => by have := lt1.out g hg; omega)
          case c1 => first | exact cells_at (by first | rfl | simp [World.setCell] | simp) (by first | rfl | (simp [ResA.cells]; omega)) | (intro j u hu; refine Eq.trans (congrArg (fun l : List Value => l[j]?) ?_) hu; first | rfl | (simp [ResA.cells]; omega))
          case c2 => exact resA_one _
          case c3 => unfold maxLen; omega
          case c4 => omega
          case c5 => have := A.out.blk.lt; first | omega | (simp [World.setCell]; omega) | (simp; omega)
          intro v1 w2' hown1 hgrow1 _
          have C1 := Lib.hid (And.intro hown1 hgrow1)
          clear hown1 hgrow1
          go_wp2
          go_roundg (gk - 1)
          case measure => omega
          case rel => exact ⟨j + 1, ⟨s.ini, s.cn - a.n, s.err, upd s.d k (s.d k - a.n)⟩, rs ++ [⟨0, false, [], false⟩], by omega, rfl, by omega, rfl, rfl, N.out ⟨0, false, [], false⟩ ⟨s.ini, s.cn - a.n, s.err, upd s.d k (s.d k - a.n)⟩ _ _ _ (HS.out.1) rfl rfl ⟨by first | omega | (simp only; omega), by first | omega | (simp only; omega)⟩ (HS.out.2) (by (repeat (first | (with_reducible exact A.out.blk) | (with_reducible apply Blk.drewN) | (with_reducible apply Blk.drew) | (with_reducible apply Blk.alloc) | (with_reducible apply Blk.other' (hp := nB0)) | (with_reducible apply Blk.other' (hp := nB1)) | (with_reducible apply Blk.set') | (exact rfl) | (exact CI_set _ hk _)))) (by (repeat (first | (with_reducible exact Same.refl _ _) | (with_reducible apply Same.drewN) | (with_reducible apply Same.drew) | (with_reducible apply Same.alloc) | (with_reducible apply Same.set') | (intro h; first | exact rfl | omega | (exfalso; simp at h <;> omega))))) C1.out.1 C1.out.2⟩
        by_cases h_die : s.cn < a.n
        · have hx32 : wrap32 (s.ini + s.d k) = s.ini + s.d k := wrap32_in ⟨by omega, by omega⟩
          have hw32' : wrap32 a.n = a.n := wrap32_in ⟨by omega, by omega⟩
          have hdd : DieOut s a := DieOut.die h1 k hk hx we (by omega) (by rw [hx32, hw32']; omega)
          have HS := Lib.hid hdd
          clear hdd
          obtain ⟨i0, hi, hz0, hz1, hz2⟩ := info_parts info61
          go_wp2_with (at_builtin; refine wpList_append_own2 _ rfl _ _ 36 rfl (B + 1) 61 i0 (.agg #[.int .i64 0, .bool false, .slice none 0 0, .bool false]) 4 48 Tryd.underlying36 hi hz0 hz1 hz2 rfl (by decide) _ j (rs.map ResA.cells).flatten rfl ?own _ 1 1 (ResA.cells ⟨0, false, [], true⟩) rfl rfl ?c1 ?c2 ?c3 ?c4 ?c5 ?_)
          case own => exact ownsRow_same A.out.own (F := fun k => k = B) (by (repeat (first | (with_reducible exact Same.refl _ _) | (with_reducible apply Same.drewN) | (with_reducible apply Same.drew) | (with_reducible apply Same.alloc) | (with_reducible apply Same.set') | (intro h; first | exact rfl | omega | (exfalso; simp at h <;> omega))))) (fun g hg h => by have := lt1.out g hg; omega)
          case c1 => first | exact cells_at (by first | rfl | simp [World.setCell] | simp) (by first | rfl | (simp [ResA.cells]; omega)) | (intro j u hu; refine Eq.trans (congrArg (fun l : List Value => l[j]?) ?_) hu; first | rfl | (simp [ResA.cells]; omega))
          case c2 => exact resA_one _
          case c3 => unfold maxLen; omega
          case c4 => omega
          case c5 => have := A.out.blk.lt; first | omega | (simp [World.setCell]; omega) | (simp; omega)
          intro v1 w2' hown1 hgrow1 _
          have C1 := Lib.hid (And.intro hown1 hgrow1)
          clear hown1 hgrow1
          go_wp2
          go_ret2
          exact D.out _ _ _ (HS.out) (by (repeat (first | (with_reducible exact Same.refl _ _) | (with_reducible apply Same.drewN) | (with_reducible apply Same.drew) | (with_reducible apply Same.alloc) | (with_reducible apply Same.set') | (intro h; first | exact rfl | omega | (exfalso; simp at h <;> omega))))) C1.out.1 C1.out.2
        by_cases h_lo : s.d k - a.n < -1073741824
        · have y0 : IntKind.i64.wrap (s.d k - a.n) = s.d k - a.n := IntWalk.i64_in _ (by omega)
          have y1 : IntKind.i64.wrap (s.cn - a.n) = s.cn - a.n := IntWalk.i64_in _ (by omega)
          go_wp2
          go_quiet (fail)
          go_wp2
          go_ret2
          exact A.out.no hjl (by (repeat (first | (with_reducible exact Same.refl _ _) | (with_reducible apply Same.drewN) | (with_reducible apply Same.drew) | (with_reducible apply Same.alloc) | (with_reducible apply Same.set') | (intro h; first | exact rfl | omega | (exfalso; simp at h <;> omega)))))
        have y0 : IntKind.i64.wrap (s.d k - a.n) = s.d k - a.n := IntWalk.i64_in _ (by omega)
        have y1 : IntKind.i64.wrap (s.cn - a.n) = s.cn - a.n := IntWalk.i64_in _ (by omega)
        have hx32 : wrap32 (s.ini + s.d k) = s.ini + s.d k := wrap32_in ⟨by omega, by omega⟩
        have hw32' : wrap32 a.n = a.n := wrap32_in ⟨by omega, by omega⟩
        have hw32 : wrap32 a.n = a.n := wrap32_in ⟨by omega, by omega⟩
        have hxa : wrap32 (s.cn - a.n) = s.cn - a.n := wrap32_in ⟨by omega, by omega⟩
        have hxb : wrap32 (s.d k - a.n) = s.d k - a.n := wrap32_in ⟨by omega, by omega⟩
        have hst : StpOut s a ⟨0, false, [], false⟩ ⟨s.ini, s.cn - a.n, s.err, upd s.d k (s.d k - a.n)⟩ := by
          have h := StpOut.take (s := s) (x := a) h1 k hk hx we (by omega) (by rw [hx32, hw32']; omega)
          try rw [hw32] at h
          try rw [hxa] at h
          try rw [hxb] at h
          exact h
        have hwin : OutWin ⟨s.ini, s.cn - a.n, s.err, upd s.d k (s.d k - a.n)⟩ := ⟨A.out.win.1, by show -1073741824 ≤ s.cn - a.n; omega, by show s.cn - a.n ≤ 2147483647; omega, A.out.win.2.2.2.1, A.out.win.2.2.2.2.1, fun i hi => by
            show -1073741824 ≤ upd s.d k (s.d k - a.n) i ∧ s.ini + upd s.d k (s.d k - a.n) i ≤ 2147483647
            unfold upd
            split
            · exact ⟨by omega, by omega⟩
            · exact WD.out i hi⟩
        have HS := Lib.hid (And.intro hst hwin)
        clear hst hwin
        go_wp2
        go_quiet (fail)
        go_wp2
        go_region
        obtain ⟨i0, hi, hz0, hz1, hz2⟩ := info_parts info61
        go_wp2_with (at_builtin; refine wpList_append_own2 _ rfl _ _ 36 rfl (B + 1) 61 i0 (.agg #[.int .i64 0, .bool false, .slice none 0 0, .bool false]) 4 48 Tryd.underlying36 hi hz0 hz1 hz2 rfl (by decide) _ j (rs.map ResA.cells).flatten rfl ?own _ 1 1 (ResA.cells ⟨0, false, [], false⟩) rfl rfl ?c1 ?c2 ?c3 ?c4 ?c5 ?_)
        case own => exact ownsRow_same A.out.own (F := fun k => k = B) (by (repeat (first | (with_reducible exact Same.refl _ _) | (with_reducible apply Same.drewN) | (with_reducible apply Same.drew) | (with_reducible apply Same.alloc) | (with_reducible apply Same.set') | (intro h; first | exact rfl | omega | (exfalso; simp at h <;> omega))))) (fun g hg h => by have := lt1.out g hg; omega)
        case c1 => first | exact cells_at (by first | rfl | simp [World.setCell] | simp) (by first | rfl | (simp [ResA.cells]; omega)) | (intro j u hu; refine Eq.trans (congrArg (fun l : List Value => l[j]?) ?_) hu; first | rfl | (simp [ResA.cells]; omega))
        case c2 => exact resA_one _
        case c3 => unfold maxLen; omega
        case c4 => omega
        case c5 => have := A.out.blk.lt; first | omega | (simp [World.setCell]; omega) | (simp; omega)
        intro v1 w2' hown1 hgrow1 _
        have C1 := Lib.hid (And.intro hown1 hgrow1)
        clear hown1 hgrow1
        go_wp2
        go_roundg (gk - 1)
        case measure => omega
        case rel => exact ⟨j + 1, ⟨s.ini, s.cn - a.n, s.err, upd s.d k (s.d k - a.n)⟩, rs ++ [⟨0, false, [], false⟩], by omega, rfl, by omega, rfl, rfl, N.out ⟨0, false, [], false⟩ ⟨s.ini, s.cn - a.n, s.err, upd s.d k (s.d k - a.n)⟩ _ _ _ (HS.out.1) rfl rfl ⟨by first | omega | (simp only; omega), by first | omega | (simp only; omega)⟩ (HS.out.2) (by (repeat (first | (with_reducible exact A.out.blk) | (with_reducible apply Blk.drewN) | (with_reducible apply Blk.drew) | (with_reducible apply Blk.alloc) | (with_reducible apply Blk.other' (hp := nB0)) | (with_reducible apply Blk.other' (hp := nB1)) | (with_reducible apply Blk.set') | (exact rfl) | (exact CI_set _ hk _)))) (by (repeat (first | (with_reducible exact Same.refl _ _) | (with_reducible apply Same.drewN) | (with_reducible apply Same.drew) | (with_reducible apply Same.alloc) | (with_reducible apply Same.set') | (intro h; first | exact rfl | omega | (exfalso; simp at h <;> omega))))) C1.out.1 C1.out.2⟩
end Go.Proofs.YtalpilbpgkijlaaDoor
