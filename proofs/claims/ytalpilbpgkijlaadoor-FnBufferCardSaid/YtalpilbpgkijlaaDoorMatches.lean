/- spec.Matches answers true where what is wanted is what came, as far as it goes (the walk). No condition. -/
import Derived.Test.YtalpilbpgkijlaaDoorCopies
import Derived.Laws.BytesString
namespace Go.Proofs.YtalpilbpgkijlaaDoor
open Go.RowKit
set_option maxRecDepth 100000
set_option maxHeartbeats 2000000

theorem push_all : ∀ (l : List UInt8) (s : ByteArray), (l.map fun b => (b.toNat : Int)).foldl (fun r n => r.push (UInt8.ofNat n.toNat)) s = ⟨s.data ++ l.toArray⟩ := by
  intro l
  induction l with
  | nil => intro s; simp
  | cons b l ih =>
    intro s
    simp only [List.map_cons, List.foldl_cons]
    rw [ih]
    have e : UInt8.ofNat (b.toNat : Int).toNat = b := by simp
    rw [e]
    show ByteArray.mk (s.data.push b ++ l.toArray) = _
    congr 1
    apply Array.ext'
    simp

theorem convert_bytes {G : Nat → Prop} {w : World} {ad : Option Addr} {ln cp : Nat} {l : List UInt8} (h : BytesAt G w ad ln cp l) : (convert 24 9 (.slice ad ln cp)).run Tryd.prog w = .ok (.string ⟨l.toArray⟩) w := by
  obtain ⟨h1, h2, h3, h4, h5⟩ := h
  rw [run_convert_bytes_string w 24 9 5 ad ln cp Tryd.underlying24 Tryd.underlying5 Tryd.underlying9]
  cases ad with
  | none =>
    obtain ⟨rfl, rfl⟩ := h4 rfl
    have : l = [] := List.eq_nil_of_length_eq_zero h1
    subst this
    rfl
  | some p =>
    have hl : (loadCells p ln).run Tryd.prog w = .ok ((l.map fun b => (b.toNat : Int)).map (Value.int .u8)).toArray w := by
      have := run_loadCells_list (P := Tryd.prog) w p ((l.map fun b => (b.toNat : Int)).map (Value.int .u8)) (fun j v hv => by
        have hj : j < ln := by
          have := (List.getElem?_eq_some_iff.1 hv).1
          simpa [h1] using this
        obtain ⟨sp, _, hc⟩ := h5 p rfl j hj
        have ea : p.add j = ⟨p.block, p.off + j, none⟩ := by
          unfold Addr.add
          split
          · rename_i h0
            subst h0
            cases p
            simp at sp
            simp [sp]
          · rfl
        rw [ea, hc]
        have hj' : j < l.length := by omega
        simp only [List.getElem?_map, List.getElem?_eq_getElem hj', Option.map_some] at hv
        rw [← hv]
        simp [List.getD, List.getElem?_eq_getElem hj'])
      simpa [h1] using this
    rw [run_bytesToString w p ln cp (l.map fun b => (b.toNat : Int)) hl, push_all]
    simp

def MatRel (ws : List ResA) (w : World) (k : Nat) (i : Value) (wr : World) : Prop := ∃ j : Nat, k + j = ws.length ∧ i = .int .i64 j ∧ j ≤ ws.length ∧ Same (fun _ => False) w wr

theorem matches_part (w : World) (vw vg : Value) (ws gs : List ResA) (hw : ResultsR (fun _ => True) w vw ws) (hg : ResultsR (fun _ => True) w vg gs)
    (hle : ws.length ≤ gs.length) (heq : ∀ j (h : j < ws.length), gs[j]? = some ws[j]) :
    Calls Tryd.prog 11 #[vw, vg, .bool false] w fun e w' => e = .returned (.bool true) ∧ Same (fun _ => False) w w' := by
  obtain ⟨adw, cpw, rfl, hmw, hfw⟩ := RowR.form hw
  obtain ⟨adg, cpg, rfl, hmg, hfg⟩ := RowR.form hg
  have HW := Lib.hid (And.intro hw hg)
  have HF := Lib.hid (And.intro hfw hfg)
  have HE := Lib.hid heq
  clear hw hg hfw hfg heq
  have k1 : ¬ ((gs.length : Int) < (ws.length : Int)) := by omega
  go_enter Tryd.func11, Tryd.ntmps11
  go_wp2
  go_loopg [27] ws.length (fun k i wr => MatRel ws w k i wr)
  case atStart => exact ⟨0, rfl, rfl, Nat.zero_le _, Same.refl _ _⟩
  case round =>
    obtain ⟨j, hk, rfl, hjl, hS⟩ := hrel
    by_cases hj : j < ws.length
    · have hjg : j < gs.length := by omega
      obtain ⟨pb, po, ps, rfl⟩ := HF.out.1 j hj
      obtain ⟨gb, go, gp, rfl⟩ := HF.out.2 j hjg
      obtain ⟨rfl, x, ⟨e0, e1, e3, eb, ey⟩, q0, q1, q2, q3⟩ := HW.out.1.at hS hj
      obtain ⟨rfl, y, ⟨d0, d1, d3, _, dy⟩, g0, g1, g2, g3⟩ := HW.out.2.at hS hjg
      have he : gs[j] = ws[j] := by
        have := HE.out j hj
        rw [List.getElem?_eq_getElem hjg] at this
        exact Option.some.inj this
      rw [he] at d0 d1 d3 dy
      rw [e0] at q0
      rw [e1] at q1
      rw [e3] at q3
      rw [d0] at g0
      rw [d1] at g1
      rw [d3] at g3
      generalize ws[j] = a at q0 q1 q3 g0 g1 g3 ey dy e0 e1 e3 d0 d1 d3 he eb
      have hxl := World.block_lt_of_cell? _ _ q0
      have hyl := World.block_lt_of_cell? _ _ g0
      simp only at hxl hyl
      have nx0 : ¬ pb = wr.heap.size := by omega
      have ny0 : ¬ gb = wr.heap.size := by omega
      have ny1 : ¬ gb = wr.heap.size + 1 := by omega
      have hcx : ∀ o o', (convert 24 9 (.slice x.ad x.ln x.cp)).run Tryd.prog ((wr.alloc o).alloc o') = .ok (.string ⟨a.bytes.toArray⟩) ((wr.alloc o).alloc o') :=
        fun o o' => convert_bytes (ey.same (((Same.refl (fun _ => False) wr).alloc o).alloc o') (fun _ _ h => ⟨fun h => h, h⟩))
      have hcy : ∀ o o', (convert 24 9 (.slice y.ad y.ln y.cp)).run Tryd.prog ((wr.alloc o).alloc o') = .ok (.string ⟨a.bytes.toArray⟩) ((wr.alloc o).alloc o') :=
        fun o o' => convert_bytes (dy.same (((Same.refl (fun _ => False) wr).alloc o).alloc o') (fun _ _ h => ⟨fun h => h, h⟩))
      have A := Lib.hid (And.intro hk hS)
      clear hk hS ey dy e0 e1 e3 d0 d1 d3 he eb HW HF HE
      go_wp2
      go_roundg (gk - 1)
      case measure => have := A.out.1; omega
      case rel => exact ⟨j + 1, by have := A.out.1; omega, rfl, by omega, (A.out.2.alloc _).alloc _⟩
    · have A := Lib.hid hS
      clear hS
      go_wp2
      go_ret
      exact ⟨rfl, A.out⟩
theorem matches_whole (w : World) (vw vg : Value) (ws gs : List ResA) (hw : ResultsR (fun _ => True) w vw ws) (hg : ResultsR (fun _ => True) w vg gs)
    (_hle : ws.length ≤ gs.length) (hwh : gs.length = ws.length) (heq : ∀ j (h : j < ws.length), gs[j]? = some ws[j]) :
    Calls Tryd.prog 11 #[vw, vg, .bool true] w fun e w' => e = .returned (.bool true) ∧ Same (fun _ => False) w w' := by
  obtain ⟨adw, cpw, rfl, hmw, hfw⟩ := RowR.form hw
  obtain ⟨adg, cpg, rfl, hmg, hfg⟩ := RowR.form hg
  have HW := Lib.hid (And.intro hw hg)
  have HF := Lib.hid (And.intro hfw hfg)
  have HE := Lib.hid heq
  clear hw hg hfw hfg heq
  have k1 : ¬ ((gs.length : Int) < (ws.length : Int)) := by omega
  have k2 : ((gs.length : Int) != (ws.length : Int)) = false := by simp; omega
  go_enter Tryd.func11, Tryd.ntmps11
  go_wp2
  go_loopg [27] ws.length (fun k i wr => MatRel ws w k i wr)
  case atStart => exact ⟨0, rfl, rfl, Nat.zero_le _, Same.refl _ _⟩
  case round =>
    obtain ⟨j, hk, rfl, hjl, hS⟩ := hrel
    by_cases hj : j < ws.length
    · have hjg : j < gs.length := by omega
      obtain ⟨pb, po, ps, rfl⟩ := HF.out.1 j hj
      obtain ⟨gb, go, gp, rfl⟩ := HF.out.2 j hjg
      obtain ⟨rfl, x, ⟨e0, e1, e3, eb, ey⟩, q0, q1, q2, q3⟩ := HW.out.1.at hS hj
      obtain ⟨rfl, y, ⟨d0, d1, d3, _, dy⟩, g0, g1, g2, g3⟩ := HW.out.2.at hS hjg
      have he : gs[j] = ws[j] := by
        have := HE.out j hj
        rw [List.getElem?_eq_getElem hjg] at this
        exact Option.some.inj this
      rw [he] at d0 d1 d3 dy
      rw [e0] at q0
      rw [e1] at q1
      rw [e3] at q3
      rw [d0] at g0
      rw [d1] at g1
      rw [d3] at g3
      generalize ws[j] = a at q0 q1 q3 g0 g1 g3 ey dy e0 e1 e3 d0 d1 d3 he eb
      have hxl := World.block_lt_of_cell? _ _ q0
      have hyl := World.block_lt_of_cell? _ _ g0
      simp only at hxl hyl
      have nx0 : ¬ pb = wr.heap.size := by omega
      have ny0 : ¬ gb = wr.heap.size := by omega
      have ny1 : ¬ gb = wr.heap.size + 1 := by omega
      have hcx : ∀ o o', (convert 24 9 (.slice x.ad x.ln x.cp)).run Tryd.prog ((wr.alloc o).alloc o') = .ok (.string ⟨a.bytes.toArray⟩) ((wr.alloc o).alloc o') :=
        fun o o' => convert_bytes (ey.same (((Same.refl (fun _ => False) wr).alloc o).alloc o') (fun _ _ h => ⟨fun h => h, h⟩))
      have hcy : ∀ o o', (convert 24 9 (.slice y.ad y.ln y.cp)).run Tryd.prog ((wr.alloc o).alloc o') = .ok (.string ⟨a.bytes.toArray⟩) ((wr.alloc o).alloc o') :=
        fun o o' => convert_bytes (dy.same (((Same.refl (fun _ => False) wr).alloc o).alloc o') (fun _ _ h => ⟨fun h => h, h⟩))
      have A := Lib.hid (And.intro hk hS)
      clear hk hS ey dy e0 e1 e3 d0 d1 d3 he eb HW HF HE
      go_wp2
      go_roundg (gk - 1)
      case measure => have := A.out.1; omega
      case rel => exact ⟨j + 1, by have := A.out.1; omega, rfl, by omega, (A.out.2.alloc _).alloc _⟩
    · have A := Lib.hid hS
      clear hS
      go_wp2
      go_ret
      exact ⟨rfl, A.out⟩
theorem matches_true (w : World) (vw vg : Value) (ws gs : List ResA) (whole : Bool) (hw : ResultsR (fun _ => True) w vw ws) (hg : ResultsR (fun _ => True) w vg gs)
    (hle : ws.length ≤ gs.length) (hwh : whole = true → gs.length = ws.length) (heq : ∀ j (h : j < ws.length), gs[j]? = some ws[j]) :
    Calls Tryd.prog 11 #[vw, vg, .bool whole] w fun e w' => e = .returned (.bool true) ∧ Same (fun _ => False) w w' := by
  cases whole with
  | false => exact matches_part w vw vg ws gs hw hg hle heq
  | true => exact matches_whole w vw vg ws gs hw hg hle (hwh rfl) heq
end Go.Proofs.YtalpilbpgkijlaaDoor
