/- The data buffer's chunks: what they are in memory, how one is made and given back (the walks). No condition. -/
import Derived.Test.YtalpilbpgkijlaaDoorApp
import Derived.Test.YtalpilbpgkijlaaDoorData
import Derived.Laws.MakeOwn
import Derived.Laws.OwnMore
import Derived.Laws.CopyOwn
namespace Go.Proofs.YtalpilbpgkijlaaDoor
open Go.RowKit
set_option maxRecDepth 100000
set_option maxHeartbeats 1000000

theorem info5 : (Tryd.prog.info? 5).map (fun i => (i.zero, i.size, i.bytes)) = some (some (.int .u8 0), 1, 1) := by kernel_rfl
theorem info24 : (Tryd.prog.info? 24).map (fun i => (i.zero, i.size, i.bytes)) = some (some (.slice none 0 0), 1, 24) := by kernel_rfl
theorem size5 : (Tryd.prog.info? 5).map (·.size) = some 1 := by kernel_rfl
theorem size24 : (Tryd.prog.info? 24).map (·.size) = some 1 := by kernel_rfl
/-- Bytes as cells. -/
def U8 (l : List UInt8) : List Value := l.map fun b => .int .u8 (b.toNat : Int)
theorem U8.length (l : List UInt8) : (U8 l).length = l.length := by simp [U8]
theorem U8.get (l : List UInt8) (i : Nat) (h : i < l.length) : (U8 l)[i]? = some (.int .u8 ((l.getD i 0).toNat : Int)) := by
  simp [U8, List.getElem?_eq_getElem h]
theorem U8.one (l : List UInt8) : ∀ u ∈ U8 l, u.oneCell' = true := by
  intro u hu
  simp only [U8, List.mem_map] at hu
  obtain ⟨b, _, rfl⟩ := hu
  rfl
/-- A new chunk's bytes. -/
def Zs (n : Nat) : List UInt8 := List.replicate n 0
theorem Zs.length (n : Nat) : (Zs n).length = n := by simp [Zs]
def zrow (n : Nat) : Obj := .cells (U8 (Zs n)).toArray 5
theorem mk_bytes (n : Nat) (h : n ≤ 1000000) (w : World) : (Instr.makeSlice 24 (.int .i64 (n : Int)) (.int .i64 (n : Int))).run Tryd.prog w = .ok (.slice (some ⟨w.heap.size, 0, none⟩) n n) (w.alloc (zrow n)) := by
  obtain ⟨i0, hi, hz, hs, hb⟩ := info_parts info5
  have hr := run_make (P := Tryd.prog) w 24 5 i0 (.int .u8 0) Tryd.underlying24 hi hz .i64 .i64 n n (by omega) (by omega) (by rw [hb]; omega) (by omega)
  simp only [Int.toNat_natCast] at hr
  rw [hr, hs]
  have e : madeCells (Value.int IntKind.u8 0).cells (n * 1) = (U8 (Zs n)).toArray := by
    apply Array.ext'
    rw [show (Value.int IntKind.u8 0).cells = #[Value.int IntKind.u8 0] from rfl, toList_madeCells_one]
    simp [U8, Zs]
  rw [e]
  rfl
/-- The sizes of chunks. -/
def Sz (n : Nat) : Prop := n = 1024 ∨ n = 2048 ∨ n = 4096 ∨ n = 8192 ∨ n = 16384
theorem Sz.pos {n : Nat} (h : Sz n) : 1024 ≤ n ∧ n ≤ 16384 := by unfold Sz at h; omega

def GetPost (w : World) (e : Ending) (w' : World) : Prop := ∃ L, Sz L ∧ e = .returned (.slice (some ⟨w.heap.size, 0, none⟩) L L) ∧ w' = w.alloc (zrow L)
theorem get_chunk (w : World) (s : Int) : Calls Tryd.prog 59 #[.int .i64 s] w (GetPost w) := by
  have m1 : ∀ w, (Instr.makeSlice 24 (.int .i64 1024) (.int .i64 1024)).run Tryd.prog w = .ok (.slice (some ⟨w.heap.size, 0, none⟩) 1024 1024) (w.alloc (zrow 1024)) := mk_bytes 1024 (by decide)
  have m2 : ∀ w, (Instr.makeSlice 24 (.int .i64 2048) (.int .i64 2048)).run Tryd.prog w = .ok (.slice (some ⟨w.heap.size, 0, none⟩) 2048 2048) (w.alloc (zrow 2048)) := mk_bytes 2048 (by decide)
  have m3 : ∀ w, (Instr.makeSlice 24 (.int .i64 4096) (.int .i64 4096)).run Tryd.prog w = .ok (.slice (some ⟨w.heap.size, 0, none⟩) 4096 4096) (w.alloc (zrow 4096)) := mk_bytes 4096 (by decide)
  have m4 : ∀ w, (Instr.makeSlice 24 (.int .i64 8192) (.int .i64 8192)).run Tryd.prog w = .ok (.slice (some ⟨w.heap.size, 0, none⟩) 8192 8192) (w.alloc (zrow 8192)) := mk_bytes 8192 (by decide)
  have m5 : ∀ w, (Instr.makeSlice 24 (.int .i64 16384) (.int .i64 16384)).run Tryd.prog w = .ok (.slice (some ⟨w.heap.size, 0, none⟩) 16384 16384) (w.alloc (zrow 16384)) := mk_bytes 16384 (by decide)
  by_cases h1 : s ≤ 1024
  · go_enter Tryd.func59, Tryd.ntmps59
    go_wp2
    go_ret
    exact ⟨1024, by unfold Sz; omega, rfl, rfl⟩
  by_cases h2 : s ≤ 2048
  · go_enter Tryd.func59, Tryd.ntmps59
    go_wp2
    go_ret
    exact ⟨2048, by unfold Sz; omega, rfl, rfl⟩
  by_cases h3 : s ≤ 4096
  · go_enter Tryd.func59, Tryd.ntmps59
    go_wp2
    go_ret
    exact ⟨4096, by unfold Sz; omega, rfl, rfl⟩
  by_cases h4 : s ≤ 8192
  · go_enter Tryd.func59, Tryd.ntmps59
    go_wp2
    go_ret
    exact ⟨8192, by unfold Sz; omega, rfl, rfl⟩
  go_enter Tryd.func59, Tryd.ntmps59
  go_wp2
  go_ret
  exact ⟨16384, by unfold Sz; omega, rfl, rfl⟩

theorem put_chunk (w : World) (ad : Option Addr) (L cp : Nat) (h : Sz L) : Calls Tryd.prog 58 #[.slice ad L cp] w fun e w' => e = .returned (.tuple #[]) ∧ w = w' := by
  rcases h with rfl | rfl | rfl | rfl | rfl
  all_goals
    go_enter Tryd.func58, Tryd.ntmps58
    go_wp2
    go_end0
    exact ⟨rfl, rfl⟩
end Go.Proofs.YtalpilbpgkijlaaDoor
