/- One step of impl.Buffer's closure: a write, a read (the walks). Condition: the package's error lies in its variable. -/
import Derived.Test.YtalpilbpgkijlaaDoorBufRead
import Derived.LaidEql
namespace Go.Proofs.YtalpilbpgkijlaaDoor
open Go.RowKit
set_option maxRecDepth 100000
set_option maxHeartbeats 2000000

theorem info108 : (Tryd.prog.info? 108).map (·.comparable) = some true := by kernel_rfl
theorem info124 : (Tryd.prog.info? 124).isSome = true := by kernel_rfl
theorem err_is (w : World) (p : Addr) (hg : w.cell? ⟨0, 0, none⟩ = some (.iface 108 (.pointer (some p)))) : Calls Tryd.prog 32 #[.iface 108 (.pointer (some p))] w fun e w' => e = .returned (.bool true) ∧ w = w' := by
  have heq : (binOp .eql 65 (.iface 108 (.pointer (some p))) (.iface 108 (.pointer (some p)))).run Tryd.prog w = .ok (.bool true) w := by
    obtain ⟨i, hi, hc⟩ : ∃ i, Tryd.prog.info? 108 = some i ∧ i.comparable = true := by
      have := info108
      cases h : Tryd.prog.info? 108 with
      | none => rw [h] at this; cases this
      | some i => rw [h] at this; exact ⟨i, rfl, by simpa using this⟩
    obtain ⟨j, hj⟩ := Option.isSome_iff_exists.1 info124
    exact run_eql_iface_ptr_same w p Tryd.underlying65 Tryd.underlying108 hi hc hj
  go_enter Tryd.func32, Tryd.ntmps32
  go_wp2
  go_ret
  exact ⟨rfl, rfl⟩
theorem err_nil (w : World) (p : Addr) (hg : w.cell? ⟨0, 0, none⟩ = some (.iface 108 (.pointer (some p)))) : Calls Tryd.prog 32 #[.nilIface] w fun e w' => e = .returned (.bool false) ∧ w = w' := by
  have heq : (binOp .eql 65 .nilIface (.iface 108 (.pointer (some p)))).run Tryd.prog w = .ok (.bool false) w := run_eql_iface_nil_left w 108 _ Tryd.underlying65
  go_enter Tryd.func32, Tryd.ntmps32
  go_wp2
  go_ret
  exact ⟨rfl, rfl⟩
def EmptyPost (p : Addr) (w : World) (e : Ending) (w' : World) : Prop := e = .returned (.tuple #[.int .i64 0, .iface 108 (.pointer (some p))]) ∧ ∃ k, w.drewN k = w'
theorem read_empty (B z : Nat) (w : World) (chs : List Ch) (sv : Value) (r wv : Nat) (ex : Int) (h : DB B z w chs sv r wv [] ex) (p : Addr) (hg : w.cell? ⟨0, 0, none⟩ = some (.iface 108 (.pointer (some p)))) (v : Value) :
    Calls Tryd.prog 47 #[.pointer (some ⟨z, 0, none⟩), v] w (EmptyPost p w) := by
  obtain ⟨z0, z1, z2, z3, z4⟩ := h.z0
  simp only [List.length_nil, Int.natCast_zero] at z3
  clear h
  go_enter Tryd.func47, Tryd.ntmps47
  go_wp2
  go_quiet (fail)
  go_wp2
  go_ret2
  exact ⟨rfl, _, rfl⟩

theorem write_none (B z : Nat) (w : World) (chs : List Ch) (sv : Value) (r wv : Nat) (q : List UInt8) (ex : Int) (h : DB B z w chs sv r wv q ex) (ad : Option Addr) (cp : Nat) :
    Calls Tryd.prog 46 #[.pointer (some ⟨z, 0, none⟩), .slice ad 0 cp] w (WritePost B z w (Foot z sv chs) [] q) := by
  have H := Lib.hid h
  clear h
  go_enter Tryd.func46, Tryd.ntmps46
  go_wp2
  refine wp_loop_rounds 1 ?_
  rw [rounds_succ]
  go_wp2
  go_ret2
  exact ⟨rfl, chs, sv, r, wv, ex, by simpa using H.out, Same.refl _ _, fun k hk => .inl hk⟩
theorem write_any (B z : Nat) (w : World) (chs : List Ch) (sv : Value) (r wv : Nat) (q : List UInt8) (ex : Int) (h : DB B z w chs sv r wv q ex) (ad : Option Addr) (ln cp : Nat) (l : List UInt8) (hl : BytesAt (fun k => ¬ Foot z sv chs k) w ad ln cp l) (hb : q.length + l.length ≤ 1048576) :
    Calls Tryd.prog 46 #[.pointer (some ⟨z, 0, none⟩), .slice ad ln cp] w (WritePost B z w (Foot z sv chs) l q) := by
  obtain ⟨h1, h2, h3, h4, h5⟩ := hl
  subst h1
  by_cases h0 : l.length = 0
  · have : l = [] := List.eq_nil_of_length_eq_zero h0
    subst this
    exact write_none B z w chs sv r wv q ex h ad cp
  · cases ad with
    | none => have := (h4 rfl).1; omega
    | some p =>
      obtain ⟨hs, hg, hc⟩ := h5 p rfl 0 (by omega)
      obtain ⟨pb, po, ps⟩ := p
      simp only at hs
      subst hs
      refine write_some B z w chs sv r wv q ex h pb po cp l h2 (by unfold maxLen at h3; omega) hg (fun i hi => (h5 _ rfl i hi).2.2) (World.block_lt_of_cell? _ _ hc) hb
theorem zwrite_any (B z : Nat) (w : World) (chs : List Ch) (sv : Value) (r wv : Nat) (q : List UInt8) (ex : Int) (h : DB B z w chs sv r wv q ex) (ad : Option Addr) (ln cp : Nat) (l : List UInt8) (hl : BytesAt (fun k => ¬ Foot z sv chs k) w ad ln cp l) (hb : q.length + l.length ≤ 1048576) :
    Calls Tryd.prog 29 #[.pointer (some ⟨z, 0, none⟩), .slice ad ln cp] w (WritePost B z w (Foot z sv chs) l q) := by
  have HW := Lib.hid (write_any B z w chs sv r wv q ex h ad ln cp l hl hb)
  clear h hl
  go_enter Tryd.func29, Tryd.ntmps29
  go_wp2_with fail
  refine HW.out.mono ?_
  rintro e w' ⟨rfl, hp⟩
  have HP := Lib.hid hp
  clear hp HW
  go_wp2
  go_ret2
  exact ⟨rfl, HP.out⟩
theorem zread_some (B z : Nat) (w : World) (chs : List Ch) (sv : Value) (r wv : Nat) (q : List UInt8) (ex : Int) (h : DB B z w chs sv r wv q ex) (pb cp : Nat) (dst : List UInt8) (hcp : dst.length ≤ cp) (hcp' : cp ≤ 9223372036854775807)
    (hF : ¬ Foot z sv chs pb) (hB : Blk w pb (U8 dst).toArray 5) (hn : dst.length ≤ 100000) (hq : 0 < q.length) :
    Calls Tryd.prog 30 #[.pointer (some ⟨z, 0, none⟩), .slice (some ⟨pb, 0, none⟩) dst.length cp] w (ReadPost B z w (Foot z sv chs) pb dst q) := by
  have HW := Lib.hid (read_some B z w chs sv r wv q ex h pb cp dst hcp hcp' hF hB hn hq)
  clear h hB
  go_enter Tryd.func30, Tryd.ntmps30
  go_wp2_with fail
  refine HW.out.mono ?_
  rintro e w' ⟨m, hm, rfl, hp⟩
  have HP := Lib.hid (And.intro hm hp)
  clear hm hp HW
  go_wp2
  go_ret2
  exact ⟨m, HP.out.1, rfl, HP.out.2⟩
theorem zread_empty (B z : Nat) (w : World) (chs : List Ch) (sv : Value) (r wv : Nat) (ex : Int) (h : DB B z w chs sv r wv [] ex) (p : Addr) (hg : w.cell? ⟨0, 0, none⟩ = some (.iface 108 (.pointer (some p)))) (v : Value) :
    Calls Tryd.prog 30 #[.pointer (some ⟨z, 0, none⟩), v] w (EmptyPost p w) := by
  have HW := Lib.hid (read_empty B z w chs sv r wv ex h p hg v)
  clear h hg
  go_enter Tryd.func30, Tryd.ntmps30
  go_wp2_with fail
  refine HW.out.mono ?_
  rintro e w' ⟨rfl, k, rfl⟩
  clear HW
  go_wp2
  go_ret2
  exact ⟨rfl, k, rfl⟩
end Go.Proofs.YtalpilbpgkijlaaDoor
