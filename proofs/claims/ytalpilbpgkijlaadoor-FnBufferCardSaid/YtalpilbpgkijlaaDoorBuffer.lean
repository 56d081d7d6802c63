/- impl.Buffer answers as a queue of bytes (the walk). Condition: at most 1,000,000 steps, 1,048,576 bytes; the package's error lies in its variable. -/
import Derived.Test.YtalpilbpgkijlaaDoorBufClos
import Derived.Test.YtalpilbpgkijlaaDoorBufRun
namespace Go.Proofs.YtalpilbpgkijlaaDoor
open Go.RowKit
set_option maxRecDepth 100000
set_option maxHeartbeats 2000000

/-- What a step over a queue of bytes answers. -/
inductive StpB : List UInt8 → StepA → ResA → List UInt8 → Prop
  | write {q : List UInt8} {x : StepA} (hx : x.what = 0) (hb : q.length + x.bytes.length ≤ 1048576) : StpB q x ⟨x.bytes.length, true, [], false⟩ (q ++ x.bytes)
  | read {q : List UInt8} {x : StepA} (k : Nat) (hx : x.what ≠ 0) (hk : Lim x.n k) : StpB q x ⟨((q.drop (Nat.min k q.length)).length : Int), decide (0 < q.length), q.take (Nat.min k q.length), false⟩ (q.drop (Nat.min k q.length))

def InvB (B bv z : Nat) (p : Addr) (q : List UInt8) (F : Nat → Prop) (w : World) : Prop :=
  ∃ chs sv r wv ex, F = (fun k => k = bv ∨ Foot z sv chs k) ∧ DB B z w chs sv r wv q ex ∧ Blk w bv #[.pointer (some ⟨z, 0, none⟩)] 62 ∧ w.cell? ⟨0, 0, none⟩ = some (.iface 108 (.pointer (some p)))

theorem bytes_mono {G H : Nat → Prop} {w : World} {ad : Option Addr} {ln cp : Nat} {l : List UInt8} (h : BytesAt G w ad ln cp l) (hG : ∀ k, G k → H k) : BytesAt H w ad ln cp l :=
  h.same (F := fun _ => False) (Same.refl _ _) (fun k _ g => ⟨fun h => h, hG k g⟩)

theorem clos_b (B bv z : Nat) (p : Addr) (hbB : bv < B) (hbz : bv ≠ z) (hb0 : 0 < bv) (hz0 : 0 < z) : ClosZ 1 28 (.pointer (some ⟨bv, 0, none⟩)) (InvB B bv z p) StpB (fun _ _ => False) where
  enter := enter_of Tryd.func28 (by kernel_rfl) (by kernel_rfl)
  lt := by
    rintro s F w ⟨chs, sv, r, wv, ex, rfl, hD, hb, hg⟩ k (rfl | hk)
    · exact hb.lt
    · exact hD.lt k hk
  keep := by
    rintro s F G w w' ⟨chs, sv, r, wv, ex, rfl, hD, hb, hg⟩ hs hG hz
    exact ⟨chs, sv, r, wv, ex, rfl, hD.same hs (fun k hk => hG k (.inr hk)), hb.same hs (hG bv (.inl rfl)), hs.cell (p := ⟨0, 0, none⟩) (hz 0 (by omega)) hg⟩
  step := by
    rintro q F w v x ra q' ⟨chs, sv, r, wv, ex, rfl, hD, hb, hg⟩ hv hst
    obtain ⟨e1, e2, e3, _, _, _, hB⟩ := hv
    cases v with | mk what which n ad ln cp =>
    simp only at e1 e2 e3 hB
    subst e1 e2 e3
    have h0 := hD.far (b := 0) (by omega) (by omega)
    have hfb := hD.far hbB hbz
    have hg' : ∀ w', Same (Foot z sv chs) w w' → w'.cell? ⟨0, 0, none⟩ = some (.iface 108 (.pointer (some p))) := fun w' hs => hs.cell (p := ⟨0, 0, none⟩) h0 hg
    have hlt := hD.lt
    cases hst with
    | write hx hbd =>
      simp only [StepV.agg]
      rw [hx]
      refine (clos_bwrite B bv z w chs sv r wv q ex hD hb hbB hbz x.which x.n ad ln cp x.bytes (bytes_mono hB (fun k h e => h (.inr e))) hbd).mono ?_
      rintro e w' ⟨rfl, chs', sv', r', wv', ex', hD', hS', hf'⟩
      refine .inl ⟨_, rfl, fun k => k = bv ∨ Foot z sv' chs' k, hS'.mono (fun k _ e => .inr e), ⟨chs', sv', r', wv', ex', rfl, hD', hb.same hS' hfb, hg' w' hS'⟩, fun k hk => ?_, rfl, rfl, rfl, ⟨by simp only; omega, by simp only; omega⟩, BytesAt.nil _ _⟩
      rcases hk with e | e
      · exact .inl (.inl e)
      · rcases hf' k e with h | h
        · exact .inl (.inr h)
        · exact .inr h
    | read k hx hk =>
      simp only [StepV.agg]
      have hcall : Calls Tryd.prog 28 #[.agg #[.int .i64 x.what, .int .i64 x.which, .int .i64 x.n, .slice ad ln cp], .pointer (some ⟨bv, 0, none⟩)] w (BrPost B z w chs sv q k) := by
        by_cases hq : 0 < q.length
        · exact clos_bread B bv z w chs sv r wv q ex hD hb hbB hbz p hg h0 x.what x.which x.n hx ad ln cp k hk hq
        · have : q = [] := List.eq_nil_of_length_eq_zero (by omega)
          subst this
          exact clos_bempty B bv z w chs sv r wv ex hD hb hbB hbz p hg h0 x.what x.which x.n hx ad ln cp k hk
      refine hcall.mono ?_
      rintro e w' ⟨rfl, ⟨chs', sv', r', wv', ex', hD', hS', hf'⟩, hby⟩
      refine .inl ⟨_, rfl, fun k => k = bv ∨ Foot z sv' chs' k, hS'.mono (fun k _ e => .inr e), ⟨chs', sv', r', wv', ex', rfl, hD', hb.same hS' hfb, hg' w' hS'⟩, fun k hk => ?_, rfl, rfl, rfl, ?_, bytes_mono hby (fun k e => ⟨fun h => ?_, by omega⟩)⟩
      · rcases hk with e | e
        · exact .inl (.inl e)
        · exact .inl (.inr (hf' k e))
      · have := hD.bd
        constructor
        · simp only; omega
        · simp only [List.length_drop]; omega
      · rcases h with h | h
        · have := hb.lt; omega
        · have := hlt k (hf' k h); omega
  dead := fun s F w v x _ _ h => h.elim

theorem buffer_any (w : World) (ex : Int) (hex : Bd ex) (v : Value) (al : List StepA) (rs : List ResA) (hv : StepsR (fun _ => True) w v al) (hruns : Runs StpB (fun _ _ => False) [] al rs) (hlen : al.length ≤ 1000000)
    (p : Addr) (hg : w.cell? ⟨0, 0, none⟩ = some (.iface 108 (.pointer (some p)))) :
    Calls Tryd.prog 14 #[.int .i64 ex, v] w (RunPost (fun _ => False) w rs) := by
  obtain ⟨ad, n, cp, rfl⟩ : ∃ ad n cp, v = .slice ad n cp := by
    obtain ⟨ad, cp, h, _⟩ := hv
    exact ⟨ad, _, cp, h⟩
  have h0 := World.block_lt_of_cell? _ _ hg
  simp only at h0
  have e1 := balloc w (.cells #[.slice none 0 0, .int .i64 0, .int .i64 0, .int .i64 0, .int .i64 ex] 91)
  have s1 : Same (fun _ => False) w ((w.alloc (.cells #[.slice none 0 0, .int .i64 0, .int .i64 0, .int .i64 0, .int .i64 ex] 91)).alloc (.cells #[.pointer (some ⟨w.heap.size, 0, none⟩)] 62)) := ((Same.refl _ _).alloc _).alloc _
  have hI : InvB (w.heap.size + 2) (w.heap.size + 1) w.heap.size p [] (fun k => k = w.heap.size + 1 ∨ Foot w.heap.size (.slice none 0 0) [] k) ((w.alloc (.cells #[.slice none 0 0, .int .i64 0, .int .i64 0, .int .i64 0, .int .i64 ex] 91)).alloc (.cells #[.pointer (some ⟨w.heap.size, 0, none⟩)] 62)) := by
    refine ⟨[], .slice none 0 0, 0, 0, ex, rfl, ⟨by omega, by rw [balloc, balloc]; omega, ⟨World.ownsRow_nil _ _ _ _, fun c hc => by simp at hc, by simp⟩, (Blk.new _ _ _).alloc _, ⟨fun b hb => by simp at hb, fun _ => rfl, fun b rest e => by simp at e, fun b e => by simp at e, fun i b e => by simp at e⟩, hex, rfl, by decide⟩, ?_, s1.cell (p := ⟨0, 0, none⟩) (fun h => h) hg⟩
    have := Blk.new (w.alloc (.cells #[.slice none 0 0, .int .i64 0, .int .i64 0, .int .i64 0, .int .i64 ex] 91)) #[.pointer (some ⟨w.heap.size, 0, none⟩)] 62
    rw [e1] at this
    exact this
  have hF : ∀ k, (k = w.heap.size + 1 ∨ Foot w.heap.size (.slice none 0 0) [] k) → w.heap.size ≤ k := by
    rintro k (e | e | e | ⟨c, hc, _⟩)
    · omega
    · omega
    · simp [Value.ownBlock] at e
    · simp at hc
  have hv1 := hv.same (H := fun k => ¬ (k = w.heap.size + 1 ∨ Foot w.heap.size (.slice none 0 0) [] k)) s1 (fun k hk _ => ⟨fun h => h, fun e => by have := hF k e; omega⟩)
  have hr := run_anyZ (clos_b (w.heap.size + 2) (w.heap.size + 1) w.heap.size p (by omega) (by omega) (by omega) (by omega)) _ [] _ ad n cp al rs hI hv1 hruns hlen (by rw [balloc, balloc]; omega)
  have HR := Lib.hid hr
  have HS := Lib.hid (And.intro s1 hF)
  clear hv hruns hlen hI s1 hv1 hr e1 hF hg
  have hmf : ∀ (fn : Fn) (first cap : Array Value) (w : World), (Instr.makeFunc fn first cap).run Tryd.prog w = .ok (.func fn first cap) w := fun _ _ _ _ => rfl
  go_enter Tryd.func14, Tryd.ntmps14
  go_wp2_with (go_at_call 27; go_in)
  refine HR.out.mono ?_
  rintro e w' ⟨v', rfl, hS, hR⟩
  have H := Lib.hid (And.intro hS hR)
  clear hS hR HR
  go_wp2
  go_ret
  exact ⟨v', rfl, HS.out.1.trans H.out.1 (fun k hk h => by have := HS.out.2 k h; omega), H.out.2⟩
end Go.Proofs.YtalpilbpgkijlaaDoor
