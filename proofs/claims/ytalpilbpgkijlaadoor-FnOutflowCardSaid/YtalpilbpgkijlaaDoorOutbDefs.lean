/- What spec.Outbound keeps, round by round; how it ends (plain). No condition. -/
import Derived.Test.YtalpilbpgkijlaaDoorOutModel
import Derived.Test.YtalpilbpgkijlaaDoorInbDefs
namespace Go.Proofs.YtalpilbpgkijlaaDoor
open Go.RowKit
set_option maxRecDepth 100000
set_option maxHeartbeats 1000000
def CI (d : Nat → Int) : Array Value := #[.int .i64 (d 0), .int .i64 (d 1), .int .i64 (d 2), .int .i64 (d 3)]
theorem CI_get (d : Nat → Int) {k : Nat} (hk : k < 4) : (CI d)[k]? = some (.int .i64 (d k)) := by
  match k, hk with
  | 0, _ => rfl
  | 1, _ => rfl
  | 2, _ => rfl
  | 3, _ => rfl
theorem CI_set (d : Nat → Int) {k : Nat} (hk : k < 4) (v : Int) : (CI d).setIfInBounds k (.int .i64 v) = CI (upd d k v) := by
  match k, hk with
  | 0, _ => rfl
  | 1, _ => rfl
  | 2, _ => rfl
  | 3, _ => rfl
theorem wrap32_in {x : Int} (h : -2147483648 ≤ x ∧ x ≤ 2147483647) : wrap32 x = x := by
  unfold wrap32
  omega
/-- Whatever the windows hold and whatever is asked, there is a run. -/
theorem out_step (s : OutS) (a : StepA) : (∃ r s', StpOut s a r s' ∧ r.pn = false) ∨ DieOut s a := by
  rcases (show a.which < 0 ∨ 3 < a.which ∨ (0 ≤ a.which ∧ a.which ≤ 3) by omega) with h | h | ⟨w0, w3⟩
  · exact .inl ⟨_, _, .whichlo h, rfl⟩
  · exact .inl ⟨_, _, .whichhi h, rfl⟩
  have hk : a.which.toNat < 4 := by omega
  have hy : a.which = (a.which.toNat : Int) := by omega
  rcases (show a.what < 0 ∨ 4 < a.what ∨ a.what = 0 ∨ a.what = 1 ∨ a.what = 2 ∨ a.what = 3 ∨ a.what = 4 by omega) with h | h | h | h | h | h | h
  · exact .inl ⟨_, _, .whatlo w0 w3 h, rfl⟩
  · exact .inl ⟨_, _, .whathi w0 w3 h, rfl⟩
  · rcases Int.lt_or_le 2147483647 a.n with g | g
    · exact .inl ⟨_, _, .chgBig h w0 w3 g, rfl⟩
    · exact .inl ⟨_, _, .chg h w0 w3 g, rfl⟩
  · rcases Int.lt_or_le 2147483647 (s.cn + wrap32 a.n) with g | g
    · exact .inl ⟨_, _, .addcBig h w0 w3 g, rfl⟩
    · exact .inl ⟨_, _, .addc h w0 w3 g, rfl⟩
  · rcases Int.lt_or_le 2147483647 (s.ini + s.d a.which.toNat) with g | g
    · exact .inl ⟨_, _, .addsBig h _ hk hy g, rfl⟩
    · rcases Int.lt_or_le 2147483647 (s.ini + s.d a.which.toNat + wrap32 a.n) with g' | g'
      · exact .inl ⟨_, _, .addsNo h _ hk hy g g', rfl⟩
      · exact .inl ⟨_, _, .adds h _ hk hy g g', rfl⟩
  · cases he : s.err with
    | true => exact .inl ⟨_, _, .availErr h _ hk hy he, rfl⟩
    | false =>
      rcases Int.lt_or_le 2147483647 (s.ini + s.d a.which.toNat) with g | g
      · exact .inl ⟨_, _, .availBig h _ hk hy he g, rfl⟩
      · exact .inl ⟨_, _, .avail h _ hk hy he g, rfl⟩
  · cases he : s.err with
    | true =>
      rcases Int.lt_or_le 0 (wrap32 a.n) with g | g
      · exact .inr (.dieErr h _ hk hy he g)
      · exact .inl ⟨_, _, .takeErr h _ hk hy he g, rfl⟩
    | false =>
      rcases Int.lt_or_le 2147483647 (s.ini + s.d a.which.toNat) with g | g
      · rcases Int.lt_or_le 0 (wrap32 a.n) with g' | g'
        · exact .inr (.dieBig h _ hk hy he g g')
        · exact .inl ⟨_, _, .takeBig h _ hk hy he g g', rfl⟩
      · rcases Int.lt_or_le (min (wrap32 (s.ini + s.d a.which.toNat)) s.cn) (wrap32 a.n) with g' | g'
        · exact .inr (.die h _ hk hy he g g')
        · exact .inl ⟨_, _, .take h _ hk hy he g g', rfl⟩
theorem out_total : ∀ (al : List StepA) (s : OutS), ∃ rest, Runs StpOut DieOut s al rest ∧ rest.length ≤ al.length := by
  intro al
  induction al with
  | nil => intro s; exact ⟨[], .nil, Nat.le_refl _⟩
  | cons a al ih =>
    intro s
    rcases out_step s a with ⟨r, s', h, hp⟩ | h
    · obtain ⟨rest, h1, h2⟩ := ih s'
      exact ⟨r :: rest, .step h hp h1, by simpa using h2⟩
    · exact ⟨_, .dead h, by simp⟩

def OutWin (s : OutS) : Prop := s.err = false ∧ -1073741824 ≤ s.cn ∧ s.cn ≤ 2147483647 ∧ 0 ≤ s.ini ∧ s.ini ≤ 2147483647 ∧ ∀ k, k < 4 → -1073741824 ≤ s.d k ∧ s.ini + s.d k ≤ 2147483647
def out0 : OutS := ⟨65535, 65535, false, fun _ => 0⟩
structure OutbCore (al : List StepA) (w : World) (B : Nat) (j : Nat) (s : OutS) (rs : List ResA) (v : Value) (wr : World) : Prop where
  hB : w.heap.size = B
  len : rs.length = j
  win : OutWin s
  blk : Blk wr B (CI s.d) 74
  same : Same (fun _ => False) w wr
  own : wr.ownsRow (B + 1) 61 4 v j (rs.map ResA.cells).flatten
  plain : ∀ r ∈ rs, r.bytes = [] ∧ Bd r.n
  cont : ∀ rest, Runs StpOut DieOut s (al.drop j) rest → Runs StpOut DieOut out0 al (rs ++ rest)
def OutbRel (al : List StepA) (w : World) (B : Nat) (k : Nat) (v vc vi i : Value) (wr : World) : Prop :=
  ∃ (j : Nat) (s : OutS) (rs : List ResA), k + j = al.length ∧ i = .int .i64 j ∧ j ≤ al.length ∧ vc = .int .i64 s.cn ∧ vi = .int .i64 s.ini ∧ OutbCore al w B j s rs v wr
def OutbPost (al : List StepA) (w : World) (e : Ending) (w' : World) : Prop :=
  ∃ (v : Value) (ok : Bool), e = .returned (.tuple #[v, .bool ok]) ∧ Same (fun _ => False) w w' ∧ ∃ ws rest, Runs StpOut DieOut out0 al (ws ++ rest) ∧ (ws ++ rest).length ≤ al.length ∧ (ok = true → rest = []) ∧ ResultsR (fun _ => True) w' v ws
section
variable {al : List StepA} {w wr W w2 : World} {B j : Nat} {s s' : OutS} {rs : List ResA} {v v1 : Value} {r : ResA}
theorem OutbCore.same2 (h : OutbCore al w B j s rs v wr) (hS : Same (fun k => k = B) wr W) (hg : W.grownBy w2 v.ownBlock) : Same (fun _ => False) w w2 := by
  have hB := h.hB
  have hlt := h.own.lt
  refine (h.same.trans hS (fun k hk hc => by omega)).trans (Same.of_grown hg) (fun k hk hc => ?_)
  have := (hlt k hc).1
  omega
theorem plain_snoc (h : ∀ r ∈ rs, r.bytes = [] ∧ Bd r.n) (hby : r.bytes = []) (hbd : Bd r.n) : ∀ x ∈ rs ++ [r], x.bytes = [] ∧ Bd x.n := by
  intro x hx
  rw [List.mem_append] at hx
  rcases hx with hx | hx
  · exact h x hx
  · simp only [List.mem_singleton] at hx
    subst hx
    exact ⟨hby, hbd⟩
theorem OutbCore.next (h : OutbCore al w B j s rs v wr) (hj : j < al.length) (hst : StpOut s al[j] r s') (hpn : r.pn = false) (hby : r.bytes = []) (hbd : Bd r.n)
    (hwin : OutWin s') (hblk : Blk W B (CI s'.d) 74) (hS : Same (fun k => k = B) wr W)
    (hown : w2.ownsRow (B + 1) 61 4 v1 (j + 1) ((rs.map ResA.cells).flatten ++ r.cells)) (hg : W.grownBy w2 v.ownBlock) : OutbCore al w B (j + 1) s' (rs ++ [r]) v1 w2 := by
  have hlt := h.own.lt
  refine ⟨h.hB, by simp [h.len], hwin, hblk.same (Same.of_grown hg) (fun hc => by have := (hlt B hc).1; omega), h.same2 hS hg, by simpa using hown, plain_snoc h.plain hby hbd, ?_⟩
  intro rest hr
  rw [List.append_assoc]
  refine h.cont ([r] ++ rest) ?_
  rw [List.drop_eq_getElem_cons hj]
  exact .step hst hpn hr
theorem OutbCore.stop (h : OutbCore al w B j s rs v wr) (hj : j < al.length) (hst : StpOut s al[j] r s') (hpn : r.pn = false) (hby : r.bytes = []) (hbd : Bd r.n) (hS : Same (fun k => k = B) wr W)
    (hown : w2.ownsRow (B + 1) 61 4 v1 (j + 1) ((rs.map ResA.cells).flatten ++ r.cells)) (hg : W.grownBy w2 v.ownBlock) : OutbPost al w (.returned (.tuple #[v1, .bool false])) w2 := by
  obtain ⟨rest, h1, h2⟩ := out_total (al.drop (j + 1)) s'
  have hl := h.len
  refine ⟨v1, false, rfl, h.same2 hS hg, rs ++ [r], rest, ?_, ?_, (fun h => nomatch h), results_of (base := B + 1) (n := j + 1) (by simpa using hown) (plain_snoc h.plain hby hbd)⟩
  · rw [List.append_assoc]
    refine h.cont ([r] ++ rest) ?_
    rw [List.drop_eq_getElem_cons hj]
    exact .step hst hpn h1
  · simp at h2 ⊢
    omega
theorem OutbCore.die (h : OutbCore al w B j s rs v wr) (hj : j < al.length) (hd : DieOut s al[j]) (hS : Same (fun k => k = B) wr W)
    (hown : w2.ownsRow (B + 1) 61 4 v1 (j + 1) ((rs.map ResA.cells).flatten ++ ResA.cells ⟨0, false, [], true⟩)) (hg : W.grownBy w2 v.ownBlock) : OutbPost al w (.returned (.tuple #[v1, .bool true])) w2 := by
  have hl := h.len
  refine ⟨v1, true, rfl, h.same2 hS hg, rs ++ [⟨0, false, [], true⟩], [], ?_, ?_, fun _ => rfl, results_of (base := B + 1) (n := j + 1) (by simpa using hown) (plain_snoc h.plain rfl ⟨by show (-9223372036854775808 : Int) ≤ 0; omega, by show (0 : Int) ≤ 9223372036854775807; omega⟩)⟩
  · rw [List.append_nil]
    refine h.cont _ ?_
    rw [List.drop_eq_getElem_cons hj]
    exact .dead hd
  · simp
    omega
theorem OutbCore.done (h : OutbCore al w B j s rs v wr) (hj : ¬ j < al.length) (hj' : j ≤ al.length) : OutbPost al w (.returned (.tuple #[v, .bool true])) wr := by
  have hl := h.len
  refine ⟨v, true, rfl, h.same, rs, [], ?_, by simp; omega, fun _ => rfl, results_of h.own h.plain⟩
  exact h.cont [] (by rw [List.drop_eq_nil_of_le (by omega)]; exact .nil)
theorem OutbCore.no (h : OutbCore al w B j s rs v wr) (hj' : j ≤ al.length) (hS : Same (fun k => k = B) wr W) : OutbPost al w (.returned (.tuple #[v, .bool false])) W := by
  have hB := h.hB
  have hl := h.len
  have hlt := h.own.lt
  obtain ⟨rest, h1, h2⟩ := out_total (al.drop j) s
  refine ⟨v, false, rfl, h.same.trans hS (fun k hk hc => by omega), rs, rest, h.cont _ h1, ?_, (fun h => nomatch h), results_of (ownsRow_same h.own hS (fun g hg hc => ?_)) h.plain⟩
  · simp at h2 ⊢
    omega
  · have := (hlt g hg).1
    omega
end
end Go.Proofs.YtalpilbpgkijlaaDoor
