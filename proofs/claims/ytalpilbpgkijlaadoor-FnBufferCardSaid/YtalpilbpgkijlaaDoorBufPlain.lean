/- The data buffer's chunks as data: what they hold, and what a write and a read make of it (plain). No condition. -/
import Derived.Test.YtalpilbpgkijlaaDoorBufLeaf
namespace Go.Proofs.YtalpilbpgkijlaaDoor
set_option maxRecDepth 100000

/-- What chunks hold: the first is read up to r, the last is written up to wv. -/
def cont : List (List UInt8) → Nat → Nat → List UInt8
  | [], _, _ => []
  | [c], r, wv => (c.take wv).drop r
  | c :: d :: rest, r, wv => c.drop r ++ cont (d :: rest) 0 wv

structure OkB (bs : List (List UInt8)) (r wv : Nat) : Prop where
  sz : ∀ b ∈ bs, Sz b.length
  nil : bs = [] → r = 0
  hd : ∀ b rest, bs = b :: rest → r < b.length
  one : ∀ b, bs = [b] → r ≤ wv
  lst : ∀ init b, bs = init ++ [b] → wv ≤ b.length

theorem cont_snoc_new (L : Nat) : ∀ (bs : List (List UInt8)) (r wv : Nat), (∀ init b, bs = init ++ [b] → wv = b.length) → cont (bs ++ [Zs L]) r 0 = cont bs r wv := by
  intro bs
  induction bs with
  | nil => intro r wv _; simp [cont]
  | cons c bs ih =>
    intro r wv h
    cases bs with
    | nil =>
      have := h [] c rfl
      subst this
      simp [cont]
    | cons d bs =>
      have := ih 0 wv (fun init b e => h (c :: init) b (by rw [e]; rfl))
      simp only [List.cons_append, cont] at this ⊢
      rw [this]

theorem cont_write : ∀ (init : List (List UInt8)) (b d : List UInt8) (r wv : Nat), (init = [] → r ≤ wv) → wv + d.length ≤ b.length →
    cont (init ++ [splice b wv d]) r (wv + d.length) = cont (init ++ [b]) r wv ++ d := by
  intro init
  induction init with
  | nil =>
    intro b d r wv hr hl
    have hr := hr rfl
    have e : (splice b wv d).take (wv + d.length) = b.take wv ++ d := by
      unfold splice
      rw [← List.append_assoc, List.take_append_of_le_length (by simp; omega)]
      exact List.take_of_length_le (by simp; omega)
    simp only [List.nil_append, cont, e]
    rw [List.drop_append_of_le_length (by simp; omega)]
  | cons c init ih =>
    intro b d r wv _ hl
    cases init with
    | nil =>
      have := ih b d 0 wv (fun _ => Nat.zero_le _) hl
      simp only [List.nil_append, List.cons_append, cont] at this ⊢
      rw [this, List.append_assoc]
    | cons c2 init =>
      have := ih b d 0 wv (fun h => by cases h) hl
      simp only [List.cons_append, cont] at this ⊢
      rw [this, List.append_assoc]

theorem last_eq {α : Type} {i j : List α} {a b : α} (h : i ++ [a] = j ++ [b]) : i = j ∧ a = b := by
  have := List.append_inj' h rfl
  exact ⟨this.1, by simpa using this.2⟩

theorem OkB.new {bs : List (List UInt8)} {r wv L : Nat} (h : OkB bs r wv) (hL : Sz L) (_hf : ∀ init b, bs = init ++ [b] → wv = b.length) : OkB (bs ++ [Zs L]) r 0 := by
  have hp := hL.pos
  refine ⟨fun b hb => ?_, fun e => by simp at e, fun b rest e => ?_, fun b e => ?_, fun init b e => Nat.zero_le _⟩
  · rw [List.mem_append] at hb
    rcases hb with hb | hb
    · exact h.sz b hb
    · simp only [List.mem_singleton] at hb
      subst hb
      rw [Zs.length]
      exact hL
  · cases bs with
    | nil =>
      simp only [List.nil_append, List.cons.injEq] at e
      rw [← e.1, Zs.length, h.nil rfl]
      omega
    | cons c bs =>
      simp only [List.cons_append, List.cons.injEq] at e
      rw [← e.1]
      exact h.hd c bs rfl
  · cases bs with
    | nil => exact Nat.le_of_eq (h.nil rfl)
    | cons c bs => simp at e

theorem splice_length {b d : List UInt8} {wv : Nat} (hl : wv + d.length ≤ b.length) : (splice b wv d).length = b.length := length_splice b wv d hl

theorem OkB.write {init : List (List UInt8)} {b d : List UInt8} {r wv : Nat} (h : OkB (init ++ [b]) r wv) (hl : wv + d.length ≤ b.length) : OkB (init ++ [splice b wv d]) r (wv + d.length) := by
  have hs := splice_length hl
  refine ⟨fun x hx => ?_, fun e => by simp at e, fun x rest e => ?_, fun x e => ?_, fun i x e => ?_⟩
  · rw [List.mem_append] at hx
    rcases hx with hx | hx
    · exact h.sz x (List.mem_append_left _ hx)
    · simp only [List.mem_singleton] at hx
      subst hx
      rw [hs]
      exact h.sz b (by simp)
  · cases init with
    | nil =>
      simp only [List.nil_append, List.cons.injEq] at e
      rw [← e.1, hs]
      exact h.hd b [] rfl
    | cons c init =>
      simp only [List.cons_append, List.cons.injEq] at e
      rw [← e.1]
      exact h.hd c (init ++ [b]) rfl
  · cases init with
    | nil => have := h.one b rfl; omega
    | cons c init => simp at e
  · obtain ⟨_, rfl⟩ := last_eq e
    rw [hs]
    exact hl

/-- What a read may take from the first chunk. -/
def avail (b : List UInt8) (rest : List (List UInt8)) (r wv : Nat) : Nat := (if rest = [] then wv else b.length) - r

theorem cont_head {b : List UInt8} {rest : List (List UInt8)} {r wv n : Nat} (h : OkB (b :: rest) r wv) (hn : n ≤ avail b rest r wv) :
    (b.drop r).take n = (cont (b :: rest) r wv).take n ∧ n ≤ (cont (b :: rest) r wv).length ∧ (r + n < b.length → OkB (b :: rest) (r + n) wv ∧ cont (b :: rest) (r + n) wv = (cont (b :: rest) r wv).drop n) ∧
      (r + n = b.length → OkB rest 0 wv ∧ cont rest 0 wv = (cont (b :: rest) r wv).drop n) := by
  have hr := h.hd b rest rfl
  unfold avail at hn
  cases rest with
  | nil =>
    simp only [if_true] at hn
    have h1 := h.one b rfl
    have h2 := h.lst [] b rfl
    simp only [cont]
    refine ⟨?_, by simp; omega, fun hlt => ⟨⟨h.sz, fun e => by simp at e, fun x rest e => ?_, fun x e => by omega, h.lst⟩, by rw [List.drop_drop]⟩, fun heq => ⟨⟨fun x hx => by simp at hx, fun _ => rfl, fun x rest e => by simp at e, fun x e => by simp at e, fun i x e => by simp at e⟩, ?_⟩⟩
    · rw [List.take_drop, List.take_drop, List.take_take]
      congr 2
      omega
    · simp only [List.cons.injEq] at e
      rw [← e.1]
      exact hlt
    · rw [List.drop_drop, List.drop_eq_nil_of_le (by simp; omega)]
  | cons d rest =>
    rw [if_neg (by simp)] at hn
    simp only [cont]
    have hl : (b.drop r).length = b.length - r := by simp
    refine ⟨by rw [List.take_append_of_le_length (by omega)], by rw [List.length_append]; omega, fun hlt => ⟨⟨h.sz, fun e => by simp at e, fun x rest e => ?_, fun x e => by simp at e, h.lst⟩, ?_⟩, fun heq => ⟨⟨fun x hx => h.sz x (List.mem_cons_of_mem _ hx), fun _ => rfl, fun x rs e => ?_, fun x _ => Nat.zero_le _, fun i x e => h.lst (b :: i) x (by rw [e]; rfl)⟩, ?_⟩⟩
    · simp only [List.cons.injEq] at e
      rw [← e.1]
      exact hlt
    · rw [List.drop_append_of_le_length (by omega), List.drop_drop]
    · have := (h.sz d (by simp)).pos
      simp only [List.cons.injEq] at e
      rw [← e.1]
      omega
    · rw [List.drop_append_of_le_length (by omega), List.drop_drop, List.drop_eq_nil_of_le (by omega), List.nil_append]

theorem avail_pos {b : List UInt8} {rest : List (List UInt8)} {r wv : Nat} (h : OkB (b :: rest) r wv) (hq : 0 < (cont (b :: rest) r wv).length) : 0 < avail b rest r wv := by
  have hr := h.hd b rest rfl
  unfold avail
  cases rest with
  | nil =>
    simp only [cont, List.length_drop, List.length_take] at hq
    simp only [if_true]
    omega
  | cons d rest =>
    rw [if_neg (by simp)]
    omega
theorem cont_nil {bs : List (List UInt8)} {r wv : Nat} (hq : 0 < (cont bs r wv).length) : ∃ b rest, bs = b :: rest := by
  cases bs with
  | nil => simp [cont] at hq
  | cons b rest => exact ⟨b, rest, rfl⟩
theorem cont_len0 (wv : Nat) : ∀ (bs : List (List UInt8)), (∀ b ∈ bs, Sz b.length) → (bs.length - 1) * 1024 ≤ (cont bs 0 wv).length := by
  intro bs
  induction bs with
  | nil => intro _; simp
  | cons c bs ih =>
    intro h
    cases bs with
    | nil => simp
    | cons d bs =>
      have := ih (fun b hb => h b (List.mem_cons_of_mem _ hb))
      have hp := (h c (List.mem_cons_self ..)).pos
      simp only [cont, List.drop_zero, List.length_append, List.length_cons] at this ⊢
      omega
theorem OkB.count {bs : List (List UInt8)} {r wv : Nat} (h : OkB bs r wv) : (bs.length - 2) * 1024 ≤ (cont bs r wv).length := by
  cases bs with
  | nil => simp
  | cons c bs =>
    cases bs with
    | nil => simp
    | cons d bs =>
      have := cont_len0 wv (d :: bs) (fun b hb => h.sz b (List.mem_cons_of_mem _ hb))
      simp only [cont, List.length_append, List.length_cons] at this ⊢
      omega
end Go.Proofs.YtalpilbpgkijlaaDoor
