/- 'laws.FnBuffer' answers true at every expected size and every list of steps, and leaves its arguments as they were. Condition: the package's variable holds what its initialiser lays (tied to the program's text). -/
import Derived.Test.YtalpilbpgkijlaaDoorFrame
import Derived.Test.YtalpilbpgkijlaaDoorOpenErr
import Derived.Test.YtalpilbpgkijlaaDoorLawBuffer
namespace Go.Proofs.YtalpilbpgkijlaaDoor.fnBuffer
open Go.ChangeShapes Go.WideShapes Go.ChangeAt Go.RowKit

set_option maxRecDepth 100000 in
theorem contract (H : Type) (enc : TypeId × Value → H) (W : World) (base : Nat) (args : Array Value) (ds gs : List (DataW H)) (before : List MemPlace)
    (hval : ∀ (j : Nat) t v, Tryd.f4.params[j]? = some t → args[j]? = some v → Value.okWide Tryd.prog W .any base t v)
    (hW : DataW.Whole enc Tryd.prog Tryd.f4.params.toList Rows.fnBufferSpec.vars false W args.toList ds gs before)
    (hL : laidMet Tryd.prog [("http2flow/pub/http2frames.errReadEmpty", Rows.laid_http2flow_pub_http2frames_errReadEmpty)] W) :
    Calls Tryd.prog 4 args W fun e W' => ∃ v, e = .returned v ∧ Rows.fnBufferSpec.post enc Tryd.prog Tryd.f4 false true false false W args v W' := by
  have hW' := hW
  have hlt := hW.lt
  obtain ⟨p, q, hA0, hV, rfl, hfz, hnd⟩ := hW
  have hA : DataW.TrodAll enc Tryd.prog W 0 (fun _ => true) true Tryd.f4.params.toList args.toList ds p := hA0
  rw [Tryd.params4] at hA hval
  obtain ⟨v0, vs0, d0, ds0, p0, q0, hargs, rfl, rfl, h0, r0⟩ := trodAll_cons hA
  obtain ⟨v1, vs1, d1, ds1, p1, q1, rfl, rfl, rfl, h1, r1⟩ := trodAll_cons r0
  obtain ⟨rfl, rfl, rfl⟩ := trodAll_nil r1
  obtain rfl : args = #[v0, v1] := by cases args; simp_all
  obtain ⟨rfl, rfl⟩ := trodVars_none hV
  clear hA0 hA
  have h0' := h0
  have h1' := h1
  obtain ⟨pe, hpe⟩ := err_laid hL
  obtain ⟨x0, rfl, rfl, rfl, wx⟩ := open_int Tryd.underlying2 (hval 0 2 v0 rfl rfl) h0
  obtain ⟨a0, len, cap, rfl⟩ := okWide_slice Tryd.underlying22 (hval 1 22 v1 rfl rfl)
  obtain ⟨fuel, hf⟩ := h1
  obtain ⟨al, hal⟩ := steps_of_trod hf
  refine (fnbuffer_any W x0 (wf_bd wx) _ al hal pe hpe).mono ?_
  intro e W' h
  obtain ⟨he, hS⟩ := h
  subst he
  have hb : Below W.heap.size W W' := hS.below (Nat.le_refl _) (fun _ _ h => h)
  refine ⟨_, rfl, _, _, _, [], [] ++ (p1 ++ []), [], hW', trodAll_cons_mk (shut_bool Tryd.underlying4 true) trodAll_mk0, ?_, rfl, hb.frame _, fun h => by cases h⟩
  exact trodAll_cons_mk (Below.trod laidOut reads2 (typesLt 2 (by omega)) h0' hb (fun x hx => hlt x (by simp_all))) (trodAll_cons_mk (Below.trod laidOut reads22 (typesLt 22 (by omega)) h1' hb (fun x hx => hlt x (by simp_all))) (trodAll_mk0))

theorem reads (os : Os) {H : Type} (enc : TypeId × Value → H) : ∃ places, DataW.whole enc Tryd.prog ((laidWorld os).forCall (fun _ _ => 0) ⟨#[], #[.int .i64 0, .slice none 0 0], []⟩).memory Tryd.f4.params.toList Rows.fnBufferSpec.vars false #[.int .i64 0, .slice none 0 0].toList 8 = some ([.lit (.int .i64 0), .nil], [], places) :=
  ⟨[], by kernel_rfl⟩

set_option maxRecDepth 100000 in
theorem lifted (os : Os) (started : os.Started) (H : Type) (enc : TypeId × Value → H) (F : Stop.Interp) :
    ReturnsInHanded {} Tryd.checked os 4 .any ((OpenSpec.ofChange Rows.fnBufferSpec).preRow enc Tryd.prog Tryd.f4 Rows.fnBufferRow.domain false Rows.fnBufferRow.laid) (((OpenSpec.ofChange Rows.fnBufferSpec).at F).post enc Tryd.prog Tryd.f4 false true false false) := by
  obtain ⟨places, hx⟩ := reads os enc
  refine returnsInHanded_of_row (C := Tryd.checked) (s := OpenSpec.ofChange Rows.fnBufferSpec) own started (by kernel_rfl) Tryd.func4
    (witness_row_atRef (enc := enc) (C := Tryd.checked) false (laidWorld os) #[.int .i64 0, .slice none 0 0] rfl (by kernel_rfl) (by kernel_rfl) (by kernel_rfl)
      (OpenSpec.preRow_of_cond 8 hx (by kernel_rfl) (fun k hk => by cases hk) (by kernel_rfl) (laid_met os _))) ?_
  intro W base args ds gs before hval hW _ _ _ hL _ _
  exact contract H enc W base args ds gs before hval hW hL

theorem said : Rows.FnBufferSaid :=
  OpenClaim.holds_of_cond 4 Tryd.f4 rfl rfl rfl rfl rfl rfl rfl ⟨rfl, rfl, rfl, rfl, rfl⟩ rfl rfl rfl rfl rfl (by kernel_rfl) Tryd.func4 (by kernel_rfl)
    (of_decide_eq_true (by kernel_rfl)) (by unfold Func.isWrapper; first | (rw [if_pos (by decide +kernel)]; kernel_rfl) | (rw [if_neg (by decide +kernel)]; exact ⟨rfl, rfl⟩))
    (fun os started H enc _ F => by rw [OpenClaim.pre_eq_preRow]; exact lifted os started H enc F)

theorem plain (f : FuncId) (fn : Func) (hf : Tryd.pinned.checked.prog.funcNamed "http2flow/laws.FnBuffer" = some f) (hfn : Tryd.pinned.checked.prog.funcs[f]? = some fn) :
    true = Tryd.pinned.checked.prog.looks [] ∧ ∀ (j : Nat) t, fn.params[j]? = some t → Tryd.pinned.checked.prog.wantsStandIn t = false := by
  obtain rfl : f = 4 := Option.some.inj ((show Tryd.prog.funcNamed "http2flow/laws.FnBuffer" = some 4 by kernel_rfl).symm.trans hf) |>.symm
  obtain rfl : fn = Tryd.f4 := (Option.some.inj (Tryd.func4.symm.trans hfn)).symm
  refine ⟨by kernel_rfl, fun j t ht => ?_⟩
  rw [Tryd.params4] at ht
  have hm := Array.mem_of_getElem? ht
  simp only [List.mem_toArray, List.mem_cons, List.not_mem_nil, or_false] at hm
  rcases hm with rfl | rfl
  · exact (show Tryd.prog.wantsStandIn 2 = false by kernel_rfl)
  · exact (show Tryd.prog.wantsStandIn 22 = false by kernel_rfl)

end Go.Proofs.YtalpilbpgkijlaaDoor.fnBuffer
namespace Go.Proofs.YtalpilbpgkijlaaDoor
/-- THE CARD. -/
theorem fnBuffer_holds : Rows.FnBufferCardSaid :=
  Claim7.holds_tied_plain_at .later [] _ _ _ _ fnBuffer.said (fun _ h => by cases h) (by kernel_rfl) (fun _ h => by cases h) fnBuffer_row_tie rfl ⟨rfl, rfl⟩ (by kernel_rfl) rfl fnBuffer.plain (by kernel_rfl)
end Go.Proofs.YtalpilbpgkijlaaDoor
