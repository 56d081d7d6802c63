/- The inbound windows as data: what a step does and answers (plain). No condition. -/
import Derived.Test.YtalpilbpgkijlaaDoorData
namespace Go.Proofs.YtalpilbpgkijlaaDoor
/-- Two inbound windows: what is open, what was not told. -/
structure InS where
  a0 : Int
  u0 : Int
  a1 : Int
  u1 : Int
inductive StpIn : InS → StepA → ResA → InS → Prop
  | init0 {s : InS} {x : StepA} (hx : x.what = 0) (hy : x.which = 0) (h0 : 0 ≤ x.n) (h1 : x.n ≤ 2147483647) : StpIn s x ⟨0, false, [], false⟩ ⟨x.n, s.u0, s.a1, s.u1⟩
  | wait0 {s : InS} {x : StepA} (hx : x.what = 1) (hy : x.which = 0) (hu : 0 ≤ s.u0) (hu' : s.u0 ≤ 2147483647) (ha : 0 ≤ s.a0) (ha' : s.a0 ≤ 2147483647) (h0 : 0 ≤ x.n) (h1 : s.u0 + x.n + s.a0 ≤ 2147483647) (h2 : s.u0 + x.n < 4096) (h3 : s.u0 + x.n < s.a0) : StpIn s x ⟨0, false, [], false⟩ ⟨s.a0, (s.u0 + x.n), s.a1, s.u1⟩
  | flush0 {s : InS} {x : StepA} (hx : x.what = 1) (hy : x.which = 0) (hu : 0 ≤ s.u0) (hu' : s.u0 ≤ 2147483647) (ha : 0 ≤ s.a0) (ha' : s.a0 ≤ 2147483647) (h0 : 0 ≤ x.n) (h1 : s.u0 + x.n + s.a0 ≤ 2147483647) (h2 : 4096 ≤ s.u0 + x.n ∨ s.a0 ≤ s.u0 + x.n) : StpIn s x ⟨s.u0 + x.n, false, [], false⟩ ⟨(s.a0 + (s.u0 + x.n)), 0, s.a1, s.u1⟩
  | takeno0 {s : InS} {x : StepA} (hx : x.what = 2) (hy : x.which = 0) (hu : 0 ≤ s.u0) (hu' : s.u0 ≤ 2147483647) (ha : 0 ≤ s.a0) (ha' : s.a0 ≤ 2147483647) (h0 : 0 ≤ x.n) (h1 : x.n ≤ 2147483647) (h2 : s.a0 < x.n) : StpIn s x ⟨0, false, [], false⟩ s
  | take0 {s : InS} {x : StepA} (hx : x.what = 2) (hy : x.which = 0) (hu : 0 ≤ s.u0) (hu' : s.u0 ≤ 2147483647) (ha : 0 ≤ s.a0) (ha' : s.a0 ≤ 2147483647) (h0 : 0 ≤ x.n) (h1 : x.n ≤ s.a0) : StpIn s x ⟨0, true, [], false⟩ ⟨(s.a0 - x.n), s.u0, s.a1, s.u1⟩
  | init1 {s : InS} {x : StepA} (hx : x.what = 0) (hy : x.which = 1) (h0 : 0 ≤ x.n) (h1 : x.n ≤ 2147483647) : StpIn s x ⟨0, false, [], false⟩ ⟨s.a0, s.u0, x.n, s.u1⟩
  | wait1 {s : InS} {x : StepA} (hx : x.what = 1) (hy : x.which = 1) (hu : 0 ≤ s.u1) (hu' : s.u1 ≤ 2147483647) (ha : 0 ≤ s.a1) (ha' : s.a1 ≤ 2147483647) (h0 : 0 ≤ x.n) (h1 : s.u1 + x.n + s.a1 ≤ 2147483647) (h2 : s.u1 + x.n < 4096) (h3 : s.u1 + x.n < s.a1) : StpIn s x ⟨0, false, [], false⟩ ⟨s.a0, s.u0, s.a1, (s.u1 + x.n)⟩
  | flush1 {s : InS} {x : StepA} (hx : x.what = 1) (hy : x.which = 1) (hu : 0 ≤ s.u1) (hu' : s.u1 ≤ 2147483647) (ha : 0 ≤ s.a1) (ha' : s.a1 ≤ 2147483647) (h0 : 0 ≤ x.n) (h1 : s.u1 + x.n + s.a1 ≤ 2147483647) (h2 : 4096 ≤ s.u1 + x.n ∨ s.a1 ≤ s.u1 + x.n) : StpIn s x ⟨s.u1 + x.n, false, [], false⟩ ⟨s.a0, s.u0, (s.a1 + (s.u1 + x.n)), 0⟩
  | takeno1 {s : InS} {x : StepA} (hx : x.what = 2) (hy : x.which = 1) (hu : 0 ≤ s.u1) (hu' : s.u1 ≤ 2147483647) (ha : 0 ≤ s.a1) (ha' : s.a1 ≤ 2147483647) (h0 : 0 ≤ x.n) (h1 : x.n ≤ 2147483647) (h2 : s.a1 < x.n) : StpIn s x ⟨0, false, [], false⟩ s
  | take1 {s : InS} {x : StepA} (hx : x.what = 2) (hy : x.which = 1) (hu : 0 ≤ s.u1) (hu' : s.u1 ≤ 2147483647) (ha : 0 ≤ s.a1) (ha' : s.a1 ≤ 2147483647) (h0 : 0 ≤ x.n) (h1 : x.n ≤ s.a1) : StpIn s x ⟨0, true, [], false⟩ ⟨s.a0, s.u0, (s.a1 - x.n), s.u1⟩
  | bothno {s : InS} {x : StepA} (hx : x.what = 3) (ha : 0 ≤ s.a0) (ha' : s.a0 ≤ 2147483647) (hc : 0 ≤ s.a1) (hc' : s.a1 ≤ 2147483647) (hw0 : 0 ≤ x.which) (hw1 : x.which ≤ 1) (h0 : 0 ≤ x.n) (h1 : x.n ≤ 2147483647) (h2 : s.a0 < x.n ∨ s.a1 < x.n) : StpIn s x ⟨0, false, [], false⟩ s
  | both {s : InS} {x : StepA} (hx : x.what = 3) (ha : 0 ≤ s.a0) (ha' : s.a0 ≤ 2147483647) (hc : 0 ≤ s.a1) (hc' : s.a1 ≤ 2147483647) (hw0 : 0 ≤ x.which) (hw1 : x.which ≤ 1) (h0 : 0 ≤ x.n) (h1 : x.n ≤ s.a0) (h2 : x.n ≤ s.a1) : StpIn s x ⟨0, true, [], false⟩ ⟨s.a0 - x.n, s.u0, s.a1 - x.n, s.u1⟩
  | whichlo {s : InS} {x : StepA} (h : x.which < 0) : StpIn s x ⟨0, false, [], false⟩ s
  | whichhi {s : InS} {x : StepA} (h : 1 < x.which) : StpIn s x ⟨0, false, [], false⟩ s
  | whatlo {s : InS} {x : StepA} (hw0 : 0 ≤ x.which) (hw1 : x.which ≤ 1) (h : x.what < 0) : StpIn s x ⟨0, false, [], false⟩ s
  | whathi {s : InS} {x : StepA} (hw0 : 0 ≤ x.which) (hw1 : x.which ≤ 1) (h : 3 < x.what) : StpIn s x ⟨0, false, [], false⟩ s
inductive DieIn : InS → StepA → Prop
  | neg0 {s : InS} {x : StepA} (hx : x.what = 1) (hy : x.which = 0) (h : x.n < 0) : DieIn s x
  | over0 {s : InS} {x : StepA} (hx : x.what = 1) (hy : x.which = 0) (hu : 0 ≤ s.u0) (hu' : s.u0 ≤ 2147483647) (ha : 0 ≤ s.a0) (ha' : s.a0 ≤ 2147483647) (h0 : 0 ≤ x.n) (h1 : x.n ≤ 2147483647) (h2 : 2147483647 < s.u0 + x.n + s.a0) : DieIn s x
  | neg1 {s : InS} {x : StepA} (hx : x.what = 1) (hy : x.which = 1) (h : x.n < 0) : DieIn s x
  | over1 {s : InS} {x : StepA} (hx : x.what = 1) (hy : x.which = 1) (hu : 0 ≤ s.u1) (hu' : s.u1 ≤ 2147483647) (ha : 0 ≤ s.a1) (ha' : s.a1 ≤ 2147483647) (h0 : 0 ≤ x.n) (h1 : x.n ≤ 2147483647) (h2 : 2147483647 < s.u1 + x.n + s.a1) : DieIn s x
end Go.Proofs.YtalpilbpgkijlaaDoor
