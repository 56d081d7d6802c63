/- The outbound windows as data: what a step does and answers (plain). No condition. -/
import Derived.Test.YtalpilbpgkijlaaDoorData
namespace Go.Proofs.YtalpilbpgkijlaaDoor
open Go.RowKit
/-- The initial window, the connection's window, whether an error was met, each stream's difference. -/
structure OutS where
  ini : Int
  cn : Int
  err : Bool
  d : Nat → Int
def upd (d : Nat → Int) (k : Nat) (v : Int) : Nat → Int := fun i => if i = k then v else d i
inductive StpOut : OutS → StepA → ResA → OutS → Prop
  | chgBig {s : OutS} {x : StepA} (hx : x.what = 0) (hw0 : 0 ≤ x.which) (hw3 : x.which ≤ 3) (h : 2147483647 < x.n) : StpOut s x ⟨0, false, [], false⟩ ⟨s.ini, s.cn, true, s.d⟩
  | chg {s : OutS} {x : StepA} (hx : x.what = 0) (hw0 : 0 ≤ x.which) (hw3 : x.which ≤ 3) (h : x.n ≤ 2147483647) : StpOut s x ⟨0, true, [], false⟩ ⟨wrap32 x.n, s.cn, s.err, s.d⟩
  | addcBig {s : OutS} {x : StepA} (hx : x.what = 1) (hw0 : 0 ≤ x.which) (hw3 : x.which ≤ 3) (h : 2147483647 < s.cn + wrap32 x.n) : StpOut s x ⟨0, false, [], false⟩ ⟨s.ini, s.cn, true, s.d⟩
  | addc {s : OutS} {x : StepA} (hx : x.what = 1) (hw0 : 0 ≤ x.which) (hw3 : x.which ≤ 3) (h : s.cn + wrap32 x.n ≤ 2147483647) : StpOut s x ⟨0, true, [], false⟩ ⟨s.ini, wrap32 (s.cn + wrap32 x.n), s.err, s.d⟩
  | addsBig {s : OutS} {x : StepA} (hx : x.what = 2) (k : Nat) (hk : k < 4) (hy : x.which = (k : Int)) (h : 2147483647 < s.ini + s.d k) : StpOut s x ⟨0, false, [], false⟩ ⟨s.ini, s.cn, true, s.d⟩
  | addsNo {s : OutS} {x : StepA} (hx : x.what = 2) (k : Nat) (hk : k < 4) (hy : x.which = (k : Int)) (h : s.ini + s.d k ≤ 2147483647) (h' : 2147483647 < s.ini + s.d k + wrap32 x.n) : StpOut s x ⟨0, false, [], false⟩ s
  | adds {s : OutS} {x : StepA} (hx : x.what = 2) (k : Nat) (hk : k < 4) (hy : x.which = (k : Int)) (h : s.ini + s.d k ≤ 2147483647) (h' : s.ini + s.d k + wrap32 x.n ≤ 2147483647) : StpOut s x ⟨0, true, [], false⟩ ⟨s.ini, s.cn, s.err, upd s.d k (wrap32 (s.d k + wrap32 x.n))⟩
  | availErr {s : OutS} {x : StepA} (hx : x.what = 3) (k : Nat) (hk : k < 4) (hy : x.which = (k : Int)) (he : s.err = true) : StpOut s x ⟨0, false, [], false⟩ s
  | availBig {s : OutS} {x : StepA} (hx : x.what = 3) (k : Nat) (hk : k < 4) (hy : x.which = (k : Int)) (he : s.err = false) (h : 2147483647 < s.ini + s.d k) : StpOut s x ⟨0, false, [], false⟩ ⟨s.ini, s.cn, true, s.d⟩
  | avail {s : OutS} {x : StepA} (hx : x.what = 3) (k : Nat) (hk : k < 4) (hy : x.which = (k : Int)) (he : s.err = false) (h : s.ini + s.d k ≤ 2147483647) : StpOut s x ⟨(min (wrap32 (s.ini + s.d k)) s.cn), true, [], false⟩ s
  | takeErr {s : OutS} {x : StepA} (hx : x.what = 4) (k : Nat) (hk : k < 4) (hy : x.which = (k : Int)) (he : s.err = true) (h : wrap32 x.n ≤ 0) : StpOut s x ⟨0, false, [], false⟩ ⟨s.ini, wrap32 (s.cn - wrap32 x.n), s.err, upd s.d k (wrap32 (s.d k - wrap32 x.n))⟩
  | takeBig {s : OutS} {x : StepA} (hx : x.what = 4) (k : Nat) (hk : k < 4) (hy : x.which = (k : Int)) (he : s.err = false) (h0 : 2147483647 < s.ini + s.d k) (h : wrap32 x.n ≤ 0) : StpOut s x ⟨0, false, [], false⟩ ⟨s.ini, wrap32 (s.cn - wrap32 x.n), true, upd s.d k (wrap32 (s.d k - wrap32 x.n))⟩
  | take {s : OutS} {x : StepA} (hx : x.what = 4) (k : Nat) (hk : k < 4) (hy : x.which = (k : Int)) (he : s.err = false) (h0 : s.ini + s.d k ≤ 2147483647) (h : wrap32 x.n ≤ (min (wrap32 (s.ini + s.d k)) s.cn)) : StpOut s x ⟨0, false, [], false⟩ ⟨s.ini, wrap32 (s.cn - wrap32 x.n), s.err, upd s.d k (wrap32 (s.d k - wrap32 x.n))⟩
  | whichlo {s : OutS} {x : StepA} (h : x.which < 0) : StpOut s x ⟨0, false, [], false⟩ s
  | whichhi {s : OutS} {x : StepA} (h : 3 < x.which) : StpOut s x ⟨0, false, [], false⟩ s
  | whatlo {s : OutS} {x : StepA} (hw0 : 0 ≤ x.which) (hw3 : x.which ≤ 3) (h : x.what < 0) : StpOut s x ⟨0, false, [], false⟩ s
  | whathi {s : OutS} {x : StepA} (hw0 : 0 ≤ x.which) (hw3 : x.which ≤ 3) (h : 4 < x.what) : StpOut s x ⟨0, false, [], false⟩ s
inductive DieOut : OutS → StepA → Prop
  | dieErr {s : OutS} {x : StepA} (hx : x.what = 4) (k : Nat) (hk : k < 4) (hy : x.which = (k : Int)) (he : s.err = true) (h : 0 < wrap32 x.n) : DieOut s x
  | dieBig {s : OutS} {x : StepA} (hx : x.what = 4) (k : Nat) (hk : k < 4) (hy : x.which = (k : Int)) (he : s.err = false) (h0 : 2147483647 < s.ini + s.d k) (h : 0 < wrap32 x.n) : DieOut s x
  | die {s : OutS} {x : StepA} (hx : x.what = 4) (k : Nat) (hk : k < 4) (hy : x.which = (k : Int)) (he : s.err = false) (h0 : s.ini + s.d k ≤ 2147483647) (h : (min (wrap32 (s.ini + s.d k)) s.cn) < wrap32 x.n) : DieOut s x
end Go.Proofs.YtalpilbpgkijlaaDoor
