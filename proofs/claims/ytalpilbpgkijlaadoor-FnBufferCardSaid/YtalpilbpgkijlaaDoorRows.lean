/-
  NARROWER THAN 'FOR EVERY INPUT', by the rows' own cells (each row's printed sentence says how): FnBalance: laid · FnBuffer: laid · FnInflow: laid · FnOutflow: laid · FnTransfer: laid.
  DERIVED. THE GIVEN ROWS OF THIS SEAT. 5 by the template 'for every input the law returns true; each argument reads behind the call as it read before'; 0 by the template 'total and deterministic' (their statements: YtalpilbpgkijlaaDoorTotals.lean).
  GIVEN WITH THE SEED: the statements are not yours to turn. If you find one false, say at which input.
  Laid BY PROGRAM, IN A SANDBOX (cutbox-rows.mjs): the forced cells as the released guide's own fill.sh prints them over the translation 434118dd82db4460… (all of the seat's roots in one cut). By AI agents, Wed Nov 11 2026. No macro, syntax, notation, axiom, sorry.
-/
import Derived.Test.YtalpilbpgkijlaaDoorChecked
import GoSem.Claim
import GoSem.ClaimJoined
import GoSem.ClaimMapViews
import Derived.JoinedTies
import Derived.KernelRfl
namespace Go.Proofs.YtalpilbpgkijlaaDoor
/- THE CELL 'sum', in the pinned program and in every row, IS THE sha256 OF THE DUMP (.gsa) THAT YtalpilbpgkijlaaDoorProg.lean LOADS. Nothing in Lean hashes anything: it is a label: what it is worth is what the hold of that sum in a sandbox is worth. -/
noncomputable def Tryd.pinned : Pinned := { name := "ytalpilbpgkijlaadoor", sum := "434118dd82db4460c4381f8fbaa16e2bf32939faec67e04d4945d0968598bff6", checked := Tryd.checked }
namespace Rows
def none {H : Type} : Left H := { results := [], args := [] }

/- WHAT THE LISTED PACKAGE-LEVEL VARIABLES READ AS WHEN THE CALL BEGINS. Each datum BY PROGRAM (the guide's laid-datum.mjs) off the statement by which the dump's own 'gosem.cut.vars' lays the variable. In a bare row this is a premise. The card (YtalpilbpgkijlaaDoorCards.lean) ties it to the program's text. -/
def laid_http2flow_pub_http2frames_errReadEmpty {H : Type} : DataW H := .iface "*errors.errorString" (.ptr (.agg [.lit (.string [114, 101, 97, 100, 32, 102, 114, 111, 109, 32, 101, 109, 112, 116, 121, 32, 100, 97, 116, 97, 66, 117, 102, 102, 101, 114])]))

/-- 'laws.FnBalance': WHATEVER THE INPUT: true; the input reads as it did. -/
def fnBalanceSpec : ChangeSpec := { name := "fnBalance", fn := fun _ => fun
  | [d1, d2] => { results := [.lit (.bool true)], args := [d1, d2] }
  | _ => none }
def fnBalanceRow : OpenClaim := { program := "ytalpilbpgkijlaadoor", sum := "434118dd82db4460c4381f8fbaa16e2bf32939faec67e04d4945d0968598bff6", func := "http2flow/laws.FnBalance", spec := "fnBalance", unfollowed := true, recurses := true, named := ["http2flow/pub/http2frames.errReadEmpty"], apart := false, laid := [("http2flow/pub/http2frames.errReadEmpty", laid_http2flow_pub_http2frames_errReadEmpty)] }
def FnBalanceSaid : Prop := fnBalanceRow.holds Tryd.pinned (OpenSpec.ofChange fnBalanceSpec)

/-- ITS FALSE NEIGHBOUR: 'it returns false'. Refute it at one input. -/
def fnBalanceWrong : ChangeSpec := { name := "fnBalance", fn := fun _ => fun
  | [d1, d2] => { results := [.lit (.bool false)], args := [d1, d2] }
  | _ => none }
def FnBalanceWrongFalsely : Prop := fnBalanceRow.holds Tryd.pinned (OpenSpec.ofChange fnBalanceWrong)

/-- 'laws.FnBuffer': WHATEVER THE INPUT: true; the input reads as it did. -/
def fnBufferSpec : ChangeSpec := { name := "fnBuffer", fn := fun _ => fun
  | [d1, d2] => { results := [.lit (.bool true)], args := [d1, d2] }
  | _ => none }
def fnBufferRow : OpenClaim := { program := "ytalpilbpgkijlaadoor", sum := "434118dd82db4460c4381f8fbaa16e2bf32939faec67e04d4945d0968598bff6", func := "http2flow/laws.FnBuffer", spec := "fnBuffer", unfollowed := true, recurses := true, named := ["http2flow/pub/http2frames.errReadEmpty"], apart := false, laid := [("http2flow/pub/http2frames.errReadEmpty", laid_http2flow_pub_http2frames_errReadEmpty)] }
def FnBufferSaid : Prop := fnBufferRow.holds Tryd.pinned (OpenSpec.ofChange fnBufferSpec)

/-- ITS FALSE NEIGHBOUR: 'it returns false'. Refute it at one input. -/
def fnBufferWrong : ChangeSpec := { name := "fnBuffer", fn := fun _ => fun
  | [d1, d2] => { results := [.lit (.bool false)], args := [d1, d2] }
  | _ => none }
def FnBufferWrongFalsely : Prop := fnBufferRow.holds Tryd.pinned (OpenSpec.ofChange fnBufferWrong)

/-- 'laws.FnInflow': WHATEVER THE INPUT: true; the input reads as it did. -/
def fnInflowSpec : ChangeSpec := { name := "fnInflow", fn := fun _ => fun
  | [d] => { results := [.lit (.bool true)], args := [d] }
  | _ => none }
def fnInflowRow : OpenClaim := { program := "ytalpilbpgkijlaadoor", sum := "434118dd82db4460c4381f8fbaa16e2bf32939faec67e04d4945d0968598bff6", func := "http2flow/laws.FnInflow", spec := "fnInflow", unfollowed := true, recurses := true, named := ["http2flow/pub/http2frames.errReadEmpty"], apart := false, laid := [("http2flow/pub/http2frames.errReadEmpty", laid_http2flow_pub_http2frames_errReadEmpty)] }
def FnInflowSaid : Prop := fnInflowRow.holds Tryd.pinned (OpenSpec.ofChange fnInflowSpec)

/-- ITS FALSE NEIGHBOUR: 'it returns false'. Refute it at one input. -/
def fnInflowWrong : ChangeSpec := { name := "fnInflow", fn := fun _ => fun
  | [d] => { results := [.lit (.bool false)], args := [d] }
  | _ => none }
def FnInflowWrongFalsely : Prop := fnInflowRow.holds Tryd.pinned (OpenSpec.ofChange fnInflowWrong)

/-- 'laws.FnOutflow': WHATEVER THE INPUT: true; the input reads as it did. -/
def fnOutflowSpec : ChangeSpec := { name := "fnOutflow", fn := fun _ => fun
  | [d] => { results := [.lit (.bool true)], args := [d] }
  | _ => none }
def fnOutflowRow : OpenClaim := { program := "ytalpilbpgkijlaadoor", sum := "434118dd82db4460c4381f8fbaa16e2bf32939faec67e04d4945d0968598bff6", func := "http2flow/laws.FnOutflow", spec := "fnOutflow", unfollowed := true, recurses := true, named := ["http2flow/pub/http2frames.errReadEmpty"], apart := false, laid := [("http2flow/pub/http2frames.errReadEmpty", laid_http2flow_pub_http2frames_errReadEmpty)] }
def FnOutflowSaid : Prop := fnOutflowRow.holds Tryd.pinned (OpenSpec.ofChange fnOutflowSpec)

/-- ITS FALSE NEIGHBOUR: 'it returns false'. Refute it at one input. -/
def fnOutflowWrong : ChangeSpec := { name := "fnOutflow", fn := fun _ => fun
  | [d] => { results := [.lit (.bool false)], args := [d] }
  | _ => none }
def FnOutflowWrongFalsely : Prop := fnOutflowRow.holds Tryd.pinned (OpenSpec.ofChange fnOutflowWrong)

/-- 'laws.FnTransfer': WHATEVER THE INPUT: true; the input reads as it did. -/
def fnTransferSpec : ChangeSpec := { name := "fnTransfer", fn := fun _ => fun
  | [d1, d2] => { results := [.lit (.bool true)], args := [d1, d2] }
  | _ => none }
def fnTransferRow : OpenClaim := { program := "ytalpilbpgkijlaadoor", sum := "434118dd82db4460c4381f8fbaa16e2bf32939faec67e04d4945d0968598bff6", func := "http2flow/laws.FnTransfer", spec := "fnTransfer", unfollowed := true, recurses := true, named := ["http2flow/pub/http2frames.errReadEmpty"], apart := false, laid := [("http2flow/pub/http2frames.errReadEmpty", laid_http2flow_pub_http2frames_errReadEmpty)] }
def FnTransferSaid : Prop := fnTransferRow.holds Tryd.pinned (OpenSpec.ofChange fnTransferSpec)

/-- ITS FALSE NEIGHBOUR: 'it returns false'. Refute it at one input. -/
def fnTransferWrong : ChangeSpec := { name := "fnTransfer", fn := fun _ => fun
  | [d1, d2] => { results := [.lit (.bool false)], args := [d1, d2] }
  | _ => none }
def FnTransferWrongFalsely : Prop := fnTransferRow.holds Tryd.pinned (OpenSpec.ofChange fnTransferWrong)

/- THE SECOND FORM. 'bulk': how many values and letters a reading holds, each counted each time it is reached (what is shared counts as often as it is met; a slice's spare places count too). A statement '..UptoSaid' is the law's where the arguments, and the package variables that the reading takes, are together of bulk at most 1048576: NARROWER than '..Said'. Prove '..Said' where nothing that the law and all that it calls make is longer than what came in: it says more and counts as full. Else prove '..UptoSaid'. A law counts once. -/
mutual
def uptoBulk {H : Type} : DataW H → Nat
  | .lit (.string bytes) => bytes.length + 1
  | .lit _ => 1
  | .nil => 1
  | .ptr d => uptoBulk d + 1
  | .slice elems spare => uptoBulkAll elems + uptoBulkAll spare + 1
  | .agg parts => uptoBulkAll parts + 1
  | .iface _ d => uptoBulk d + 1
  | .map entries => uptoBulkEntries entries + 1
  | .held _ => 1
def uptoBulkAll {H : Type} : List (DataW H) → Nat
  | [] => 0
  | d :: r => uptoBulk d + uptoBulkAll r
def uptoBulkEntries {H : Type} : List (Lit × DataW H) → Nat
  | [] => 0
  | x :: r => uptoBulkEntry x + uptoBulkEntries r
def uptoBulkEntry {H : Type} : Lit × DataW H → Nat
  | (.string bytes, d) => bytes.length + uptoBulk d + 1
  | (_, d) => uptoBulk d + 1
 end
def uptoSmall : (H : Type) → List (DataW H) → Bool := fun _ ds => decide (uptoBulkAll ds ≤ 1048576)
def OpenSpec.upto (s : _root_.Go.ChangeSpec) : _root_.Go.OpenSpec := { _root_.Go.OpenSpec.ofChange s with cond := some uptoSmall }

/-- 'laws.FnBalance', WHERE WHAT IT READS IS OF BULK AT MOST 1048576: true; the input reads as it did. -/
def fnBalanceUptoRow : OpenClaim := { program := "ytalpilbpgkijlaadoor", sum := "434118dd82db4460c4381f8fbaa16e2bf32939faec67e04d4945d0968598bff6", func := "http2flow/laws.FnBalance", spec := "fnBalance", unfollowed := true, recurses := true, named := ["http2flow/pub/http2frames.errReadEmpty"], apart := false, laid := [("http2flow/pub/http2frames.errReadEmpty", laid_http2flow_pub_http2frames_errReadEmpty)], narrowed := true }
def FnBalanceUptoSaid : Prop := fnBalanceUptoRow.holds Tryd.pinned (OpenSpec.upto fnBalanceSpec)

/-- 'laws.FnBuffer', WHERE WHAT IT READS IS OF BULK AT MOST 1048576: true; the input reads as it did. -/
def fnBufferUptoRow : OpenClaim := { program := "ytalpilbpgkijlaadoor", sum := "434118dd82db4460c4381f8fbaa16e2bf32939faec67e04d4945d0968598bff6", func := "http2flow/laws.FnBuffer", spec := "fnBuffer", unfollowed := true, recurses := true, named := ["http2flow/pub/http2frames.errReadEmpty"], apart := false, laid := [("http2flow/pub/http2frames.errReadEmpty", laid_http2flow_pub_http2frames_errReadEmpty)], narrowed := true }
def FnBufferUptoSaid : Prop := fnBufferUptoRow.holds Tryd.pinned (OpenSpec.upto fnBufferSpec)

/-- 'laws.FnInflow', WHERE WHAT IT READS IS OF BULK AT MOST 1048576: true; the input reads as it did. -/
def fnInflowUptoRow : OpenClaim := { program := "ytalpilbpgkijlaadoor", sum := "434118dd82db4460c4381f8fbaa16e2bf32939faec67e04d4945d0968598bff6", func := "http2flow/laws.FnInflow", spec := "fnInflow", unfollowed := true, recurses := true, named := ["http2flow/pub/http2frames.errReadEmpty"], apart := false, laid := [("http2flow/pub/http2frames.errReadEmpty", laid_http2flow_pub_http2frames_errReadEmpty)], narrowed := true }
def FnInflowUptoSaid : Prop := fnInflowUptoRow.holds Tryd.pinned (OpenSpec.upto fnInflowSpec)

/-- 'laws.FnOutflow', WHERE WHAT IT READS IS OF BULK AT MOST 1048576: true; the input reads as it did. -/
def fnOutflowUptoRow : OpenClaim := { program := "ytalpilbpgkijlaadoor", sum := "434118dd82db4460c4381f8fbaa16e2bf32939faec67e04d4945d0968598bff6", func := "http2flow/laws.FnOutflow", spec := "fnOutflow", unfollowed := true, recurses := true, named := ["http2flow/pub/http2frames.errReadEmpty"], apart := false, laid := [("http2flow/pub/http2frames.errReadEmpty", laid_http2flow_pub_http2frames_errReadEmpty)], narrowed := true }
def FnOutflowUptoSaid : Prop := fnOutflowUptoRow.holds Tryd.pinned (OpenSpec.upto fnOutflowSpec)

/-- 'laws.FnTransfer', WHERE WHAT IT READS IS OF BULK AT MOST 1048576: true; the input reads as it did. -/
def fnTransferUptoRow : OpenClaim := { program := "ytalpilbpgkijlaadoor", sum := "434118dd82db4460c4381f8fbaa16e2bf32939faec67e04d4945d0968598bff6", func := "http2flow/laws.FnTransfer", spec := "fnTransfer", unfollowed := true, recurses := true, named := ["http2flow/pub/http2frames.errReadEmpty"], apart := false, laid := [("http2flow/pub/http2frames.errReadEmpty", laid_http2flow_pub_http2frames_errReadEmpty)], narrowed := true }
def FnTransferUptoSaid : Prop := fnTransferUptoRow.holds Tryd.pinned (OpenSpec.upto fnTransferSpec)

end Rows
end Go.Proofs.YtalpilbpgkijlaaDoor
