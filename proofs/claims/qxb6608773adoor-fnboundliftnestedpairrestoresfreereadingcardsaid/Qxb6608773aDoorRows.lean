/-
  NARROWER THAN 'FOR EVERY INPUT', by the rows' own cells (each row's printed sentence says how): FnNewDecoderOwnReaderReadsEveryByteInOrder: laid · FnNewDecoderStartsUnbounded: laid · FnBoundLiftRestoresTheOuterHold: laid · FnBoundLiftNestedPairRestoresFreeReading: laid.
  DERIVED. THE GIVEN ROWS OF THIS SEAT. 4 by the template 'for every input the law returns true; each argument reads behind the call as it read before'; 0 by the template 'total and deterministic' (their statements: Qxb6608773aDoorTotals.lean).
  GIVEN WITH THE SEED: the statements are not yours to turn. If you find one false, say at which input.
  Laid BY PROGRAM, IN A SANDBOX (cutbox-rows.mjs): the forced cells as the released guide's own fill.sh prints them over the translation 6acb895ec5dff65a… (all of the seat's roots in one cut). By AI agents, Wed Nov 11 2026. No macro, syntax, notation, axiom, sorry.
-/
import Derived.Test.Qxb6608773aDoorChecked
import GoSem.Claim
import GoSem.ClaimJoined
import GoSem.ClaimMapViews
import Derived.JoinedTies
import Derived.KernelRfl
namespace Go.Proofs.Qxb6608773aDoor
/- THE CELL 'sum', in the pinned program and in every row, IS THE sha256 OF THE DUMP (.gsa) THAT Qxb6608773aDoorProg.lean LOADS. Nothing in Lean hashes anything: it is a label: what it is worth is what the hold of that sum in a sandbox is worth. -/
noncomputable def Tryd.pinned : Pinned := { name := "qxb6608773adoor", sum := "6acb895ec5dff65a6456b76f85abf59fe515ff37fff578bde7cb7232e345551e", checked := Tryd.checked }
namespace Rows
def none {H : Type} : Left H := { results := [], args := [] }

/- WHAT THE LISTED PACKAGE-LEVEL VARIABLES READ AS WHEN THE CALL BEGINS. Each datum BY PROGRAM (the guide's laid-datum.mjs) off the statement by which the dump's own 'gosem.cut.vars' lays the variable. In a bare row this is a premise. The card (Qxb6608773aDoorCards.lean) ties it to the program's text. -/
def laid_io_ErrUnexpectedEOF {H : Type} : DataW H := .iface "*errors.errorString" (.ptr (.agg [.lit (.string [117, 110, 101, 120, 112, 101, 99, 116, 101, 100, 32, 69, 79, 70])]))

/-- 'zzlaws_internal_hessian_b1.FnNewDecoderOwnReaderReadsEveryByteInOrder': WHATEVER THE INPUT: true; the input reads as it did. -/
def fnNewDecoderOwnReaderReadsEveryByteInOrderSpec : ChangeSpec := { name := "fnNewDecoderOwnReaderReadsEveryByteInOrder", fn := fun _ => fun
  | [d] => { results := [.lit (.bool true)], args := [d] }
  | _ => none }
def fnNewDecoderOwnReaderReadsEveryByteInOrderRow : OpenClaim := { program := "qxb6608773adoor", sum := "6acb895ec5dff65a6456b76f85abf59fe515ff37fff578bde7cb7232e345551e", func := "example.com/http-rpc-gateway/http-rpc-gateway/zzlaws_internal_hessian_b1.FnNewDecoderOwnReaderReadsEveryByteInOrder", spec := "fnNewDecoderOwnReaderReadsEveryByteInOrder", named := ["io.ErrUnexpectedEOF"], apart := false, laid := [("io.ErrUnexpectedEOF", laid_io_ErrUnexpectedEOF)] }
def FnNewDecoderOwnReaderReadsEveryByteInOrderSaid : Prop := fnNewDecoderOwnReaderReadsEveryByteInOrderRow.holds Tryd.pinned (OpenSpec.ofChange fnNewDecoderOwnReaderReadsEveryByteInOrderSpec)

/-- ITS FALSE NEIGHBOUR: 'it returns false'. Refute it at one input. -/
def fnNewDecoderOwnReaderReadsEveryByteInOrderWrong : ChangeSpec := { name := "fnNewDecoderOwnReaderReadsEveryByteInOrder", fn := fun _ => fun
  | [d] => { results := [.lit (.bool false)], args := [d] }
  | _ => none }
def FnNewDecoderOwnReaderReadsEveryByteInOrderWrongFalsely : Prop := fnNewDecoderOwnReaderReadsEveryByteInOrderRow.holds Tryd.pinned (OpenSpec.ofChange fnNewDecoderOwnReaderReadsEveryByteInOrderWrong)

/-- 'zzlaws_internal_hessian_b1.FnNewDecoderStartsUnbounded': WHATEVER THE INPUT: true; the input reads as it did. -/
def fnNewDecoderStartsUnboundedSpec : ChangeSpec := { name := "fnNewDecoderStartsUnbounded", fn := fun _ => fun
  | [d1, d2] => { results := [.lit (.bool true)], args := [d1, d2] }
  | _ => none }
def fnNewDecoderStartsUnboundedRow : OpenClaim := { program := "qxb6608773adoor", sum := "6acb895ec5dff65a6456b76f85abf59fe515ff37fff578bde7cb7232e345551e", func := "example.com/http-rpc-gateway/http-rpc-gateway/zzlaws_internal_hessian_b1.FnNewDecoderStartsUnbounded", spec := "fnNewDecoderStartsUnbounded", named := ["io.ErrUnexpectedEOF"], apart := false, laid := [("io.ErrUnexpectedEOF", laid_io_ErrUnexpectedEOF)] }
def FnNewDecoderStartsUnboundedSaid : Prop := fnNewDecoderStartsUnboundedRow.holds Tryd.pinned (OpenSpec.ofChange fnNewDecoderStartsUnboundedSpec)

/-- ITS FALSE NEIGHBOUR: 'it returns false'. Refute it at one input. -/
def fnNewDecoderStartsUnboundedWrong : ChangeSpec := { name := "fnNewDecoderStartsUnbounded", fn := fun _ => fun
  | [d1, d2] => { results := [.lit (.bool false)], args := [d1, d2] }
  | _ => none }
def FnNewDecoderStartsUnboundedWrongFalsely : Prop := fnNewDecoderStartsUnboundedRow.holds Tryd.pinned (OpenSpec.ofChange fnNewDecoderStartsUnboundedWrong)

/-- 'zzlaws_internal_hessian_b1.FnBoundLiftRestoresTheOuterHold': WHATEVER THE INPUT: true; the input reads as it did. -/
def fnBoundLiftRestoresTheOuterHoldSpec : ChangeSpec := { name := "fnBoundLiftRestoresTheOuterHold", fn := fun _ => fun
  | [d1, d2, d3, d4, d5] => { results := [.lit (.bool true)], args := [d1, d2, d3, d4, d5] }
  | _ => none }
def fnBoundLiftRestoresTheOuterHoldRow : OpenClaim := { program := "qxb6608773adoor", sum := "6acb895ec5dff65a6456b76f85abf59fe515ff37fff578bde7cb7232e345551e", func := "example.com/http-rpc-gateway/http-rpc-gateway/zzlaws_internal_hessian_b1.FnBoundLiftRestoresTheOuterHold", spec := "fnBoundLiftRestoresTheOuterHold", named := ["io.ErrUnexpectedEOF"], apart := false, laid := [("io.ErrUnexpectedEOF", laid_io_ErrUnexpectedEOF)] }
def FnBoundLiftRestoresTheOuterHoldSaid : Prop := fnBoundLiftRestoresTheOuterHoldRow.holds Tryd.pinned (OpenSpec.ofChange fnBoundLiftRestoresTheOuterHoldSpec)

/-- ITS FALSE NEIGHBOUR: 'it returns false'. Refute it at one input. -/
def fnBoundLiftRestoresTheOuterHoldWrong : ChangeSpec := { name := "fnBoundLiftRestoresTheOuterHold", fn := fun _ => fun
  | [d1, d2, d3, d4, d5] => { results := [.lit (.bool false)], args := [d1, d2, d3, d4, d5] }
  | _ => none }
def FnBoundLiftRestoresTheOuterHoldWrongFalsely : Prop := fnBoundLiftRestoresTheOuterHoldRow.holds Tryd.pinned (OpenSpec.ofChange fnBoundLiftRestoresTheOuterHoldWrong)

/-- 'zzlaws_internal_hessian_b1.FnBoundLiftNestedPairRestoresFreeReading': WHATEVER THE INPUT: true; the input reads as it did. -/
def fnBoundLiftNestedPairRestoresFreeReadingSpec : ChangeSpec := { name := "fnBoundLiftNestedPairRestoresFreeReading", fn := fun _ => fun
  | [d1, d2, d3, d4, d5] => { results := [.lit (.bool true)], args := [d1, d2, d3, d4, d5] }
  | _ => none }
def fnBoundLiftNestedPairRestoresFreeReadingRow : OpenClaim := { program := "qxb6608773adoor", sum := "6acb895ec5dff65a6456b76f85abf59fe515ff37fff578bde7cb7232e345551e", func := "example.com/http-rpc-gateway/http-rpc-gateway/zzlaws_internal_hessian_b1.FnBoundLiftNestedPairRestoresFreeReading", spec := "fnBoundLiftNestedPairRestoresFreeReading", named := ["io.ErrUnexpectedEOF"], apart := false, laid := [("io.ErrUnexpectedEOF", laid_io_ErrUnexpectedEOF)] }
def FnBoundLiftNestedPairRestoresFreeReadingSaid : Prop := fnBoundLiftNestedPairRestoresFreeReadingRow.holds Tryd.pinned (OpenSpec.ofChange fnBoundLiftNestedPairRestoresFreeReadingSpec)

/-- ITS FALSE NEIGHBOUR: 'it returns false'. Refute it at one input. -/
def fnBoundLiftNestedPairRestoresFreeReadingWrong : ChangeSpec := { name := "fnBoundLiftNestedPairRestoresFreeReading", fn := fun _ => fun
  | [d1, d2, d3, d4, d5] => { results := [.lit (.bool false)], args := [d1, d2, d3, d4, d5] }
  | _ => none }
def FnBoundLiftNestedPairRestoresFreeReadingWrongFalsely : Prop := fnBoundLiftNestedPairRestoresFreeReadingRow.holds Tryd.pinned (OpenSpec.ofChange fnBoundLiftNestedPairRestoresFreeReadingWrong)

end Rows
end Go.Proofs.Qxb6608773aDoor
