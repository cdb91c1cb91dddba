/-
  No cell of these rows narrows 'for every input' (looked for: loops, veiled, ifaces, maps, wideKeys, modest, calm, conditions, laid).
  DERIVED. THE GIVEN ROWS OF THIS SEAT. 5 by the template 'for every input the law returns true; each argument reads behind the call as it read before'; 0 by the template 'total and deterministic' (their statements: Qxb6608752aTotals.lean).
  GIVEN WITH THE SEED: the statements are not yours to turn. If you find one false, say at which input.
  Laid BY PROGRAM, IN A SANDBOX (cutbox-rows.mjs): the forced cells as the released guide's own fill.sh prints them over the translation 946e8c938d6f4c67… (all of the seat's roots in one cut). By AI agents, Wed Nov 11 2026. No macro, syntax, notation, axiom, sorry.
-/
import Derived.Test.Qxb6608752aChecked
import GoSem.Claim
import GoSem.ClaimJoined
import GoSem.ClaimMapViews
import Derived.JoinedTies
import Derived.KernelRfl
namespace Go.Proofs.Qxb6608752a
/- THE CELL 'sum', in the pinned program and in every row, IS THE sha256 OF THE DUMP (.gsa) THAT Qxb6608752aProg.lean LOADS. Nothing in Lean hashes anything: it is a label: what it is worth is what the hold of that sum in a sandbox is worth. -/
noncomputable def Try.pinned : Pinned := { name := "qxb6608752a", sum := "946e8c938d6f4c67ba3065e702cf846a45148ebe20a15f93c0c7b43ef346f645", checked := Try.checked }
namespace Rows
def none {H : Type} : Left H := { results := [], args := [] }

/-- 'zzlaws_value_b1.FnFaultInScript': WHATEVER THE INPUT: true; the input reads as it did. -/
def fnFaultInScriptSpec : ChangeSpec := { name := "fnFaultInScript", fn := fun _ => fun
  | [d1, d2, d3] => { results := [.lit (.bool true)], args := [d1, d2, d3] }
  | _ => none }
def fnFaultInScriptRow : OpenClaim := { program := "qxb6608752a", sum := "946e8c938d6f4c67ba3065e702cf846a45148ebe20a15f93c0c7b43ef346f645", func := "example.com/lean-template/lean-template/zzlaws_value_b1.FnFaultInScript", spec := "fnFaultInScript", apart := false }
def FnFaultInScriptSaid : Prop := fnFaultInScriptRow.holds Try.pinned (OpenSpec.ofChange fnFaultInScriptSpec)

/-- ITS FALSE NEIGHBOUR: 'it returns false'. Refute it at one input. -/
def fnFaultInScriptWrong : ChangeSpec := { name := "fnFaultInScript", fn := fun _ => fun
  | [d1, d2, d3] => { results := [.lit (.bool false)], args := [d1, d2, d3] }
  | _ => none }
def FnFaultInScriptWrongFalsely : Prop := fnFaultInScriptRow.holds Try.pinned (OpenSpec.ofChange fnFaultInScriptWrong)

/-- 'zzlaws_value_b1.FnFaultInCut': WHATEVER THE INPUT: true; the input reads as it did. -/
def fnFaultInCutSpec : ChangeSpec := { name := "fnFaultInCut", fn := fun _ => fun
  | [d1, d2, d3, d4] => { results := [.lit (.bool true)], args := [d1, d2, d3, d4] }
  | _ => none }
def fnFaultInCutRow : OpenClaim := { program := "qxb6608752a", sum := "946e8c938d6f4c67ba3065e702cf846a45148ebe20a15f93c0c7b43ef346f645", func := "example.com/lean-template/lean-template/zzlaws_value_b1.FnFaultInCut", spec := "fnFaultInCut", apart := false }
def FnFaultInCutSaid : Prop := fnFaultInCutRow.holds Try.pinned (OpenSpec.ofChange fnFaultInCutSpec)

/-- ITS FALSE NEIGHBOUR: 'it returns false'. Refute it at one input. -/
def fnFaultInCutWrong : ChangeSpec := { name := "fnFaultInCut", fn := fun _ => fun
  | [d1, d2, d3, d4] => { results := [.lit (.bool false)], args := [d1, d2, d3, d4] }
  | _ => none }
def FnFaultInCutWrongFalsely : Prop := fnFaultInCutRow.holds Try.pinned (OpenSpec.ofChange fnFaultInCutWrong)

/-- 'zzlaws_value_b1.FnObjectMarksLookupFlip': WHATEVER THE INPUT: true; the input reads as it did. -/
def fnObjectMarksLookupFlipSpec : ChangeSpec := { name := "fnObjectMarksLookupFlip", fn := fun _ => fun
  | [d1, d2, d3, d4, d5] => { results := [.lit (.bool true)], args := [d1, d2, d3, d4, d5] }
  | _ => none }
def fnObjectMarksLookupFlipRow : OpenClaim := { program := "qxb6608752a", sum := "946e8c938d6f4c67ba3065e702cf846a45148ebe20a15f93c0c7b43ef346f645", func := "example.com/lean-template/lean-template/zzlaws_value_b1.FnObjectMarksLookupFlip", spec := "fnObjectMarksLookupFlip", apart := false }
def FnObjectMarksLookupFlipSaid : Prop := fnObjectMarksLookupFlipRow.holds Try.pinned (OpenSpec.ofChange fnObjectMarksLookupFlipSpec)

/-- ITS FALSE NEIGHBOUR: 'it returns false'. Refute it at one input. -/
def fnObjectMarksLookupFlipWrong : ChangeSpec := { name := "fnObjectMarksLookupFlip", fn := fun _ => fun
  | [d1, d2, d3, d4, d5] => { results := [.lit (.bool false)], args := [d1, d2, d3, d4, d5] }
  | _ => none }
def FnObjectMarksLookupFlipWrongFalsely : Prop := fnObjectMarksLookupFlipRow.holds Try.pinned (OpenSpec.ofChange fnObjectMarksLookupFlipWrong)

/-- 'zzlaws_value_b1.FnObjectMarksLookupShift': WHATEVER THE INPUT: true; the input reads as it did. -/
def fnObjectMarksLookupShiftSpec : ChangeSpec := { name := "fnObjectMarksLookupShift", fn := fun _ => fun
  | [d1, d2, d3, d4, d5] => { results := [.lit (.bool true)], args := [d1, d2, d3, d4, d5] }
  | _ => none }
def fnObjectMarksLookupShiftRow : OpenClaim := { program := "qxb6608752a", sum := "946e8c938d6f4c67ba3065e702cf846a45148ebe20a15f93c0c7b43ef346f645", func := "example.com/lean-template/lean-template/zzlaws_value_b1.FnObjectMarksLookupShift", spec := "fnObjectMarksLookupShift", apart := false }
def FnObjectMarksLookupShiftSaid : Prop := fnObjectMarksLookupShiftRow.holds Try.pinned (OpenSpec.ofChange fnObjectMarksLookupShiftSpec)

/-- ITS FALSE NEIGHBOUR: 'it returns false'. Refute it at one input. -/
def fnObjectMarksLookupShiftWrong : ChangeSpec := { name := "fnObjectMarksLookupShift", fn := fun _ => fun
  | [d1, d2, d3, d4, d5] => { results := [.lit (.bool false)], args := [d1, d2, d3, d4, d5] }
  | _ => none }
def FnObjectMarksLookupShiftWrongFalsely : Prop := fnObjectMarksLookupShiftRow.holds Try.pinned (OpenSpec.ofChange fnObjectMarksLookupShiftWrong)

/-- 'zzlaws_value_b1.FnBareRecordPerReader': WHATEVER THE INPUT: true; the input reads as it did. -/
def fnBareRecordPerReaderSpec : ChangeSpec := { name := "fnBareRecordPerReader", fn := fun _ => fun
  | [d1, d2] => { results := [.lit (.bool true)], args := [d1, d2] }
  | _ => none }
def fnBareRecordPerReaderRow : OpenClaim := { program := "qxb6608752a", sum := "946e8c938d6f4c67ba3065e702cf846a45148ebe20a15f93c0c7b43ef346f645", func := "example.com/lean-template/lean-template/zzlaws_value_b1.FnBareRecordPerReader", spec := "fnBareRecordPerReader", apart := false }
def FnBareRecordPerReaderSaid : Prop := fnBareRecordPerReaderRow.holds Try.pinned (OpenSpec.ofChange fnBareRecordPerReaderSpec)

/-- ITS FALSE NEIGHBOUR: 'it returns false'. Refute it at one input. -/
def fnBareRecordPerReaderWrong : ChangeSpec := { name := "fnBareRecordPerReader", fn := fun _ => fun
  | [d1, d2] => { results := [.lit (.bool false)], args := [d1, d2] }
  | _ => none }
def FnBareRecordPerReaderWrongFalsely : Prop := fnBareRecordPerReaderRow.holds Try.pinned (OpenSpec.ofChange fnBareRecordPerReaderWrong)

end Rows
end Go.Proofs.Qxb6608752a
