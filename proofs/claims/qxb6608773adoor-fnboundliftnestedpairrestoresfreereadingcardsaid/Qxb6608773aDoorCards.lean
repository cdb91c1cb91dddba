/-
  DERIVED. GIVEN WITH THE SEED: THE CARDS: each row of Qxb6608773aDoorRows.lean that lists a variable, with what it lists TIED to the program's text (the seventh form; the later family's looks); each row that meets fmt, with fmt's text TOLD by the authors' own Lean function (tested against real Go, not proved from fmt's source: count such statements apart). THE CARD IS WHAT COUNTS. Prove the row's statement (the work); the ties are given (Qxb6608773aDoorTie.lean); close each card by the builder's one call (the guide's Derived/Test/ToyasCard.lean, 'card_holds'). Laid BY PROGRAM, IN A SANDBOX (cutbox-door.mjs). By AI agents, Wed Nov 11 2026. No macro, syntax, notation, axiom, sorry.
-/
import Derived.Test.Qxb6608773aDoorRows
import GoSem.ClaimSeven
namespace Go.Proofs.Qxb6608773aDoor
namespace Rows

/-- THE TIED CARD OF 'zzlaws_internal_hessian_b1.FnNewDecoderOwnReaderReadsEveryByteInOrder'. -/
def fnNewDecoderOwnReaderReadsEveryByteInOrderCard : Claim7 := { stood := { row := fnNewDecoderOwnReaderReadsEveryByteInOrderRow, standIns := [], harness := (true, "87047b130c0bda45e99e12122cb18454d446085e8e5704db7eae881826eb4718"), looks := false }, kinds := [], alts := [], laidByText := true, laidKinds := [.sentinel], laidTests := true, laidLooks := .later }
def FnNewDecoderOwnReaderReadsEveryByteInOrderCardSaid : Prop := Claim7.holds Tryd.pinned (.plain (OpenSpec.ofChange fnNewDecoderOwnReaderReadsEveryByteInOrderSpec)) fnNewDecoderOwnReaderReadsEveryByteInOrderCard

/-- THE TIED CARD OF 'zzlaws_internal_hessian_b1.FnNewDecoderStartsUnbounded'. -/
def fnNewDecoderStartsUnboundedCard : Claim7 := { stood := { row := fnNewDecoderStartsUnboundedRow, standIns := [], harness := (true, "87047b130c0bda45e99e12122cb18454d446085e8e5704db7eae881826eb4718"), looks := false }, kinds := [], alts := [], laidByText := true, laidKinds := [.sentinel], laidTests := true, laidLooks := .later }
def FnNewDecoderStartsUnboundedCardSaid : Prop := Claim7.holds Tryd.pinned (.plain (OpenSpec.ofChange fnNewDecoderStartsUnboundedSpec)) fnNewDecoderStartsUnboundedCard

/-- THE TIED CARD OF 'zzlaws_internal_hessian_b1.FnBoundLiftRestoresTheOuterHold'. -/
def fnBoundLiftRestoresTheOuterHoldCard : Claim7 := { stood := { row := fnBoundLiftRestoresTheOuterHoldRow, standIns := [], harness := (true, "87047b130c0bda45e99e12122cb18454d446085e8e5704db7eae881826eb4718"), looks := false }, kinds := [], alts := [], laidByText := true, laidKinds := [.sentinel], laidTests := true, laidLooks := .later }
def FnBoundLiftRestoresTheOuterHoldCardSaid : Prop := Claim7.holds Tryd.pinned (.plain (OpenSpec.ofChange fnBoundLiftRestoresTheOuterHoldSpec)) fnBoundLiftRestoresTheOuterHoldCard

/-- THE TIED CARD OF 'zzlaws_internal_hessian_b1.FnBoundLiftNestedPairRestoresFreeReading'. -/
def fnBoundLiftNestedPairRestoresFreeReadingCard : Claim7 := { stood := { row := fnBoundLiftNestedPairRestoresFreeReadingRow, standIns := [], harness := (true, "87047b130c0bda45e99e12122cb18454d446085e8e5704db7eae881826eb4718"), looks := false }, kinds := [], alts := [], laidByText := true, laidKinds := [.sentinel], laidTests := true, laidLooks := .later }
def FnBoundLiftNestedPairRestoresFreeReadingCardSaid : Prop := Claim7.holds Tryd.pinned (.plain (OpenSpec.ofChange fnBoundLiftNestedPairRestoresFreeReadingSpec)) fnBoundLiftNestedPairRestoresFreeReadingCard
end Rows
end Go.Proofs.Qxb6608773aDoor
