/-
  DERIVED. GIVEN WITH THE SEED: THE CARDS: each row of Qxb6613651aDoorRows.lean that lists a variable, with what it lists TIED to the program's text (the seventh form; the later family's looks); each row that meets fmt, with fmt's text TOLD by the authors' own Lean function (tested against real Go, not proved from fmt's source: count such statements apart). THE CARD IS WHAT COUNTS. Prove the row's statement (the work); the ties are given (Qxb6613651aDoorTie.lean); close each card by the builder's one call (the guide's Derived/Test/ToyasCard.lean, 'card_holds'). Laid BY PROGRAM, IN A SANDBOX (cutbox-door.mjs). By AI agents, Wed Nov 11 2026. No macro, syntax, notation, axiom, sorry.
-/
import Derived.Test.Qxb6613651aDoorRows
import GoSem.ClaimSeven
namespace Go.Proofs.Qxb6613651aDoor
namespace Rows

/-- THE TIED CARD OF 'zzlaws_cdni_b1.FnDeliveryProtocolsEmptyNameAnyPlace'. -/
def fnDeliveryProtocolsEmptyNameAnyPlaceCard : Claim7 := { stood := { row := fnDeliveryProtocolsEmptyNameAnyPlaceRow, standIns := [], harness := (true, "78f26ea345644928e95e441c4b5588707e8dac01a980be797c488ec69f059d97"), looks := true }, kinds := [], alts := [], laidByText := true, laidKinds := [.data, .data, .data], laidTests := true, laidLooks := .later }
def FnDeliveryProtocolsEmptyNameAnyPlaceCardSaid : Prop := Claim7.holds Tryd.pinned (.plain (OpenSpec.ofChange fnDeliveryProtocolsEmptyNameAnyPlaceSpec)) fnDeliveryProtocolsEmptyNameAnyPlaceCard

/-- THE TIED CARD OF 'zzlaws_cdni_b1.FnDeliveryProtocolsNameShiftsVerdict'. -/
def fnDeliveryProtocolsNameShiftsVerdictCard : Claim7 := { stood := { row := fnDeliveryProtocolsNameShiftsVerdictRow, standIns := [], harness := (true, "78f26ea345644928e95e441c4b5588707e8dac01a980be797c488ec69f059d97"), looks := true }, kinds := [], alts := [], laidByText := true, laidKinds := [.data, .data, .data], laidTests := true, laidLooks := .later }
def FnDeliveryProtocolsNameShiftsVerdictCardSaid : Prop := Claim7.holds Tryd.pinned (.plain (OpenSpec.ofChange fnDeliveryProtocolsNameShiftsVerdictSpec)) fnDeliveryProtocolsNameShiftsVerdictCard

/-- THE TIED CARD OF 'zzlaws_cdni_b1.FnWithinNestsAsOnePath'. -/
def fnWithinNestsAsOnePathCard : Claim7 := { stood := { row := fnWithinNestsAsOnePathRow, standIns := [], harness := (true, "78f26ea345644928e95e441c4b5588707e8dac01a980be797c488ec69f059d97"), looks := true }, kinds := [], alts := [], laidByText := true, laidKinds := [.handle], laidTests := true, laidLooks := .later }
def FnWithinNestsAsOnePathCardSaid : Prop := Claim7.holds Tryd.pinned (.plain (OpenSpec.ofChange fnWithinNestsAsOnePathSpec)) fnWithinNestsAsOnePathCard

/-- THE TIED CARD OF 'zzlaws_cdni_b1.FnIsUpperPairsWithCaseBit'. -/
def fnIsUpperPairsWithCaseBitCard : Claim7 := { stood := { row := fnIsUpperPairsWithCaseBitRow, standIns := [], harness := (true, "78f26ea345644928e95e441c4b5588707e8dac01a980be797c488ec69f059d97"), looks := true }, kinds := [], alts := [], laidByText := true, laidKinds := [.data, .pinned], laidTests := true, laidLooks := .later }
def FnIsUpperPairsWithCaseBitCardSaid : Prop := Claim7.holds Tryd.pinned (.plain (OpenSpec.ofChange fnIsUpperPairsWithCaseBitSpec)) fnIsUpperPairsWithCaseBitCard
end Rows
end Go.Proofs.Qxb6613651aDoor
