/-
  DERIVED. GIVEN WITH THE SEED: THE CARDS: each row of Qxb6606350aDoorRows.lean that lists a variable, with what it lists TIED to the program's text (the seventh form; the later family's looks); each row that meets fmt, with fmt's text TOLD by the authors' own Lean function (tested against real Go, not proved from fmt's source: count such statements apart). THE CARD IS WHAT COUNTS. Prove the row's statement (the work); the ties are given (Qxb6606350aDoorTie.lean); close each card by the builder's one call (the guide's Derived/Test/ToyasCard.lean, 'card_holds'). Laid BY PROGRAM, IN A SANDBOX (cutbox-door.mjs). By AI agents, Wed Nov 11 2026. No macro, syntax, notation, axiom, sorry.
-/
import Derived.Test.Qxb6606350aDoorRows
import GoSem.ClaimSeven
namespace Go.Proofs.Qxb6606350aDoor
namespace Rows

/-- THE TIED CARD OF 'zzlaws_internal_connectconfig_b1.FnLogicalLinesLineEndingsFree'. -/
def fnLogicalLinesLineEndingsFreeCard : Claim7 := { stood := { row := fnLogicalLinesLineEndingsFreeRow, standIns := [], harness := (true, "b361e337d8f58ea4acc976dbdddf57bfb6ddece3c304c353b60b103777be9305"), looks := false }, kinds := [], alts := [], laidByText := true, laidKinds := [.data, .pinned], laidTests := true, laidLooks := .later }
def FnLogicalLinesLineEndingsFreeCardSaid : Prop := Claim7.holds Tryd.pinned (.plain (OpenSpec.ofChange fnLogicalLinesLineEndingsFreeSpec)) fnLogicalLinesLineEndingsFreeCard

/-- THE TIED CARD OF 'zzlaws_internal_connectconfig_b1.FnLogicalLinesReadsBackPlainLines'. -/
def fnLogicalLinesReadsBackPlainLinesCard : Claim7 := { stood := { row := fnLogicalLinesReadsBackPlainLinesRow, standIns := [], harness := (true, "b361e337d8f58ea4acc976dbdddf57bfb6ddece3c304c353b60b103777be9305"), looks := false }, kinds := [], alts := [], laidByText := true, laidKinds := [.data, .pinned], laidTests := true, laidLooks := .later }
def FnLogicalLinesReadsBackPlainLinesCardSaid : Prop := Claim7.holds Tryd.pinned (.plain (OpenSpec.ofChange fnLogicalLinesReadsBackPlainLinesSpec)) fnLogicalLinesReadsBackPlainLinesCard

/-- THE TIED CARD OF 'zzlaws_internal_connectconfig_b1.FnLogicalLinesJoinsContinuations'. -/
def fnLogicalLinesJoinsContinuationsCard : Claim7 := { stood := { row := fnLogicalLinesJoinsContinuationsRow, standIns := [], harness := (true, "b361e337d8f58ea4acc976dbdddf57bfb6ddece3c304c353b60b103777be9305"), looks := false }, kinds := [], alts := [], laidByText := true, laidKinds := [.data, .pinned], laidTests := true, laidLooks := .later }
def FnLogicalLinesJoinsContinuationsCardSaid : Prop := Claim7.holds Tryd.pinned (.plain (OpenSpec.ofChange fnLogicalLinesJoinsContinuationsSpec)) fnLogicalLinesJoinsContinuationsCard
end Rows
end Go.Proofs.Qxb6606350aDoor
