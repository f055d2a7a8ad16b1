/-
  DERIVED. GIVEN WITH THE SEED: THE CARDS: each row of Qxb6606333aDoorRows.lean that lists a variable, with what it lists TIED to the program's text (the seventh form; the later family's looks); each row that meets fmt, with fmt's text TOLD by the authors' own Lean function (tested against real Go, not proved from fmt's source: count such statements apart). THE CARD IS WHAT COUNTS. Prove the row's statement (the work); the ties are given (Qxb6606333aDoorTie.lean); close each card by the builder's one call (the guide's Derived/Test/ToyasCard.lean, 'card_holds'). Laid BY PROGRAM, IN A SANDBOX (cutbox-door.mjs). By AI agents, Wed Nov 11 2026. No macro, syntax, notation, axiom, sorry.
-/
import Derived.Test.Qxb6606333aDoorRows
import GoSem.ClaimSeven
namespace Go.Proofs.Qxb6606333aDoor
namespace Rows

/-- THE TIED CARD OF 'zzlaws_internal_sdp_b1.FnWordsAudioAddsOnlyChannelCount'. -/
def fnWordsAudioAddsOnlyChannelCountCard : Claim7 := { stood := { row := fnWordsAudioAddsOnlyChannelCountRow, standIns := [], harness := (true, "31d63f36572c0ac0582320a2870ccd0cfbe2991531240ed49aafa0386edd4b14"), looks := false }, kinds := [], alts := [], laidByText := true, laidKinds := [.data, .listed, .data, .pinned, .pinned], laidTests := true, laidLooks := .later }
def FnWordsAudioAddsOnlyChannelCountCardSaid : Prop := Claim7.holds Tryd.pinned (.plain (OpenSpec.ofChange fnWordsAudioAddsOnlyChannelCountSpec)) fnWordsAudioAddsOnlyChannelCountCard

/-- THE TIED CARD OF 'zzlaws_internal_sdp_b1.FnWordsPreconditionCaseFree'. -/
def fnWordsPreconditionCaseFreeCard : Claim7 := { stood := { row := fnWordsPreconditionCaseFreeRow, standIns := [], harness := (true, "31d63f36572c0ac0582320a2870ccd0cfbe2991531240ed49aafa0386edd4b14"), looks := false }, kinds := [], alts := [], laidByText := true, laidKinds := [.data, .listed, .data, .pinned, .pinned], laidTests := true, laidLooks := .later }
def FnWordsPreconditionCaseFreeCardSaid : Prop := Claim7.holds Tryd.pinned (.plain (OpenSpec.ofChange fnWordsPreconditionCaseFreeSpec)) fnWordsPreconditionCaseFreeCard

/-- THE TIED CARD OF 'zzlaws_internal_sdp_b1.FnWordsMediaMattersOnlyForRtpmap'. -/
def fnWordsMediaMattersOnlyForRtpmapCard : Claim7 := { stood := { row := fnWordsMediaMattersOnlyForRtpmapRow, standIns := [], harness := (true, "31d63f36572c0ac0582320a2870ccd0cfbe2991531240ed49aafa0386edd4b14"), looks := false }, kinds := [], alts := [], laidByText := true, laidKinds := [.data, .listed, .data, .pinned, .pinned], laidTests := true, laidLooks := .later }
def FnWordsMediaMattersOnlyForRtpmapCardSaid : Prop := Claim7.holds Tryd.pinned (.plain (OpenSpec.ofChange fnWordsMediaMattersOnlyForRtpmapSpec)) fnWordsMediaMattersOnlyForRtpmapCard
end Rows
end Go.Proofs.Qxb6606333aDoor
