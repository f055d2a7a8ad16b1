/-
  NARROWER THAN 'FOR EVERY INPUT', by the rows' own cells (each row's printed sentence says how): FnLogicalLinesLineEndingsFree: laid · FnLogicalLinesReadsBackPlainLines: laid · FnLogicalLinesJoinsContinuations: laid.
  DERIVED. THE GIVEN ROWS OF THIS SEAT. 3 by the template 'for every input the law returns true; each argument reads behind the call as it read before'; 0 by the template 'total and deterministic' (their statements: Qxb6606350aDoorTotals.lean).
  GIVEN WITH THE SEED: the statements are not yours to turn. If you find one false, say at which input.
  Laid BY PROGRAM, IN A SANDBOX (cutbox-rows.mjs): the forced cells as the released guide's own fill.sh prints them over the translation fc639bf83b975ab2… (all of the seat's roots in one cut). By AI agents, Wed Nov 11 2026. No macro, syntax, notation, axiom, sorry.
-/
import Derived.Test.Qxb6606350aDoorChecked
import GoSem.PinnedTables
import GoSem.Claim
import GoSem.ClaimJoined
import GoSem.ClaimMapViews
import Derived.JoinedTies
import Derived.KernelRfl
namespace Go.Proofs.Qxb6606350aDoor
/- THE CELL 'sum', in the pinned program and in every row, IS THE sha256 OF THE DUMP (.gsa) THAT Qxb6606350aDoorProg.lean LOADS. Nothing in Lean hashes anything: it is a label: what it is worth is what the hold of that sum in a sandbox is worth. -/
noncomputable def Tryd.pinned : Pinned := { name := "qxb6606350adoor", sum := "fc639bf83b975ab2ee2c0458f8d078fc61076b5a3bf9a1ecc4b2186847ef9fed", checked := Tryd.checked }
namespace Rows
def none {H : Type} : Left H := { results := [], args := [] }

/- WHAT THE LISTED PACKAGE-LEVEL VARIABLES READ AS WHEN THE CALL BEGINS. Each datum BY PROGRAM (the guide's laid-datum.mjs) off the statement by which the dump's own 'gosem.cut.vars' lays the variable. In a bare row this is a premise. The card (Qxb6606350aDoorCards.lean) ties it to the program's text. -/
def laid_unicode_utf8_acceptRanges {H : Type} : DataW H := .agg [.agg [.lit (.int .u8 128), .lit (.int .u8 191)], .agg [.lit (.int .u8 160), .lit (.int .u8 191)], .agg [.lit (.int .u8 128), .lit (.int .u8 159)], .agg [.lit (.int .u8 144), .lit (.int .u8 191)], .agg [.lit (.int .u8 128), .lit (.int .u8 143)], .agg [.lit (.int .u8 0), .lit (.int .u8 0)], .agg [.lit (.int .u8 0), .lit (.int .u8 0)], .agg [.lit (.int .u8 0), .lit (.int .u8 0)], .agg [.lit (.int .u8 0), .lit (.int .u8 0)], .agg [.lit (.int .u8 0), .lit (.int .u8 0)], .agg [.lit (.int .u8 0), .lit (.int .u8 0)], .agg [.lit (.int .u8 0), .lit (.int .u8 0)], .agg [.lit (.int .u8 0), .lit (.int .u8 0)], .agg [.lit (.int .u8 0), .lit (.int .u8 0)], .agg [.lit (.int .u8 0), .lit (.int .u8 0)], .agg [.lit (.int .u8 0), .lit (.int .u8 0)]]
/-- One of Go's own tables, pinned by name: the form's constant. -/
def laid_unicode_utf8_first : DataW Unit := Go.Pinned.utf8First

/-- 'zzlaws_internal_connectconfig_b1.FnLogicalLinesLineEndingsFree': WHATEVER THE INPUT: true; the input reads as it did. -/
def fnLogicalLinesLineEndingsFreeSpec : ChangeSpec := { name := "fnLogicalLinesLineEndingsFree", fn := fun _ => fun
  | [d] => { results := [.lit (.bool true)], args := [d] }
  | _ => none }
def fnLogicalLinesLineEndingsFreeRow : OpenClaim := { program := "qxb6606350adoor", sum := "fc639bf83b975ab2ee2c0458f8d078fc61076b5a3bf9a1ecc4b2186847ef9fed", func := "example.com/outrider/outrider/zzlaws_internal_connectconfig_b1.FnLogicalLinesLineEndingsFree", spec := "fnLogicalLinesLineEndingsFree", inPlace := ["internal/bytealg.IndexByteString", "internal/bytealg.IndexString", "internal/abi.NoEscape"], named := ["unicode/utf8.first", "unicode/utf8.acceptRanges", "internal/bytealg.MaxLen"], apart := false, laid := [("unicode/utf8.acceptRanges", laid_unicode_utf8_acceptRanges), ("unicode/utf8.first", laid_unicode_utf8_first)] }
def FnLogicalLinesLineEndingsFreeSaid : Prop := fnLogicalLinesLineEndingsFreeRow.holds Tryd.pinned (OpenSpec.ofChange fnLogicalLinesLineEndingsFreeSpec)

/-- ITS FALSE NEIGHBOUR: 'it returns false'. Refute it at one input. -/
def fnLogicalLinesLineEndingsFreeWrong : ChangeSpec := { name := "fnLogicalLinesLineEndingsFree", fn := fun _ => fun
  | [d] => { results := [.lit (.bool false)], args := [d] }
  | _ => none }
def FnLogicalLinesLineEndingsFreeWrongFalsely : Prop := fnLogicalLinesLineEndingsFreeRow.holds Tryd.pinned (OpenSpec.ofChange fnLogicalLinesLineEndingsFreeWrong)

/-- 'zzlaws_internal_connectconfig_b1.FnLogicalLinesReadsBackPlainLines': WHATEVER THE INPUT: true; the input reads as it did. -/
def fnLogicalLinesReadsBackPlainLinesSpec : ChangeSpec := { name := "fnLogicalLinesReadsBackPlainLines", fn := fun _ => fun
  | [d] => { results := [.lit (.bool true)], args := [d] }
  | _ => none }
def fnLogicalLinesReadsBackPlainLinesRow : OpenClaim := { program := "qxb6606350adoor", sum := "fc639bf83b975ab2ee2c0458f8d078fc61076b5a3bf9a1ecc4b2186847ef9fed", func := "example.com/outrider/outrider/zzlaws_internal_connectconfig_b1.FnLogicalLinesReadsBackPlainLines", spec := "fnLogicalLinesReadsBackPlainLines", inPlace := ["internal/bytealg.IndexByteString", "internal/bytealg.IndexString", "internal/abi.NoEscape"], named := ["unicode/utf8.first", "unicode/utf8.acceptRanges", "internal/bytealg.MaxLen"], apart := false, laid := [("unicode/utf8.acceptRanges", laid_unicode_utf8_acceptRanges), ("unicode/utf8.first", laid_unicode_utf8_first)] }
def FnLogicalLinesReadsBackPlainLinesSaid : Prop := fnLogicalLinesReadsBackPlainLinesRow.holds Tryd.pinned (OpenSpec.ofChange fnLogicalLinesReadsBackPlainLinesSpec)

/-- ITS FALSE NEIGHBOUR: 'it returns false'. Refute it at one input. -/
def fnLogicalLinesReadsBackPlainLinesWrong : ChangeSpec := { name := "fnLogicalLinesReadsBackPlainLines", fn := fun _ => fun
  | [d] => { results := [.lit (.bool false)], args := [d] }
  | _ => none }
def FnLogicalLinesReadsBackPlainLinesWrongFalsely : Prop := fnLogicalLinesReadsBackPlainLinesRow.holds Tryd.pinned (OpenSpec.ofChange fnLogicalLinesReadsBackPlainLinesWrong)

/-- 'zzlaws_internal_connectconfig_b1.FnLogicalLinesJoinsContinuations': WHATEVER THE INPUT: true; the input reads as it did. -/
def fnLogicalLinesJoinsContinuationsSpec : ChangeSpec := { name := "fnLogicalLinesJoinsContinuations", fn := fun _ => fun
  | [d] => { results := [.lit (.bool true)], args := [d] }
  | _ => none }
def fnLogicalLinesJoinsContinuationsRow : OpenClaim := { program := "qxb6606350adoor", sum := "fc639bf83b975ab2ee2c0458f8d078fc61076b5a3bf9a1ecc4b2186847ef9fed", func := "example.com/outrider/outrider/zzlaws_internal_connectconfig_b1.FnLogicalLinesJoinsContinuations", spec := "fnLogicalLinesJoinsContinuations", inPlace := ["internal/bytealg.IndexByteString", "internal/bytealg.IndexString", "internal/abi.NoEscape"], named := ["unicode/utf8.first", "unicode/utf8.acceptRanges", "internal/bytealg.MaxLen"], apart := false, laid := [("unicode/utf8.acceptRanges", laid_unicode_utf8_acceptRanges), ("unicode/utf8.first", laid_unicode_utf8_first)] }
def FnLogicalLinesJoinsContinuationsSaid : Prop := fnLogicalLinesJoinsContinuationsRow.holds Tryd.pinned (OpenSpec.ofChange fnLogicalLinesJoinsContinuationsSpec)

/-- ITS FALSE NEIGHBOUR: 'it returns false'. Refute it at one input. -/
def fnLogicalLinesJoinsContinuationsWrong : ChangeSpec := { name := "fnLogicalLinesJoinsContinuations", fn := fun _ => fun
  | [d] => { results := [.lit (.bool false)], args := [d] }
  | _ => none }
def FnLogicalLinesJoinsContinuationsWrongFalsely : Prop := fnLogicalLinesJoinsContinuationsRow.holds Tryd.pinned (OpenSpec.ofChange fnLogicalLinesJoinsContinuationsWrong)

end Rows
end Go.Proofs.Qxb6606350aDoor
