/-
  NARROWER THAN 'FOR EVERY INPUT', by the rows' own cells (each row's printed sentence says how): FnDeliveryProtocolsEmptyNameAnyPlace: laid · FnDeliveryProtocolsNameShiftsVerdict: laid · FnWithinNestsAsOnePath: laid · FnIsUpperPairsWithCaseBit: laid.
  DERIVED. THE GIVEN ROWS OF THIS SEAT. 4 by the template 'for every input the law returns true; each argument reads behind the call as it read before'; 0 by the template 'total and deterministic' (their statements: Qxb6613651aDoorTotals.lean).
  GIVEN WITH THE SEED: the statements are not yours to turn. If you find one false, say at which input.
  Laid BY PROGRAM, IN A SANDBOX (cutbox-rows.mjs): the forced cells as the released guide's own fill.sh prints them over the translation 399aa0405b775b0d… (all of the seat's roots in one cut). By AI agents, Wed Nov 11 2026. No macro, syntax, notation, axiom, sorry.
-/
import Derived.Test.Qxb6613651aDoorChecked
import GoSem.PinnedTables
import GoSem.Claim
import GoSem.ClaimJoined
import GoSem.ClaimMapViews
import Derived.JoinedTies
import Derived.KernelRfl
namespace Go.Proofs.Qxb6613651aDoor
/- THE CELL 'sum', in the pinned program and in every row, IS THE sha256 OF THE DUMP (.gsa) THAT Qxb6613651aDoorProg.lean LOADS. Nothing in Lean hashes anything: it is a label: what it is worth is what the hold of that sum in a sandbox is worth. -/
noncomputable def Tryd.pinned : Pinned := { name := "qxb6613651adoor", sum := "399aa0405b775b0d858b973d242b3ed5f0a3f72e5034855a4ab6a9140c9b6282", checked := Tryd.checked }
namespace Rows
def none {H : Type} : Left H := { results := [], args := [] }

/- WHAT THE LISTED PACKAGE-LEVEL VARIABLES READ AS WHEN THE CALL BEGINS. Each datum BY PROGRAM (the guide's laid-datum.mjs) off the statement by which the dump's own 'gosem.cut.vars' lays the variable. In a bare row this is a premise. The card (Qxb6613651aDoorCards.lean) ties it to the program's text. -/
def laid_math_bits_deBruijn32tab {H : Type} : DataW H := .agg [.lit (.int .u8 0), .lit (.int .u8 1), .lit (.int .u8 28), .lit (.int .u8 2), .lit (.int .u8 29), .lit (.int .u8 14), .lit (.int .u8 24), .lit (.int .u8 3), .lit (.int .u8 30), .lit (.int .u8 22), .lit (.int .u8 20), .lit (.int .u8 15), .lit (.int .u8 25), .lit (.int .u8 17), .lit (.int .u8 4), .lit (.int .u8 8), .lit (.int .u8 31), .lit (.int .u8 27), .lit (.int .u8 13), .lit (.int .u8 23), .lit (.int .u8 21), .lit (.int .u8 19), .lit (.int .u8 16), .lit (.int .u8 7), .lit (.int .u8 26), .lit (.int .u8 12), .lit (.int .u8 18), .lit (.int .u8 6), .lit (.int .u8 11), .lit (.int .u8 5), .lit (.int .u8 10), .lit (.int .u8 9)]
def laid_math_bits_deBruijn64tab {H : Type} : DataW H := .agg [.lit (.int .u8 0), .lit (.int .u8 1), .lit (.int .u8 56), .lit (.int .u8 2), .lit (.int .u8 57), .lit (.int .u8 49), .lit (.int .u8 28), .lit (.int .u8 3), .lit (.int .u8 61), .lit (.int .u8 58), .lit (.int .u8 42), .lit (.int .u8 50), .lit (.int .u8 38), .lit (.int .u8 29), .lit (.int .u8 17), .lit (.int .u8 4), .lit (.int .u8 62), .lit (.int .u8 47), .lit (.int .u8 59), .lit (.int .u8 36), .lit (.int .u8 45), .lit (.int .u8 43), .lit (.int .u8 51), .lit (.int .u8 22), .lit (.int .u8 53), .lit (.int .u8 39), .lit (.int .u8 33), .lit (.int .u8 30), .lit (.int .u8 24), .lit (.int .u8 18), .lit (.int .u8 12), .lit (.int .u8 5), .lit (.int .u8 63), .lit (.int .u8 55), .lit (.int .u8 48), .lit (.int .u8 27), .lit (.int .u8 60), .lit (.int .u8 41), .lit (.int .u8 37), .lit (.int .u8 16), .lit (.int .u8 46), .lit (.int .u8 35), .lit (.int .u8 44), .lit (.int .u8 21), .lit (.int .u8 52), .lit (.int .u8 32), .lit (.int .u8 23), .lit (.int .u8 11), .lit (.int .u8 54), .lit (.int .u8 26), .lit (.int .u8 40), .lit (.int .u8 15), .lit (.int .u8 34), .lit (.int .u8 20), .lit (.int .u8 31), .lit (.int .u8 10), .lit (.int .u8 25), .lit (.int .u8 14), .lit (.int .u8 19), .lit (.int .u8 9), .lit (.int .u8 13), .lit (.int .u8 8), .lit (.int .u8 7), .lit (.int .u8 6)]
def laid_internal_strconv_uint64pow10 {H : Type} : DataW H := .agg [.lit (.int .u64 1), .lit (.int .u64 10), .lit (.int .u64 100), .lit (.int .u64 1000), .lit (.int .u64 10000), .lit (.int .u64 100000), .lit (.int .u64 1000000), .lit (.int .u64 10000000), .lit (.int .u64 100000000), .lit (.int .u64 1000000000), .lit (.int .u64 10000000000), .lit (.int .u64 100000000000), .lit (.int .u64 1000000000000), .lit (.int .u64 10000000000000), .lit (.int .u64 100000000000000), .lit (.int .u64 1000000000000000), .lit (.int .u64 10000000000000000), .lit (.int .u64 100000000000000000), .lit (.int .u64 1000000000000000000), .lit (.int .u64 10000000000000000000)]
def laid_errors_errorType {H : Type} : DataW H := .iface "internal/reflectlite.rtype" (.agg [.ptr (.lit (.string [101, 114, 114, 111, 114]))])
def laid_unicode_utf8_acceptRanges {H : Type} : DataW H := .agg [.agg [.lit (.int .u8 128), .lit (.int .u8 191)], .agg [.lit (.int .u8 160), .lit (.int .u8 191)], .agg [.lit (.int .u8 128), .lit (.int .u8 159)], .agg [.lit (.int .u8 144), .lit (.int .u8 191)], .agg [.lit (.int .u8 128), .lit (.int .u8 143)], .agg [.lit (.int .u8 0), .lit (.int .u8 0)], .agg [.lit (.int .u8 0), .lit (.int .u8 0)], .agg [.lit (.int .u8 0), .lit (.int .u8 0)], .agg [.lit (.int .u8 0), .lit (.int .u8 0)], .agg [.lit (.int .u8 0), .lit (.int .u8 0)], .agg [.lit (.int .u8 0), .lit (.int .u8 0)], .agg [.lit (.int .u8 0), .lit (.int .u8 0)], .agg [.lit (.int .u8 0), .lit (.int .u8 0)], .agg [.lit (.int .u8 0), .lit (.int .u8 0)], .agg [.lit (.int .u8 0), .lit (.int .u8 0)], .agg [.lit (.int .u8 0), .lit (.int .u8 0)]]
/-- One of Go's own tables, pinned by name: the form's constant. -/
def laid_unicode_utf8_first : DataW Unit := Go.Pinned.utf8First

/-- 'zzlaws_cdni_b1.FnDeliveryProtocolsEmptyNameAnyPlace': WHATEVER THE INPUT: true; the input reads as it did. -/
def fnDeliveryProtocolsEmptyNameAnyPlaceSpec : ChangeSpec := { name := "fnDeliveryProtocolsEmptyNameAnyPlace", fn := fun _ => fun
  | [d1, d2] => { results := [.lit (.bool true)], args := [d1, d2] }
  | _ => none }
def fnDeliveryProtocolsEmptyNameAnyPlaceRow : OpenClaim := { program := "qxb6613651adoor", sum := "399aa0405b775b0d858b973d242b3ed5f0a3f72e5034855a4ab6a9140c9b6282", func := "example.com/crossway/crossway/zzlaws_cdni_b1.FnDeliveryProtocolsEmptyNameAnyPlace", spec := "fnDeliveryProtocolsEmptyNameAnyPlace", named := ["internal/strconv.uint64pow10", "math/bits.deBruijn32tab", "math/bits.deBruijn64tab"], apart := false, laid := [("math/bits.deBruijn32tab", laid_math_bits_deBruijn32tab), ("math/bits.deBruijn64tab", laid_math_bits_deBruijn64tab), ("internal/strconv.uint64pow10", laid_internal_strconv_uint64pow10)] }
def FnDeliveryProtocolsEmptyNameAnyPlaceSaid : Prop := fnDeliveryProtocolsEmptyNameAnyPlaceRow.holds Tryd.pinned (OpenSpec.ofChange fnDeliveryProtocolsEmptyNameAnyPlaceSpec)

/-- ITS FALSE NEIGHBOUR: 'it returns false'. Refute it at one input. -/
def fnDeliveryProtocolsEmptyNameAnyPlaceWrong : ChangeSpec := { name := "fnDeliveryProtocolsEmptyNameAnyPlace", fn := fun _ => fun
  | [d1, d2] => { results := [.lit (.bool false)], args := [d1, d2] }
  | _ => none }
def FnDeliveryProtocolsEmptyNameAnyPlaceWrongFalsely : Prop := fnDeliveryProtocolsEmptyNameAnyPlaceRow.holds Tryd.pinned (OpenSpec.ofChange fnDeliveryProtocolsEmptyNameAnyPlaceWrong)

/-- 'zzlaws_cdni_b1.FnDeliveryProtocolsNameShiftsVerdict': WHATEVER THE INPUT: true; the input reads as it did. -/
def fnDeliveryProtocolsNameShiftsVerdictSpec : ChangeSpec := { name := "fnDeliveryProtocolsNameShiftsVerdict", fn := fun _ => fun
  | [d1, d2, d3] => { results := [.lit (.bool true)], args := [d1, d2, d3] }
  | _ => none }
def fnDeliveryProtocolsNameShiftsVerdictRow : OpenClaim := { program := "qxb6613651adoor", sum := "399aa0405b775b0d858b973d242b3ed5f0a3f72e5034855a4ab6a9140c9b6282", func := "example.com/crossway/crossway/zzlaws_cdni_b1.FnDeliveryProtocolsNameShiftsVerdict", spec := "fnDeliveryProtocolsNameShiftsVerdict", named := ["internal/strconv.uint64pow10", "math/bits.deBruijn32tab", "math/bits.deBruijn64tab"], apart := false, laid := [("math/bits.deBruijn32tab", laid_math_bits_deBruijn32tab), ("math/bits.deBruijn64tab", laid_math_bits_deBruijn64tab), ("internal/strconv.uint64pow10", laid_internal_strconv_uint64pow10)] }
def FnDeliveryProtocolsNameShiftsVerdictSaid : Prop := fnDeliveryProtocolsNameShiftsVerdictRow.holds Tryd.pinned (OpenSpec.ofChange fnDeliveryProtocolsNameShiftsVerdictSpec)

/-- ITS FALSE NEIGHBOUR: 'it returns false'. Refute it at one input. -/
def fnDeliveryProtocolsNameShiftsVerdictWrong : ChangeSpec := { name := "fnDeliveryProtocolsNameShiftsVerdict", fn := fun _ => fun
  | [d1, d2, d3] => { results := [.lit (.bool false)], args := [d1, d2, d3] }
  | _ => none }
def FnDeliveryProtocolsNameShiftsVerdictWrongFalsely : Prop := fnDeliveryProtocolsNameShiftsVerdictRow.holds Tryd.pinned (OpenSpec.ofChange fnDeliveryProtocolsNameShiftsVerdictWrong)

/-- 'zzlaws_cdni_b1.FnWithinNestsAsOnePath': WHATEVER THE INPUT: true; the input reads as it did. -/
def fnWithinNestsAsOnePathSpec : ChangeSpec := { name := "fnWithinNestsAsOnePath", fn := fun _ => fun
  | [d1, d2, d3, d4] => { results := [.lit (.bool true)], args := [d1, d2, d3, d4] }
  | _ => none }
def fnWithinNestsAsOnePathRow : OpenClaim := { program := "qxb6613651adoor", sum := "399aa0405b775b0d858b973d242b3ed5f0a3f72e5034855a4ab6a9140c9b6282", func := "example.com/crossway/crossway/zzlaws_cdni_b1.FnWithinNestsAsOnePath", spec := "fnWithinNestsAsOnePath", inPlace := ["internal/reflectlite.ValueOf", "(internal/reflectlite.Value).Type", "(internal/reflectlite.Value).IsNil", "internal/reflectlite.TypeOf", "(internal/reflectlite.Value).Elem", "(internal/reflectlite.Value).Set"], unfollowed := true, recurses := true, named := ["errors.errorType"], apart := false, laid := [("errors.errorType", laid_errors_errorType)] }
def FnWithinNestsAsOnePathSaid : Prop := fnWithinNestsAsOnePathRow.holds Tryd.pinned (OpenSpec.ofChange fnWithinNestsAsOnePathSpec)

/-- ITS FALSE NEIGHBOUR: 'it returns false'. Refute it at one input. -/
def fnWithinNestsAsOnePathWrong : ChangeSpec := { name := "fnWithinNestsAsOnePath", fn := fun _ => fun
  | [d1, d2, d3, d4] => { results := [.lit (.bool false)], args := [d1, d2, d3, d4] }
  | _ => none }
def FnWithinNestsAsOnePathWrongFalsely : Prop := fnWithinNestsAsOnePathRow.holds Tryd.pinned (OpenSpec.ofChange fnWithinNestsAsOnePathWrong)

/-- 'zzlaws_cdni_b1.FnIsUpperPairsWithCaseBit': WHATEVER THE INPUT: true; the input reads as it did. -/
def fnIsUpperPairsWithCaseBitSpec : ChangeSpec := { name := "fnIsUpperPairsWithCaseBit", fn := fun _ => fun
  | [d] => { results := [.lit (.bool true)], args := [d] }
  | _ => none }
def fnIsUpperPairsWithCaseBitRow : OpenClaim := { program := "qxb6613651adoor", sum := "399aa0405b775b0d858b973d242b3ed5f0a3f72e5034855a4ab6a9140c9b6282", func := "example.com/crossway/crossway/zzlaws_cdni_b1.FnIsUpperPairsWithCaseBit", spec := "fnIsUpperPairsWithCaseBit", inPlace := ["internal/bytealg.CountString", "internal/bytealg.IndexByteString", "internal/bytealg.IndexString"], unfollowed := true, recurses := true, named := ["unicode/utf8.first", "unicode/utf8.acceptRanges", "internal/bytealg.MaxLen"], apart := false, laid := [("unicode/utf8.acceptRanges", laid_unicode_utf8_acceptRanges), ("unicode/utf8.first", laid_unicode_utf8_first)] }
def FnIsUpperPairsWithCaseBitSaid : Prop := fnIsUpperPairsWithCaseBitRow.holds Tryd.pinned (OpenSpec.ofChange fnIsUpperPairsWithCaseBitSpec)

/-- ITS FALSE NEIGHBOUR: 'it returns false'. Refute it at one input. -/
def fnIsUpperPairsWithCaseBitWrong : ChangeSpec := { name := "fnIsUpperPairsWithCaseBit", fn := fun _ => fun
  | [d] => { results := [.lit (.bool false)], args := [d] }
  | _ => none }
def FnIsUpperPairsWithCaseBitWrongFalsely : Prop := fnIsUpperPairsWithCaseBitRow.holds Tryd.pinned (OpenSpec.ofChange fnIsUpperPairsWithCaseBitWrong)

end Rows
end Go.Proofs.Qxb6613651aDoor
