/-
  NARROWER THAN 'FOR EVERY INPUT', by the rows' own cells (each row's printed sentence says how): FnSemverPreKind: laid · FnSemverMarshal: laid · FnSemverSetPre: laid · FnSemverPartWords: laid · FnSemverCompare: laid · FnSemverPreLonger: laid · FnSemverLessAt: laid · FnSemverStrictBuilt: laid · FnSemverIncMinorLeast: laid · FnSemverAboveHolds: laid · FnSemverAboveCompares: laid · FnSemverCaretInterval: laid · FnSemverTermCaret: laid · FnSemverTermHoldsPre: laid · FnSemverTermsEither: laid · FnSemverTermsBetween: laid · FnSemverLeastOne: laid · FnSemverTermNext: laid.
  DERIVED. THE GIVEN ROWS OF THIS SEAT. 18 by the template 'for every input the law returns true; each argument reads behind the call as it read before'; 0 by the template 'total and deterministic' (their statements: YtgenbmhmcnaiiaaDoorTotals.lean).
  GIVEN WITH THE SEED: the statements are not yours to turn. If you find one false, say at which input.
  Laid BY PROGRAM, IN A SANDBOX (cutbox-rows.mjs): the forced cells as the released guide's own fill.sh prints them over the translation 0b4d9133e70db89a… (all of the seat's roots in one cut). By AI agents, Wed Nov 11 2026. No macro, syntax, notation, axiom, sorry.
-/
import Derived.Test.YtgenbmhmcnaiiaaDoorChecked
import GoSem.Claim
import GoSem.ClaimJoined
import GoSem.ClaimMapViews
import Derived.JoinedTies
import Derived.KernelRfl
namespace Go.Proofs.YtgenbmhmcnaiiaaDoor
/- THE CELL 'sum', in the pinned program and in every row, IS THE sha256 OF THE DUMP (.gsa) THAT YtgenbmhmcnaiiaaDoorProg.lean LOADS. Nothing in Lean hashes anything: it is a label: what it is worth is what the hold of that sum in a sandbox is worth. -/
noncomputable def Tryd.pinned : Pinned := { name := "ytgenbmhmcnaiiaadoor", sum := "0b4d9133e70db89a3e620125419d97e6dddd9a6626438319966798b899b9921d", checked := Tryd.checked }
namespace Rows
def none {H : Type} : Left H := { results := [], args := [] }

/- WHAT THE LISTED PACKAGE-LEVEL VARIABLES READ AS WHEN THE CALL BEGINS. Each datum BY PROGRAM (the guide's laid-datum.mjs) off the statement by which the dump's own 'gosem.cut.vars' lays the variable. In a bare row this is a premise. The card (YtgenbmhmcnaiiaaDoorCards.lean) ties it to the program's text. -/
def laid_pub_timebook_pub_semver_ErrConstraintTooLong {H : Type} : DataW H := .iface "*errors.errorString" (.ptr (.agg [.lit (.string [99, 111, 110, 115, 116, 114, 97, 105, 110, 116, 32, 115, 116, 114, 105, 110, 103, 32, 105, 115, 32, 116, 111, 111, 32, 108, 111, 110, 103, 32, 40, 109, 97, 120, 32, 53, 49, 50, 32, 98, 121, 116, 101, 115, 41])]))
def laid_pub_timebook_pub_semver_ErrTooManyConstraintGroups {H : Type} : DataW H := .iface "*errors.errorString" (.ptr (.agg [.lit (.string [116, 111, 111, 32, 109, 97, 110, 121, 32, 99, 111, 110, 115, 116, 114, 97, 105, 110, 116, 32, 103, 114, 111, 117, 112, 115, 32, 40, 109, 97, 120, 32, 51, 50, 41])]))
def laid_pub_timebook_pub_semver_ErrInvalidSemVer {H : Type} : DataW H := .iface "*errors.errorString" (.ptr (.agg [.lit (.string [105, 110, 118, 97, 108, 105, 100, 32, 115, 101, 109, 97, 110, 116, 105, 99, 32, 118, 101, 114, 115, 105, 111, 110])]))
def laid_pub_timebook_pub_semver_ErrEmptyString {H : Type} : DataW H := .iface "*errors.errorString" (.ptr (.agg [.lit (.string [118, 101, 114, 115, 105, 111, 110, 32, 115, 116, 114, 105, 110, 103, 32, 101, 109, 112, 116, 121])]))
def laid_pub_timebook_pub_semver_ErrInvalidCharacters {H : Type} : DataW H := .iface "*errors.errorString" (.ptr (.agg [.lit (.string [105, 110, 118, 97, 108, 105, 100, 32, 99, 104, 97, 114, 97, 99, 116, 101, 114, 115, 32, 105, 110, 32, 118, 101, 114, 115, 105, 111, 110])]))
def laid_pub_timebook_pub_semver_ErrSegmentStartsZero {H : Type} : DataW H := .iface "*errors.errorString" (.ptr (.agg [.lit (.string [118, 101, 114, 115, 105, 111, 110, 32, 115, 101, 103, 109, 101, 110, 116, 32, 115, 116, 97, 114, 116, 115, 32, 119, 105, 116, 104, 32, 48])]))
def laid_pub_timebook_pub_semver_ErrInvalidMetadata {H : Type} : DataW H := .iface "*errors.errorString" (.ptr (.agg [.lit (.string [105, 110, 118, 97, 108, 105, 100, 32, 109, 101, 116, 97, 100, 97, 116, 97, 32, 115, 116, 114, 105, 110, 103])]))
def laid_pub_timebook_pub_semver_ErrInvalidPrerelease {H : Type} : DataW H := .iface "*errors.errorString" (.ptr (.agg [.lit (.string [105, 110, 118, 97, 108, 105, 100, 32, 112, 114, 101, 114, 101, 108, 101, 97, 115, 101, 32, 115, 116, 114, 105, 110, 103])]))
def laid_pub_timebook_pub_semver_ErrVersionTooLong {H : Type} : DataW H := .iface "*errors.errorString" (.ptr (.agg [.lit (.string [118, 101, 114, 115, 105, 111, 110, 32, 115, 116, 114, 105, 110, 103, 32, 105, 115, 32, 116, 111, 111, 32, 108, 111, 110, 103, 32, 40, 109, 97, 120, 32, 50, 53, 54, 32, 98, 121, 116, 101, 115, 41])]))
def laid_math_bits_deBruijn32tab {H : Type} : DataW H := .agg [.lit (.int .u8 0), .lit (.int .u8 1), .lit (.int .u8 28), .lit (.int .u8 2), .lit (.int .u8 29), .lit (.int .u8 14), .lit (.int .u8 24), .lit (.int .u8 3), .lit (.int .u8 30), .lit (.int .u8 22), .lit (.int .u8 20), .lit (.int .u8 15), .lit (.int .u8 25), .lit (.int .u8 17), .lit (.int .u8 4), .lit (.int .u8 8), .lit (.int .u8 31), .lit (.int .u8 27), .lit (.int .u8 13), .lit (.int .u8 23), .lit (.int .u8 21), .lit (.int .u8 19), .lit (.int .u8 16), .lit (.int .u8 7), .lit (.int .u8 26), .lit (.int .u8 12), .lit (.int .u8 18), .lit (.int .u8 6), .lit (.int .u8 11), .lit (.int .u8 5), .lit (.int .u8 10), .lit (.int .u8 9)]
def laid_math_bits_deBruijn64tab {H : Type} : DataW H := .agg [.lit (.int .u8 0), .lit (.int .u8 1), .lit (.int .u8 56), .lit (.int .u8 2), .lit (.int .u8 57), .lit (.int .u8 49), .lit (.int .u8 28), .lit (.int .u8 3), .lit (.int .u8 61), .lit (.int .u8 58), .lit (.int .u8 42), .lit (.int .u8 50), .lit (.int .u8 38), .lit (.int .u8 29), .lit (.int .u8 17), .lit (.int .u8 4), .lit (.int .u8 62), .lit (.int .u8 47), .lit (.int .u8 59), .lit (.int .u8 36), .lit (.int .u8 45), .lit (.int .u8 43), .lit (.int .u8 51), .lit (.int .u8 22), .lit (.int .u8 53), .lit (.int .u8 39), .lit (.int .u8 33), .lit (.int .u8 30), .lit (.int .u8 24), .lit (.int .u8 18), .lit (.int .u8 12), .lit (.int .u8 5), .lit (.int .u8 63), .lit (.int .u8 55), .lit (.int .u8 48), .lit (.int .u8 27), .lit (.int .u8 60), .lit (.int .u8 41), .lit (.int .u8 37), .lit (.int .u8 16), .lit (.int .u8 46), .lit (.int .u8 35), .lit (.int .u8 44), .lit (.int .u8 21), .lit (.int .u8 52), .lit (.int .u8 32), .lit (.int .u8 23), .lit (.int .u8 11), .lit (.int .u8 54), .lit (.int .u8 26), .lit (.int .u8 40), .lit (.int .u8 15), .lit (.int .u8 34), .lit (.int .u8 20), .lit (.int .u8 31), .lit (.int .u8 10), .lit (.int .u8 25), .lit (.int .u8 14), .lit (.int .u8 19), .lit (.int .u8 9), .lit (.int .u8 13), .lit (.int .u8 8), .lit (.int .u8 7), .lit (.int .u8 6)]
def laid_internal_strconv_uint64pow10 {H : Type} : DataW H := .agg [.lit (.int .u64 1), .lit (.int .u64 10), .lit (.int .u64 100), .lit (.int .u64 1000), .lit (.int .u64 10000), .lit (.int .u64 100000), .lit (.int .u64 1000000), .lit (.int .u64 10000000), .lit (.int .u64 100000000), .lit (.int .u64 1000000000), .lit (.int .u64 10000000000), .lit (.int .u64 100000000000), .lit (.int .u64 1000000000000), .lit (.int .u64 10000000000000), .lit (.int .u64 100000000000000), .lit (.int .u64 1000000000000000), .lit (.int .u64 10000000000000000), .lit (.int .u64 100000000000000000), .lit (.int .u64 1000000000000000000), .lit (.int .u64 10000000000000000000)]
def laid_strconv_ErrRange {H : Type} : DataW H := .iface "*errors.errorString" (.ptr (.agg [.lit (.string [118, 97, 108, 117, 101, 32, 111, 117, 116, 32, 111, 102, 32, 114, 97, 110, 103, 101])]))
def laid_strconv_ErrSyntax {H : Type} : DataW H := .iface "*errors.errorString" (.ptr (.agg [.lit (.string [105, 110, 118, 97, 108, 105, 100, 32, 115, 121, 110, 116, 97, 120])]))

/-- 'laws.FnSemverPreKind': WHATEVER THE INPUT: true; the input reads as it did. -/
def fnSemverPreKindSpec : ChangeSpec := { name := "fnSemverPreKind", fn := fun _ => fun
  | [d] => { results := [.lit (.bool true)], args := [d] }
  | _ => none }
def fnSemverPreKindRow : OpenClaim := { program := "ytgenbmhmcnaiiaadoor", sum := "0b4d9133e70db89a3e620125419d97e6dddd9a6626438319966798b899b9921d", func := "pub-timebook/laws.FnSemverPreKind", spec := "fnSemverPreKind", inPlace := ["internal/reflectlite.TypeOf"], unfollowed := true, recurses := true, named := ["pub-timebook/pub/semver.ErrInvalidPrerelease", "pub-timebook/pub/semver.ErrSegmentStartsZero", "pub-timebook/pub/semver.ErrEmptyString", "pub-timebook/pub/semver.ErrVersionTooLong", "pub-timebook/pub/semver.ErrInvalidCharacters", "pub-timebook/pub/semver.ErrInvalidMetadata", "pub-timebook/pub/semver.ErrInvalidSemVer", "pub-timebook/pub/semver.ErrConstraintTooLong", "pub-timebook/pub/semver.ErrTooManyConstraintGroups"], apart := false, laid := [("pub-timebook/pub/semver.ErrConstraintTooLong", laid_pub_timebook_pub_semver_ErrConstraintTooLong), ("pub-timebook/pub/semver.ErrTooManyConstraintGroups", laid_pub_timebook_pub_semver_ErrTooManyConstraintGroups), ("pub-timebook/pub/semver.ErrInvalidSemVer", laid_pub_timebook_pub_semver_ErrInvalidSemVer), ("pub-timebook/pub/semver.ErrEmptyString", laid_pub_timebook_pub_semver_ErrEmptyString), ("pub-timebook/pub/semver.ErrInvalidCharacters", laid_pub_timebook_pub_semver_ErrInvalidCharacters), ("pub-timebook/pub/semver.ErrSegmentStartsZero", laid_pub_timebook_pub_semver_ErrSegmentStartsZero), ("pub-timebook/pub/semver.ErrInvalidMetadata", laid_pub_timebook_pub_semver_ErrInvalidMetadata), ("pub-timebook/pub/semver.ErrInvalidPrerelease", laid_pub_timebook_pub_semver_ErrInvalidPrerelease), ("pub-timebook/pub/semver.ErrVersionTooLong", laid_pub_timebook_pub_semver_ErrVersionTooLong)] }
def FnSemverPreKindSaid : Prop := fnSemverPreKindRow.holds Tryd.pinned (OpenSpec.ofChange fnSemverPreKindSpec)

/-- ITS FALSE NEIGHBOUR: 'it returns false'. Refute it at one input. -/
def fnSemverPreKindWrong : ChangeSpec := { name := "fnSemverPreKind", fn := fun _ => fun
  | [d] => { results := [.lit (.bool false)], args := [d] }
  | _ => none }
def FnSemverPreKindWrongFalsely : Prop := fnSemverPreKindRow.holds Tryd.pinned (OpenSpec.ofChange fnSemverPreKindWrong)

/-- 'laws.FnSemverMarshal': WHATEVER THE INPUT: true; the input reads as it did. -/
def fnSemverMarshalSpec : ChangeSpec := { name := "fnSemverMarshal", fn := fun _ => fun
  | [d] => { results := [.lit (.bool true)], args := [d] }
  | _ => none }
def fnSemverMarshalRow : OpenClaim := { program := "ytgenbmhmcnaiiaadoor", sum := "0b4d9133e70db89a3e620125419d97e6dddd9a6626438319966798b899b9921d", func := "pub-timebook/laws.FnSemverMarshal", spec := "fnSemverMarshal", recurses := true, named := ["internal/strconv.uint64pow10", "math/bits.deBruijn32tab", "math/bits.deBruijn64tab"], apart := false, laid := [("math/bits.deBruijn32tab", laid_math_bits_deBruijn32tab), ("math/bits.deBruijn64tab", laid_math_bits_deBruijn64tab), ("internal/strconv.uint64pow10", laid_internal_strconv_uint64pow10)] }
def FnSemverMarshalSaid : Prop := fnSemverMarshalRow.holds Tryd.pinned (OpenSpec.ofChange fnSemverMarshalSpec)

/-- ITS FALSE NEIGHBOUR: 'it returns false'. Refute it at one input. -/
def fnSemverMarshalWrong : ChangeSpec := { name := "fnSemverMarshal", fn := fun _ => fun
  | [d] => { results := [.lit (.bool false)], args := [d] }
  | _ => none }
def FnSemverMarshalWrongFalsely : Prop := fnSemverMarshalRow.holds Tryd.pinned (OpenSpec.ofChange fnSemverMarshalWrong)

/-- 'laws.FnSemverSetPre': WHATEVER THE INPUT: true; the input reads as it did. -/
def fnSemverSetPreSpec : ChangeSpec := { name := "fnSemverSetPre", fn := fun _ => fun
  | [d1, d2] => { results := [.lit (.bool true)], args := [d1, d2] }
  | _ => none }
def fnSemverSetPreRow : OpenClaim := { program := "ytgenbmhmcnaiiaadoor", sum := "0b4d9133e70db89a3e620125419d97e6dddd9a6626438319966798b899b9921d", func := "pub-timebook/laws.FnSemverSetPre", spec := "fnSemverSetPre", unfollowed := true, recurses := true, named := ["pub-timebook/pub/semver.ErrInvalidPrerelease", "pub-timebook/pub/semver.ErrSegmentStartsZero", "internal/strconv.uint64pow10", "math/bits.deBruijn32tab", "math/bits.deBruijn64tab"], apart := false, laid := [("math/bits.deBruijn32tab", laid_math_bits_deBruijn32tab), ("math/bits.deBruijn64tab", laid_math_bits_deBruijn64tab), ("internal/strconv.uint64pow10", laid_internal_strconv_uint64pow10), ("pub-timebook/pub/semver.ErrSegmentStartsZero", laid_pub_timebook_pub_semver_ErrSegmentStartsZero), ("pub-timebook/pub/semver.ErrInvalidPrerelease", laid_pub_timebook_pub_semver_ErrInvalidPrerelease)] }
def FnSemverSetPreSaid : Prop := fnSemverSetPreRow.holds Tryd.pinned (OpenSpec.ofChange fnSemverSetPreSpec)

/-- ITS FALSE NEIGHBOUR: 'it returns false'. Refute it at one input. -/
def fnSemverSetPreWrong : ChangeSpec := { name := "fnSemverSetPre", fn := fun _ => fun
  | [d1, d2] => { results := [.lit (.bool false)], args := [d1, d2] }
  | _ => none }
def FnSemverSetPreWrongFalsely : Prop := fnSemverSetPreRow.holds Tryd.pinned (OpenSpec.ofChange fnSemverSetPreWrong)

/-- 'laws.FnSemverPartWords': WHATEVER THE INPUT: true; the input reads as it did. -/
def fnSemverPartWordsSpec : ChangeSpec := { name := "fnSemverPartWords", fn := fun _ => fun
  | [d1, d2, d3] => { results := [.lit (.bool true)], args := [d1, d2, d3] }
  | _ => none }
def fnSemverPartWordsRow : OpenClaim := { program := "ytgenbmhmcnaiiaadoor", sum := "0b4d9133e70db89a3e620125419d97e6dddd9a6626438319966798b899b9921d", func := "pub-timebook/laws.FnSemverPartWords", spec := "fnSemverPartWords", named := ["strconv.ErrSyntax", "strconv.ErrRange", "internal/strconv.uint64pow10", "math/bits.deBruijn32tab", "math/bits.deBruijn64tab"], apart := false, laid := [("math/bits.deBruijn32tab", laid_math_bits_deBruijn32tab), ("math/bits.deBruijn64tab", laid_math_bits_deBruijn64tab), ("internal/strconv.uint64pow10", laid_internal_strconv_uint64pow10), ("strconv.ErrRange", laid_strconv_ErrRange), ("strconv.ErrSyntax", laid_strconv_ErrSyntax)] }
def FnSemverPartWordsSaid : Prop := fnSemverPartWordsRow.holds Tryd.pinned (OpenSpec.ofChange fnSemverPartWordsSpec)

/-- ITS FALSE NEIGHBOUR: 'it returns false'. Refute it at one input. -/
def fnSemverPartWordsWrong : ChangeSpec := { name := "fnSemverPartWords", fn := fun _ => fun
  | [d1, d2, d3] => { results := [.lit (.bool false)], args := [d1, d2, d3] }
  | _ => none }
def FnSemverPartWordsWrongFalsely : Prop := fnSemverPartWordsRow.holds Tryd.pinned (OpenSpec.ofChange fnSemverPartWordsWrong)

/-- 'laws.FnSemverCompare': WHATEVER THE INPUT: true; the input reads as it did. -/
def fnSemverCompareSpec : ChangeSpec := { name := "fnSemverCompare", fn := fun _ => fun
  | [d1, d2] => { results := [.lit (.bool true)], args := [d1, d2] }
  | _ => none }
def fnSemverCompareRow : OpenClaim := { program := "ytgenbmhmcnaiiaadoor", sum := "0b4d9133e70db89a3e620125419d97e6dddd9a6626438319966798b899b9921d", func := "pub-timebook/laws.FnSemverCompare", spec := "fnSemverCompare", named := ["strconv.ErrSyntax", "strconv.ErrRange", "internal/strconv.uint64pow10", "math/bits.deBruijn32tab", "math/bits.deBruijn64tab"], apart := false, laid := [("math/bits.deBruijn32tab", laid_math_bits_deBruijn32tab), ("math/bits.deBruijn64tab", laid_math_bits_deBruijn64tab), ("internal/strconv.uint64pow10", laid_internal_strconv_uint64pow10), ("strconv.ErrRange", laid_strconv_ErrRange), ("strconv.ErrSyntax", laid_strconv_ErrSyntax)] }
def FnSemverCompareSaid : Prop := fnSemverCompareRow.holds Tryd.pinned (OpenSpec.ofChange fnSemverCompareSpec)

/-- ITS FALSE NEIGHBOUR: 'it returns false'. Refute it at one input. -/
def fnSemverCompareWrong : ChangeSpec := { name := "fnSemverCompare", fn := fun _ => fun
  | [d1, d2] => { results := [.lit (.bool false)], args := [d1, d2] }
  | _ => none }
def FnSemverCompareWrongFalsely : Prop := fnSemverCompareRow.holds Tryd.pinned (OpenSpec.ofChange fnSemverCompareWrong)

/-- 'laws.FnSemverPreLonger': WHATEVER THE INPUT: true; the input reads as it did. -/
def fnSemverPreLongerSpec : ChangeSpec := { name := "fnSemverPreLonger", fn := fun _ => fun
  | [d1, d2] => { results := [.lit (.bool true)], args := [d1, d2] }
  | _ => none }
def fnSemverPreLongerRow : OpenClaim := { program := "ytgenbmhmcnaiiaadoor", sum := "0b4d9133e70db89a3e620125419d97e6dddd9a6626438319966798b899b9921d", func := "pub-timebook/laws.FnSemverPreLonger", spec := "fnSemverPreLonger", named := ["strconv.ErrSyntax", "strconv.ErrRange", "internal/strconv.uint64pow10", "math/bits.deBruijn32tab", "math/bits.deBruijn64tab"], apart := false, laid := [("math/bits.deBruijn32tab", laid_math_bits_deBruijn32tab), ("math/bits.deBruijn64tab", laid_math_bits_deBruijn64tab), ("internal/strconv.uint64pow10", laid_internal_strconv_uint64pow10), ("strconv.ErrRange", laid_strconv_ErrRange), ("strconv.ErrSyntax", laid_strconv_ErrSyntax)] }
def FnSemverPreLongerSaid : Prop := fnSemverPreLongerRow.holds Tryd.pinned (OpenSpec.ofChange fnSemverPreLongerSpec)

/-- ITS FALSE NEIGHBOUR: 'it returns false'. Refute it at one input. -/
def fnSemverPreLongerWrong : ChangeSpec := { name := "fnSemverPreLonger", fn := fun _ => fun
  | [d1, d2] => { results := [.lit (.bool false)], args := [d1, d2] }
  | _ => none }
def FnSemverPreLongerWrongFalsely : Prop := fnSemverPreLongerRow.holds Tryd.pinned (OpenSpec.ofChange fnSemverPreLongerWrong)

/-- 'laws.FnSemverLessAt': WHATEVER THE INPUT: true; the input reads as it did. -/
def fnSemverLessAtSpec : ChangeSpec := { name := "fnSemverLessAt", fn := fun _ => fun
  | [d1, d2, d3] => { results := [.lit (.bool true)], args := [d1, d2, d3] }
  | _ => none }
def fnSemverLessAtRow : OpenClaim := { program := "ytgenbmhmcnaiiaadoor", sum := "0b4d9133e70db89a3e620125419d97e6dddd9a6626438319966798b899b9921d", func := "pub-timebook/laws.FnSemverLessAt", spec := "fnSemverLessAt", named := ["strconv.ErrSyntax", "strconv.ErrRange", "internal/strconv.uint64pow10", "math/bits.deBruijn32tab", "math/bits.deBruijn64tab"], apart := false, laid := [("math/bits.deBruijn32tab", laid_math_bits_deBruijn32tab), ("math/bits.deBruijn64tab", laid_math_bits_deBruijn64tab), ("internal/strconv.uint64pow10", laid_internal_strconv_uint64pow10), ("strconv.ErrRange", laid_strconv_ErrRange), ("strconv.ErrSyntax", laid_strconv_ErrSyntax)] }
def FnSemverLessAtSaid : Prop := fnSemverLessAtRow.holds Tryd.pinned (OpenSpec.ofChange fnSemverLessAtSpec)

/-- ITS FALSE NEIGHBOUR: 'it returns false'. Refute it at one input. -/
def fnSemverLessAtWrong : ChangeSpec := { name := "fnSemverLessAt", fn := fun _ => fun
  | [d1, d2, d3] => { results := [.lit (.bool false)], args := [d1, d2, d3] }
  | _ => none }
def FnSemverLessAtWrongFalsely : Prop := fnSemverLessAtRow.holds Tryd.pinned (OpenSpec.ofChange fnSemverLessAtWrong)

/-- 'laws.FnSemverStrictBuilt': WHATEVER THE INPUT: true; the input reads as it did. -/
def fnSemverStrictBuiltSpec : ChangeSpec := { name := "fnSemverStrictBuilt", fn := fun _ => fun
  | [d1, d2, d3] => { results := [.lit (.bool true)], args := [d1, d2, d3] }
  | _ => none }
def fnSemverStrictBuiltRow : OpenClaim := { program := "ytgenbmhmcnaiiaadoor", sum := "0b4d9133e70db89a3e620125419d97e6dddd9a6626438319966798b899b9921d", func := "pub-timebook/laws.FnSemverStrictBuilt", spec := "fnSemverStrictBuilt", unfollowed := true, recurses := true, named := ["pub-timebook/pub/semver.ErrEmptyString", "pub-timebook/pub/semver.ErrVersionTooLong", "pub-timebook/pub/semver.ErrInvalidSemVer", "pub-timebook/pub/semver.ErrInvalidCharacters", "pub-timebook/pub/semver.ErrSegmentStartsZero", "pub-timebook/pub/semver.ErrInvalidMetadata", "pub-timebook/pub/semver.ErrInvalidPrerelease", "strconv.ErrSyntax", "strconv.ErrRange", "internal/strconv.uint64pow10", "math/bits.deBruijn32tab", "math/bits.deBruijn64tab"], apart := false, laid := [("math/bits.deBruijn32tab", laid_math_bits_deBruijn32tab), ("math/bits.deBruijn64tab", laid_math_bits_deBruijn64tab), ("internal/strconv.uint64pow10", laid_internal_strconv_uint64pow10), ("strconv.ErrRange", laid_strconv_ErrRange), ("strconv.ErrSyntax", laid_strconv_ErrSyntax), ("pub-timebook/pub/semver.ErrInvalidSemVer", laid_pub_timebook_pub_semver_ErrInvalidSemVer), ("pub-timebook/pub/semver.ErrEmptyString", laid_pub_timebook_pub_semver_ErrEmptyString), ("pub-timebook/pub/semver.ErrInvalidCharacters", laid_pub_timebook_pub_semver_ErrInvalidCharacters), ("pub-timebook/pub/semver.ErrSegmentStartsZero", laid_pub_timebook_pub_semver_ErrSegmentStartsZero), ("pub-timebook/pub/semver.ErrInvalidMetadata", laid_pub_timebook_pub_semver_ErrInvalidMetadata), ("pub-timebook/pub/semver.ErrInvalidPrerelease", laid_pub_timebook_pub_semver_ErrInvalidPrerelease), ("pub-timebook/pub/semver.ErrVersionTooLong", laid_pub_timebook_pub_semver_ErrVersionTooLong)] }
def FnSemverStrictBuiltSaid : Prop := fnSemverStrictBuiltRow.holds Tryd.pinned (OpenSpec.ofChange fnSemverStrictBuiltSpec)

/-- ITS FALSE NEIGHBOUR: 'it returns false'. Refute it at one input. -/
def fnSemverStrictBuiltWrong : ChangeSpec := { name := "fnSemverStrictBuilt", fn := fun _ => fun
  | [d1, d2, d3] => { results := [.lit (.bool false)], args := [d1, d2, d3] }
  | _ => none }
def FnSemverStrictBuiltWrongFalsely : Prop := fnSemverStrictBuiltRow.holds Tryd.pinned (OpenSpec.ofChange fnSemverStrictBuiltWrong)

/-- 'laws.FnSemverIncMinorLeast': WHATEVER THE INPUT: true; the input reads as it did. -/
def fnSemverIncMinorLeastSpec : ChangeSpec := { name := "fnSemverIncMinorLeast", fn := fun _ => fun
  | [d1, d2] => { results := [.lit (.bool true)], args := [d1, d2] }
  | _ => none }
def fnSemverIncMinorLeastRow : OpenClaim := { program := "ytgenbmhmcnaiiaadoor", sum := "0b4d9133e70db89a3e620125419d97e6dddd9a6626438319966798b899b9921d", func := "pub-timebook/laws.FnSemverIncMinorLeast", spec := "fnSemverIncMinorLeast", named := ["internal/strconv.uint64pow10", "math/bits.deBruijn32tab", "math/bits.deBruijn64tab", "strconv.ErrSyntax", "strconv.ErrRange"], apart := false, laid := [("math/bits.deBruijn32tab", laid_math_bits_deBruijn32tab), ("math/bits.deBruijn64tab", laid_math_bits_deBruijn64tab), ("internal/strconv.uint64pow10", laid_internal_strconv_uint64pow10), ("strconv.ErrRange", laid_strconv_ErrRange), ("strconv.ErrSyntax", laid_strconv_ErrSyntax)] }
def FnSemverIncMinorLeastSaid : Prop := fnSemverIncMinorLeastRow.holds Tryd.pinned (OpenSpec.ofChange fnSemverIncMinorLeastSpec)

/-- ITS FALSE NEIGHBOUR: 'it returns false'. Refute it at one input. -/
def fnSemverIncMinorLeastWrong : ChangeSpec := { name := "fnSemverIncMinorLeast", fn := fun _ => fun
  | [d1, d2] => { results := [.lit (.bool false)], args := [d1, d2] }
  | _ => none }
def FnSemverIncMinorLeastWrongFalsely : Prop := fnSemverIncMinorLeastRow.holds Tryd.pinned (OpenSpec.ofChange fnSemverIncMinorLeastWrong)

/-- 'laws.FnSemverAboveHolds': WHATEVER THE INPUT: true; the input reads as it did. -/
def fnSemverAboveHoldsSpec : ChangeSpec := { name := "fnSemverAboveHolds", fn := fun _ => fun
  | [d1, d2, d3] => { results := [.lit (.bool true)], args := [d1, d2, d3] }
  | _ => none }
def fnSemverAboveHoldsRow : OpenClaim := { program := "ytgenbmhmcnaiiaadoor", sum := "0b4d9133e70db89a3e620125419d97e6dddd9a6626438319966798b899b9921d", func := "pub-timebook/laws.FnSemverAboveHolds", spec := "fnSemverAboveHolds", named := ["strconv.ErrSyntax", "strconv.ErrRange", "internal/strconv.uint64pow10", "math/bits.deBruijn32tab", "math/bits.deBruijn64tab"], apart := false, laid := [("math/bits.deBruijn32tab", laid_math_bits_deBruijn32tab), ("math/bits.deBruijn64tab", laid_math_bits_deBruijn64tab), ("internal/strconv.uint64pow10", laid_internal_strconv_uint64pow10), ("strconv.ErrRange", laid_strconv_ErrRange), ("strconv.ErrSyntax", laid_strconv_ErrSyntax)] }
def FnSemverAboveHoldsSaid : Prop := fnSemverAboveHoldsRow.holds Tryd.pinned (OpenSpec.ofChange fnSemverAboveHoldsSpec)

/-- ITS FALSE NEIGHBOUR: 'it returns false'. Refute it at one input. -/
def fnSemverAboveHoldsWrong : ChangeSpec := { name := "fnSemverAboveHolds", fn := fun _ => fun
  | [d1, d2, d3] => { results := [.lit (.bool false)], args := [d1, d2, d3] }
  | _ => none }
def FnSemverAboveHoldsWrongFalsely : Prop := fnSemverAboveHoldsRow.holds Tryd.pinned (OpenSpec.ofChange fnSemverAboveHoldsWrong)

/-- 'laws.FnSemverAboveCompares': WHATEVER THE INPUT: true; the input reads as it did. -/
def fnSemverAboveComparesSpec : ChangeSpec := { name := "fnSemverAboveCompares", fn := fun _ => fun
  | [d1, d2] => { results := [.lit (.bool true)], args := [d1, d2] }
  | _ => none }
def fnSemverAboveComparesRow : OpenClaim := { program := "ytgenbmhmcnaiiaadoor", sum := "0b4d9133e70db89a3e620125419d97e6dddd9a6626438319966798b899b9921d", func := "pub-timebook/laws.FnSemverAboveCompares", spec := "fnSemverAboveCompares", named := ["strconv.ErrSyntax", "strconv.ErrRange", "internal/strconv.uint64pow10", "math/bits.deBruijn32tab", "math/bits.deBruijn64tab"], apart := false, laid := [("math/bits.deBruijn32tab", laid_math_bits_deBruijn32tab), ("math/bits.deBruijn64tab", laid_math_bits_deBruijn64tab), ("internal/strconv.uint64pow10", laid_internal_strconv_uint64pow10), ("strconv.ErrRange", laid_strconv_ErrRange), ("strconv.ErrSyntax", laid_strconv_ErrSyntax)] }
def FnSemverAboveComparesSaid : Prop := fnSemverAboveComparesRow.holds Tryd.pinned (OpenSpec.ofChange fnSemverAboveComparesSpec)

/-- ITS FALSE NEIGHBOUR: 'it returns false'. Refute it at one input. -/
def fnSemverAboveComparesWrong : ChangeSpec := { name := "fnSemverAboveCompares", fn := fun _ => fun
  | [d1, d2] => { results := [.lit (.bool false)], args := [d1, d2] }
  | _ => none }
def FnSemverAboveComparesWrongFalsely : Prop := fnSemverAboveComparesRow.holds Tryd.pinned (OpenSpec.ofChange fnSemverAboveComparesWrong)

/-- 'laws.FnSemverCaretInterval': WHATEVER THE INPUT: true; the input reads as it did. -/
def fnSemverCaretIntervalSpec : ChangeSpec := { name := "fnSemverCaretInterval", fn := fun _ => fun
  | [d1, d2, d3] => { results := [.lit (.bool true)], args := [d1, d2, d3] }
  | _ => none }
def fnSemverCaretIntervalRow : OpenClaim := { program := "ytgenbmhmcnaiiaadoor", sum := "0b4d9133e70db89a3e620125419d97e6dddd9a6626438319966798b899b9921d", func := "pub-timebook/laws.FnSemverCaretInterval", spec := "fnSemverCaretInterval", named := ["strconv.ErrSyntax", "strconv.ErrRange", "internal/strconv.uint64pow10", "math/bits.deBruijn32tab", "math/bits.deBruijn64tab"], apart := false, laid := [("math/bits.deBruijn32tab", laid_math_bits_deBruijn32tab), ("math/bits.deBruijn64tab", laid_math_bits_deBruijn64tab), ("internal/strconv.uint64pow10", laid_internal_strconv_uint64pow10), ("strconv.ErrRange", laid_strconv_ErrRange), ("strconv.ErrSyntax", laid_strconv_ErrSyntax)] }
def FnSemverCaretIntervalSaid : Prop := fnSemverCaretIntervalRow.holds Tryd.pinned (OpenSpec.ofChange fnSemverCaretIntervalSpec)

/-- ITS FALSE NEIGHBOUR: 'it returns false'. Refute it at one input. -/
def fnSemverCaretIntervalWrong : ChangeSpec := { name := "fnSemverCaretInterval", fn := fun _ => fun
  | [d1, d2, d3] => { results := [.lit (.bool false)], args := [d1, d2, d3] }
  | _ => none }
def FnSemverCaretIntervalWrongFalsely : Prop := fnSemverCaretIntervalRow.holds Tryd.pinned (OpenSpec.ofChange fnSemverCaretIntervalWrong)

/-- 'laws.FnSemverTermCaret': WHATEVER THE INPUT: true; the input reads as it did. -/
def fnSemverTermCaretSpec : ChangeSpec := { name := "fnSemverTermCaret", fn := fun _ => fun
  | [d1, d2, d3] => { results := [.lit (.bool true)], args := [d1, d2, d3] }
  | _ => none }
def fnSemverTermCaretRow : OpenClaim := { program := "ytgenbmhmcnaiiaadoor", sum := "0b4d9133e70db89a3e620125419d97e6dddd9a6626438319966798b899b9921d", func := "pub-timebook/laws.FnSemverTermCaret", spec := "fnSemverTermCaret", named := ["strconv.ErrSyntax", "strconv.ErrRange", "internal/strconv.uint64pow10", "math/bits.deBruijn32tab", "math/bits.deBruijn64tab"], apart := false, laid := [("math/bits.deBruijn32tab", laid_math_bits_deBruijn32tab), ("math/bits.deBruijn64tab", laid_math_bits_deBruijn64tab), ("internal/strconv.uint64pow10", laid_internal_strconv_uint64pow10), ("strconv.ErrRange", laid_strconv_ErrRange), ("strconv.ErrSyntax", laid_strconv_ErrSyntax)] }
def FnSemverTermCaretSaid : Prop := fnSemverTermCaretRow.holds Tryd.pinned (OpenSpec.ofChange fnSemverTermCaretSpec)

/-- ITS FALSE NEIGHBOUR: 'it returns false'. Refute it at one input. -/
def fnSemverTermCaretWrong : ChangeSpec := { name := "fnSemverTermCaret", fn := fun _ => fun
  | [d1, d2, d3] => { results := [.lit (.bool false)], args := [d1, d2, d3] }
  | _ => none }
def FnSemverTermCaretWrongFalsely : Prop := fnSemverTermCaretRow.holds Tryd.pinned (OpenSpec.ofChange fnSemverTermCaretWrong)

/-- 'laws.FnSemverTermHoldsPre': WHATEVER THE INPUT: true; the input reads as it did. -/
def fnSemverTermHoldsPreSpec : ChangeSpec := { name := "fnSemverTermHoldsPre", fn := fun _ => fun
  | [d1, d2, d3] => { results := [.lit (.bool true)], args := [d1, d2, d3] }
  | _ => none }
def fnSemverTermHoldsPreRow : OpenClaim := { program := "ytgenbmhmcnaiiaadoor", sum := "0b4d9133e70db89a3e620125419d97e6dddd9a6626438319966798b899b9921d", func := "pub-timebook/laws.FnSemverTermHoldsPre", spec := "fnSemverTermHoldsPre", named := ["strconv.ErrSyntax", "strconv.ErrRange", "internal/strconv.uint64pow10", "math/bits.deBruijn32tab", "math/bits.deBruijn64tab"], apart := false, laid := [("math/bits.deBruijn32tab", laid_math_bits_deBruijn32tab), ("math/bits.deBruijn64tab", laid_math_bits_deBruijn64tab), ("internal/strconv.uint64pow10", laid_internal_strconv_uint64pow10), ("strconv.ErrRange", laid_strconv_ErrRange), ("strconv.ErrSyntax", laid_strconv_ErrSyntax)] }
def FnSemverTermHoldsPreSaid : Prop := fnSemverTermHoldsPreRow.holds Tryd.pinned (OpenSpec.ofChange fnSemverTermHoldsPreSpec)

/-- ITS FALSE NEIGHBOUR: 'it returns false'. Refute it at one input. -/
def fnSemverTermHoldsPreWrong : ChangeSpec := { name := "fnSemverTermHoldsPre", fn := fun _ => fun
  | [d1, d2, d3] => { results := [.lit (.bool false)], args := [d1, d2, d3] }
  | _ => none }
def FnSemverTermHoldsPreWrongFalsely : Prop := fnSemverTermHoldsPreRow.holds Tryd.pinned (OpenSpec.ofChange fnSemverTermHoldsPreWrong)

/-- 'laws.FnSemverTermsEither': WHATEVER THE INPUT: true; the input reads as it did. -/
def fnSemverTermsEitherSpec : ChangeSpec := { name := "fnSemverTermsEither", fn := fun _ => fun
  | [d1, d2, d3, d4] => { results := [.lit (.bool true)], args := [d1, d2, d3, d4] }
  | _ => none }
def fnSemverTermsEitherRow : OpenClaim := { program := "ytgenbmhmcnaiiaadoor", sum := "0b4d9133e70db89a3e620125419d97e6dddd9a6626438319966798b899b9921d", func := "pub-timebook/laws.FnSemverTermsEither", spec := "fnSemverTermsEither", named := ["strconv.ErrSyntax", "strconv.ErrRange", "internal/strconv.uint64pow10", "math/bits.deBruijn32tab", "math/bits.deBruijn64tab"], apart := false, laid := [("math/bits.deBruijn32tab", laid_math_bits_deBruijn32tab), ("math/bits.deBruijn64tab", laid_math_bits_deBruijn64tab), ("internal/strconv.uint64pow10", laid_internal_strconv_uint64pow10), ("strconv.ErrRange", laid_strconv_ErrRange), ("strconv.ErrSyntax", laid_strconv_ErrSyntax)] }
def FnSemverTermsEitherSaid : Prop := fnSemverTermsEitherRow.holds Tryd.pinned (OpenSpec.ofChange fnSemverTermsEitherSpec)

/-- ITS FALSE NEIGHBOUR: 'it returns false'. Refute it at one input. -/
def fnSemverTermsEitherWrong : ChangeSpec := { name := "fnSemverTermsEither", fn := fun _ => fun
  | [d1, d2, d3, d4] => { results := [.lit (.bool false)], args := [d1, d2, d3, d4] }
  | _ => none }
def FnSemverTermsEitherWrongFalsely : Prop := fnSemverTermsEitherRow.holds Tryd.pinned (OpenSpec.ofChange fnSemverTermsEitherWrong)

/-- 'laws.FnSemverTermsBetween': WHATEVER THE INPUT: true; the input reads as it did. -/
def fnSemverTermsBetweenSpec : ChangeSpec := { name := "fnSemverTermsBetween", fn := fun _ => fun
  | [d1, d2, d3] => { results := [.lit (.bool true)], args := [d1, d2, d3] }
  | _ => none }
def fnSemverTermsBetweenRow : OpenClaim := { program := "ytgenbmhmcnaiiaadoor", sum := "0b4d9133e70db89a3e620125419d97e6dddd9a6626438319966798b899b9921d", func := "pub-timebook/laws.FnSemverTermsBetween", spec := "fnSemverTermsBetween", named := ["strconv.ErrSyntax", "strconv.ErrRange", "internal/strconv.uint64pow10", "math/bits.deBruijn32tab", "math/bits.deBruijn64tab"], apart := false, laid := [("math/bits.deBruijn32tab", laid_math_bits_deBruijn32tab), ("math/bits.deBruijn64tab", laid_math_bits_deBruijn64tab), ("internal/strconv.uint64pow10", laid_internal_strconv_uint64pow10), ("strconv.ErrRange", laid_strconv_ErrRange), ("strconv.ErrSyntax", laid_strconv_ErrSyntax)] }
def FnSemverTermsBetweenSaid : Prop := fnSemverTermsBetweenRow.holds Tryd.pinned (OpenSpec.ofChange fnSemverTermsBetweenSpec)

/-- ITS FALSE NEIGHBOUR: 'it returns false'. Refute it at one input. -/
def fnSemverTermsBetweenWrong : ChangeSpec := { name := "fnSemverTermsBetween", fn := fun _ => fun
  | [d1, d2, d3] => { results := [.lit (.bool false)], args := [d1, d2, d3] }
  | _ => none }
def FnSemverTermsBetweenWrongFalsely : Prop := fnSemverTermsBetweenRow.holds Tryd.pinned (OpenSpec.ofChange fnSemverTermsBetweenWrong)

/-- 'laws.FnSemverLeastOne': WHATEVER THE INPUT: true; the input reads as it did. -/
def fnSemverLeastOneSpec : ChangeSpec := { name := "fnSemverLeastOne", fn := fun _ => fun
  | [d1, d2] => { results := [.lit (.bool true)], args := [d1, d2] }
  | _ => none }
def fnSemverLeastOneRow : OpenClaim := { program := "ytgenbmhmcnaiiaadoor", sum := "0b4d9133e70db89a3e620125419d97e6dddd9a6626438319966798b899b9921d", func := "pub-timebook/laws.FnSemverLeastOne", spec := "fnSemverLeastOne", named := ["strconv.ErrSyntax", "strconv.ErrRange", "internal/strconv.uint64pow10", "math/bits.deBruijn32tab", "math/bits.deBruijn64tab"], apart := false, laid := [("math/bits.deBruijn32tab", laid_math_bits_deBruijn32tab), ("math/bits.deBruijn64tab", laid_math_bits_deBruijn64tab), ("internal/strconv.uint64pow10", laid_internal_strconv_uint64pow10), ("strconv.ErrRange", laid_strconv_ErrRange), ("strconv.ErrSyntax", laid_strconv_ErrSyntax)] }
def FnSemverLeastOneSaid : Prop := fnSemverLeastOneRow.holds Tryd.pinned (OpenSpec.ofChange fnSemverLeastOneSpec)

/-- ITS FALSE NEIGHBOUR: 'it returns false'. Refute it at one input. -/
def fnSemverLeastOneWrong : ChangeSpec := { name := "fnSemverLeastOne", fn := fun _ => fun
  | [d1, d2] => { results := [.lit (.bool false)], args := [d1, d2] }
  | _ => none }
def FnSemverLeastOneWrongFalsely : Prop := fnSemverLeastOneRow.holds Tryd.pinned (OpenSpec.ofChange fnSemverLeastOneWrong)

/-- 'laws.FnSemverTermNext': WHATEVER THE INPUT: true; the input reads as it did. -/
def fnSemverTermNextSpec : ChangeSpec := { name := "fnSemverTermNext", fn := fun _ => fun
  | [d1, d2] => { results := [.lit (.bool true)], args := [d1, d2] }
  | _ => none }
def fnSemverTermNextRow : OpenClaim := { program := "ytgenbmhmcnaiiaadoor", sum := "0b4d9133e70db89a3e620125419d97e6dddd9a6626438319966798b899b9921d", func := "pub-timebook/laws.FnSemverTermNext", spec := "fnSemverTermNext", named := ["internal/strconv.uint64pow10", "math/bits.deBruijn32tab", "math/bits.deBruijn64tab", "strconv.ErrSyntax", "strconv.ErrRange"], apart := false, laid := [("math/bits.deBruijn32tab", laid_math_bits_deBruijn32tab), ("math/bits.deBruijn64tab", laid_math_bits_deBruijn64tab), ("internal/strconv.uint64pow10", laid_internal_strconv_uint64pow10), ("strconv.ErrRange", laid_strconv_ErrRange), ("strconv.ErrSyntax", laid_strconv_ErrSyntax)] }
def FnSemverTermNextSaid : Prop := fnSemverTermNextRow.holds Tryd.pinned (OpenSpec.ofChange fnSemverTermNextSpec)

/-- ITS FALSE NEIGHBOUR: 'it returns false'. Refute it at one input. -/
def fnSemverTermNextWrong : ChangeSpec := { name := "fnSemverTermNext", fn := fun _ => fun
  | [d1, d2] => { results := [.lit (.bool false)], args := [d1, d2] }
  | _ => none }
def FnSemverTermNextWrongFalsely : Prop := fnSemverTermNextRow.holds Tryd.pinned (OpenSpec.ofChange fnSemverTermNextWrong)

/- THE SECOND FORM. 'bulk': how many values and letters a reading holds, each counted each time it is reached (what is shared counts as often as it is met; a slice's spare places count too). A statement '..UptoSaid' is the law's where the arguments, and the package variables that the reading takes, are together of bulk at most 1048576: NARROWER than '..Said'. Prove '..Said' where nothing that the law and all that it calls make is longer than what came in: it says more and counts as full. Else prove '..UptoSaid'. A law counts once. -/
mutual
def uptoBulk {H : Type} : DataW H → Nat
  | .lit (.string bytes) => bytes.length + 1
  | .lit _ => 1
  | .nil => 1
  | .ptr d => uptoBulk d + 1
  | .slice elems spare => uptoBulkAll elems + uptoBulkAll spare + 1
  | .agg parts => uptoBulkAll parts + 1
  | .iface _ d => uptoBulk d + 1
  | .map entries => uptoBulkEntries entries + 1
  | .held _ => 1
def uptoBulkAll {H : Type} : List (DataW H) → Nat
  | [] => 0
  | d :: r => uptoBulk d + uptoBulkAll r
def uptoBulkEntries {H : Type} : List (Lit × DataW H) → Nat
  | [] => 0
  | x :: r => uptoBulkEntry x + uptoBulkEntries r
def uptoBulkEntry {H : Type} : Lit × DataW H → Nat
  | (.string bytes, d) => bytes.length + uptoBulk d + 1
  | (_, d) => uptoBulk d + 1
 end
def uptoSmall : (H : Type) → List (DataW H) → Bool := fun _ ds => decide (uptoBulkAll ds ≤ 1048576)
def OpenSpec.upto (s : _root_.Go.ChangeSpec) : _root_.Go.OpenSpec := { _root_.Go.OpenSpec.ofChange s with cond := some uptoSmall }

/-- 'laws.FnSemverPreKind', WHERE WHAT IT READS IS OF BULK AT MOST 1048576: true; the input reads as it did. -/
def fnSemverPreKindUptoRow : OpenClaim := { program := "ytgenbmhmcnaiiaadoor", sum := "0b4d9133e70db89a3e620125419d97e6dddd9a6626438319966798b899b9921d", func := "pub-timebook/laws.FnSemverPreKind", spec := "fnSemverPreKind", inPlace := ["internal/reflectlite.TypeOf"], unfollowed := true, recurses := true, named := ["pub-timebook/pub/semver.ErrInvalidPrerelease", "pub-timebook/pub/semver.ErrSegmentStartsZero", "pub-timebook/pub/semver.ErrEmptyString", "pub-timebook/pub/semver.ErrVersionTooLong", "pub-timebook/pub/semver.ErrInvalidCharacters", "pub-timebook/pub/semver.ErrInvalidMetadata", "pub-timebook/pub/semver.ErrInvalidSemVer", "pub-timebook/pub/semver.ErrConstraintTooLong", "pub-timebook/pub/semver.ErrTooManyConstraintGroups"], apart := false, laid := [("pub-timebook/pub/semver.ErrConstraintTooLong", laid_pub_timebook_pub_semver_ErrConstraintTooLong), ("pub-timebook/pub/semver.ErrTooManyConstraintGroups", laid_pub_timebook_pub_semver_ErrTooManyConstraintGroups), ("pub-timebook/pub/semver.ErrInvalidSemVer", laid_pub_timebook_pub_semver_ErrInvalidSemVer), ("pub-timebook/pub/semver.ErrEmptyString", laid_pub_timebook_pub_semver_ErrEmptyString), ("pub-timebook/pub/semver.ErrInvalidCharacters", laid_pub_timebook_pub_semver_ErrInvalidCharacters), ("pub-timebook/pub/semver.ErrSegmentStartsZero", laid_pub_timebook_pub_semver_ErrSegmentStartsZero), ("pub-timebook/pub/semver.ErrInvalidMetadata", laid_pub_timebook_pub_semver_ErrInvalidMetadata), ("pub-timebook/pub/semver.ErrInvalidPrerelease", laid_pub_timebook_pub_semver_ErrInvalidPrerelease), ("pub-timebook/pub/semver.ErrVersionTooLong", laid_pub_timebook_pub_semver_ErrVersionTooLong)], narrowed := true }
def FnSemverPreKindUptoSaid : Prop := fnSemverPreKindUptoRow.holds Tryd.pinned (OpenSpec.upto fnSemverPreKindSpec)

/-- 'laws.FnSemverMarshal', WHERE WHAT IT READS IS OF BULK AT MOST 1048576: true; the input reads as it did. -/
def fnSemverMarshalUptoRow : OpenClaim := { program := "ytgenbmhmcnaiiaadoor", sum := "0b4d9133e70db89a3e620125419d97e6dddd9a6626438319966798b899b9921d", func := "pub-timebook/laws.FnSemverMarshal", spec := "fnSemverMarshal", recurses := true, named := ["internal/strconv.uint64pow10", "math/bits.deBruijn32tab", "math/bits.deBruijn64tab"], apart := false, laid := [("math/bits.deBruijn32tab", laid_math_bits_deBruijn32tab), ("math/bits.deBruijn64tab", laid_math_bits_deBruijn64tab), ("internal/strconv.uint64pow10", laid_internal_strconv_uint64pow10)], narrowed := true }
def FnSemverMarshalUptoSaid : Prop := fnSemverMarshalUptoRow.holds Tryd.pinned (OpenSpec.upto fnSemverMarshalSpec)

/-- 'laws.FnSemverSetPre', WHERE WHAT IT READS IS OF BULK AT MOST 1048576: true; the input reads as it did. -/
def fnSemverSetPreUptoRow : OpenClaim := { program := "ytgenbmhmcnaiiaadoor", sum := "0b4d9133e70db89a3e620125419d97e6dddd9a6626438319966798b899b9921d", func := "pub-timebook/laws.FnSemverSetPre", spec := "fnSemverSetPre", unfollowed := true, recurses := true, named := ["pub-timebook/pub/semver.ErrInvalidPrerelease", "pub-timebook/pub/semver.ErrSegmentStartsZero", "internal/strconv.uint64pow10", "math/bits.deBruijn32tab", "math/bits.deBruijn64tab"], apart := false, laid := [("math/bits.deBruijn32tab", laid_math_bits_deBruijn32tab), ("math/bits.deBruijn64tab", laid_math_bits_deBruijn64tab), ("internal/strconv.uint64pow10", laid_internal_strconv_uint64pow10), ("pub-timebook/pub/semver.ErrSegmentStartsZero", laid_pub_timebook_pub_semver_ErrSegmentStartsZero), ("pub-timebook/pub/semver.ErrInvalidPrerelease", laid_pub_timebook_pub_semver_ErrInvalidPrerelease)], narrowed := true }
def FnSemverSetPreUptoSaid : Prop := fnSemverSetPreUptoRow.holds Tryd.pinned (OpenSpec.upto fnSemverSetPreSpec)

/-- 'laws.FnSemverPartWords', WHERE WHAT IT READS IS OF BULK AT MOST 1048576: true; the input reads as it did. -/
def fnSemverPartWordsUptoRow : OpenClaim := { program := "ytgenbmhmcnaiiaadoor", sum := "0b4d9133e70db89a3e620125419d97e6dddd9a6626438319966798b899b9921d", func := "pub-timebook/laws.FnSemverPartWords", spec := "fnSemverPartWords", named := ["strconv.ErrSyntax", "strconv.ErrRange", "internal/strconv.uint64pow10", "math/bits.deBruijn32tab", "math/bits.deBruijn64tab"], apart := false, laid := [("math/bits.deBruijn32tab", laid_math_bits_deBruijn32tab), ("math/bits.deBruijn64tab", laid_math_bits_deBruijn64tab), ("internal/strconv.uint64pow10", laid_internal_strconv_uint64pow10), ("strconv.ErrRange", laid_strconv_ErrRange), ("strconv.ErrSyntax", laid_strconv_ErrSyntax)], narrowed := true }
def FnSemverPartWordsUptoSaid : Prop := fnSemverPartWordsUptoRow.holds Tryd.pinned (OpenSpec.upto fnSemverPartWordsSpec)

/-- 'laws.FnSemverCompare', WHERE WHAT IT READS IS OF BULK AT MOST 1048576: true; the input reads as it did. -/
def fnSemverCompareUptoRow : OpenClaim := { program := "ytgenbmhmcnaiiaadoor", sum := "0b4d9133e70db89a3e620125419d97e6dddd9a6626438319966798b899b9921d", func := "pub-timebook/laws.FnSemverCompare", spec := "fnSemverCompare", named := ["strconv.ErrSyntax", "strconv.ErrRange", "internal/strconv.uint64pow10", "math/bits.deBruijn32tab", "math/bits.deBruijn64tab"], apart := false, laid := [("math/bits.deBruijn32tab", laid_math_bits_deBruijn32tab), ("math/bits.deBruijn64tab", laid_math_bits_deBruijn64tab), ("internal/strconv.uint64pow10", laid_internal_strconv_uint64pow10), ("strconv.ErrRange", laid_strconv_ErrRange), ("strconv.ErrSyntax", laid_strconv_ErrSyntax)], narrowed := true }
def FnSemverCompareUptoSaid : Prop := fnSemverCompareUptoRow.holds Tryd.pinned (OpenSpec.upto fnSemverCompareSpec)

/-- 'laws.FnSemverPreLonger', WHERE WHAT IT READS IS OF BULK AT MOST 1048576: true; the input reads as it did. -/
def fnSemverPreLongerUptoRow : OpenClaim := { program := "ytgenbmhmcnaiiaadoor", sum := "0b4d9133e70db89a3e620125419d97e6dddd9a6626438319966798b899b9921d", func := "pub-timebook/laws.FnSemverPreLonger", spec := "fnSemverPreLonger", named := ["strconv.ErrSyntax", "strconv.ErrRange", "internal/strconv.uint64pow10", "math/bits.deBruijn32tab", "math/bits.deBruijn64tab"], apart := false, laid := [("math/bits.deBruijn32tab", laid_math_bits_deBruijn32tab), ("math/bits.deBruijn64tab", laid_math_bits_deBruijn64tab), ("internal/strconv.uint64pow10", laid_internal_strconv_uint64pow10), ("strconv.ErrRange", laid_strconv_ErrRange), ("strconv.ErrSyntax", laid_strconv_ErrSyntax)], narrowed := true }
def FnSemverPreLongerUptoSaid : Prop := fnSemverPreLongerUptoRow.holds Tryd.pinned (OpenSpec.upto fnSemverPreLongerSpec)

/-- 'laws.FnSemverLessAt', WHERE WHAT IT READS IS OF BULK AT MOST 1048576: true; the input reads as it did. -/
def fnSemverLessAtUptoRow : OpenClaim := { program := "ytgenbmhmcnaiiaadoor", sum := "0b4d9133e70db89a3e620125419d97e6dddd9a6626438319966798b899b9921d", func := "pub-timebook/laws.FnSemverLessAt", spec := "fnSemverLessAt", named := ["strconv.ErrSyntax", "strconv.ErrRange", "internal/strconv.uint64pow10", "math/bits.deBruijn32tab", "math/bits.deBruijn64tab"], apart := false, laid := [("math/bits.deBruijn32tab", laid_math_bits_deBruijn32tab), ("math/bits.deBruijn64tab", laid_math_bits_deBruijn64tab), ("internal/strconv.uint64pow10", laid_internal_strconv_uint64pow10), ("strconv.ErrRange", laid_strconv_ErrRange), ("strconv.ErrSyntax", laid_strconv_ErrSyntax)], narrowed := true }
def FnSemverLessAtUptoSaid : Prop := fnSemverLessAtUptoRow.holds Tryd.pinned (OpenSpec.upto fnSemverLessAtSpec)

/-- 'laws.FnSemverStrictBuilt', WHERE WHAT IT READS IS OF BULK AT MOST 1048576: true; the input reads as it did. -/
def fnSemverStrictBuiltUptoRow : OpenClaim := { program := "ytgenbmhmcnaiiaadoor", sum := "0b4d9133e70db89a3e620125419d97e6dddd9a6626438319966798b899b9921d", func := "pub-timebook/laws.FnSemverStrictBuilt", spec := "fnSemverStrictBuilt", unfollowed := true, recurses := true, named := ["pub-timebook/pub/semver.ErrEmptyString", "pub-timebook/pub/semver.ErrVersionTooLong", "pub-timebook/pub/semver.ErrInvalidSemVer", "pub-timebook/pub/semver.ErrInvalidCharacters", "pub-timebook/pub/semver.ErrSegmentStartsZero", "pub-timebook/pub/semver.ErrInvalidMetadata", "pub-timebook/pub/semver.ErrInvalidPrerelease", "strconv.ErrSyntax", "strconv.ErrRange", "internal/strconv.uint64pow10", "math/bits.deBruijn32tab", "math/bits.deBruijn64tab"], apart := false, laid := [("math/bits.deBruijn32tab", laid_math_bits_deBruijn32tab), ("math/bits.deBruijn64tab", laid_math_bits_deBruijn64tab), ("internal/strconv.uint64pow10", laid_internal_strconv_uint64pow10), ("strconv.ErrRange", laid_strconv_ErrRange), ("strconv.ErrSyntax", laid_strconv_ErrSyntax), ("pub-timebook/pub/semver.ErrInvalidSemVer", laid_pub_timebook_pub_semver_ErrInvalidSemVer), ("pub-timebook/pub/semver.ErrEmptyString", laid_pub_timebook_pub_semver_ErrEmptyString), ("pub-timebook/pub/semver.ErrInvalidCharacters", laid_pub_timebook_pub_semver_ErrInvalidCharacters), ("pub-timebook/pub/semver.ErrSegmentStartsZero", laid_pub_timebook_pub_semver_ErrSegmentStartsZero), ("pub-timebook/pub/semver.ErrInvalidMetadata", laid_pub_timebook_pub_semver_ErrInvalidMetadata), ("pub-timebook/pub/semver.ErrInvalidPrerelease", laid_pub_timebook_pub_semver_ErrInvalidPrerelease), ("pub-timebook/pub/semver.ErrVersionTooLong", laid_pub_timebook_pub_semver_ErrVersionTooLong)], narrowed := true }
def FnSemverStrictBuiltUptoSaid : Prop := fnSemverStrictBuiltUptoRow.holds Tryd.pinned (OpenSpec.upto fnSemverStrictBuiltSpec)

/-- 'laws.FnSemverIncMinorLeast', WHERE WHAT IT READS IS OF BULK AT MOST 1048576: true; the input reads as it did. -/
def fnSemverIncMinorLeastUptoRow : OpenClaim := { program := "ytgenbmhmcnaiiaadoor", sum := "0b4d9133e70db89a3e620125419d97e6dddd9a6626438319966798b899b9921d", func := "pub-timebook/laws.FnSemverIncMinorLeast", spec := "fnSemverIncMinorLeast", named := ["internal/strconv.uint64pow10", "math/bits.deBruijn32tab", "math/bits.deBruijn64tab", "strconv.ErrSyntax", "strconv.ErrRange"], apart := false, laid := [("math/bits.deBruijn32tab", laid_math_bits_deBruijn32tab), ("math/bits.deBruijn64tab", laid_math_bits_deBruijn64tab), ("internal/strconv.uint64pow10", laid_internal_strconv_uint64pow10), ("strconv.ErrRange", laid_strconv_ErrRange), ("strconv.ErrSyntax", laid_strconv_ErrSyntax)], narrowed := true }
def FnSemverIncMinorLeastUptoSaid : Prop := fnSemverIncMinorLeastUptoRow.holds Tryd.pinned (OpenSpec.upto fnSemverIncMinorLeastSpec)

/-- 'laws.FnSemverAboveHolds', WHERE WHAT IT READS IS OF BULK AT MOST 1048576: true; the input reads as it did. -/
def fnSemverAboveHoldsUptoRow : OpenClaim := { program := "ytgenbmhmcnaiiaadoor", sum := "0b4d9133e70db89a3e620125419d97e6dddd9a6626438319966798b899b9921d", func := "pub-timebook/laws.FnSemverAboveHolds", spec := "fnSemverAboveHolds", named := ["strconv.ErrSyntax", "strconv.ErrRange", "internal/strconv.uint64pow10", "math/bits.deBruijn32tab", "math/bits.deBruijn64tab"], apart := false, laid := [("math/bits.deBruijn32tab", laid_math_bits_deBruijn32tab), ("math/bits.deBruijn64tab", laid_math_bits_deBruijn64tab), ("internal/strconv.uint64pow10", laid_internal_strconv_uint64pow10), ("strconv.ErrRange", laid_strconv_ErrRange), ("strconv.ErrSyntax", laid_strconv_ErrSyntax)], narrowed := true }
def FnSemverAboveHoldsUptoSaid : Prop := fnSemverAboveHoldsUptoRow.holds Tryd.pinned (OpenSpec.upto fnSemverAboveHoldsSpec)

/-- 'laws.FnSemverAboveCompares', WHERE WHAT IT READS IS OF BULK AT MOST 1048576: true; the input reads as it did. -/
def fnSemverAboveComparesUptoRow : OpenClaim := { program := "ytgenbmhmcnaiiaadoor", sum := "0b4d9133e70db89a3e620125419d97e6dddd9a6626438319966798b899b9921d", func := "pub-timebook/laws.FnSemverAboveCompares", spec := "fnSemverAboveCompares", named := ["strconv.ErrSyntax", "strconv.ErrRange", "internal/strconv.uint64pow10", "math/bits.deBruijn32tab", "math/bits.deBruijn64tab"], apart := false, laid := [("math/bits.deBruijn32tab", laid_math_bits_deBruijn32tab), ("math/bits.deBruijn64tab", laid_math_bits_deBruijn64tab), ("internal/strconv.uint64pow10", laid_internal_strconv_uint64pow10), ("strconv.ErrRange", laid_strconv_ErrRange), ("strconv.ErrSyntax", laid_strconv_ErrSyntax)], narrowed := true }
def FnSemverAboveComparesUptoSaid : Prop := fnSemverAboveComparesUptoRow.holds Tryd.pinned (OpenSpec.upto fnSemverAboveComparesSpec)

/-- 'laws.FnSemverCaretInterval', WHERE WHAT IT READS IS OF BULK AT MOST 1048576: true; the input reads as it did. -/
def fnSemverCaretIntervalUptoRow : OpenClaim := { program := "ytgenbmhmcnaiiaadoor", sum := "0b4d9133e70db89a3e620125419d97e6dddd9a6626438319966798b899b9921d", func := "pub-timebook/laws.FnSemverCaretInterval", spec := "fnSemverCaretInterval", named := ["strconv.ErrSyntax", "strconv.ErrRange", "internal/strconv.uint64pow10", "math/bits.deBruijn32tab", "math/bits.deBruijn64tab"], apart := false, laid := [("math/bits.deBruijn32tab", laid_math_bits_deBruijn32tab), ("math/bits.deBruijn64tab", laid_math_bits_deBruijn64tab), ("internal/strconv.uint64pow10", laid_internal_strconv_uint64pow10), ("strconv.ErrRange", laid_strconv_ErrRange), ("strconv.ErrSyntax", laid_strconv_ErrSyntax)], narrowed := true }
def FnSemverCaretIntervalUptoSaid : Prop := fnSemverCaretIntervalUptoRow.holds Tryd.pinned (OpenSpec.upto fnSemverCaretIntervalSpec)

/-- 'laws.FnSemverTermCaret', WHERE WHAT IT READS IS OF BULK AT MOST 1048576: true; the input reads as it did. -/
def fnSemverTermCaretUptoRow : OpenClaim := { program := "ytgenbmhmcnaiiaadoor", sum := "0b4d9133e70db89a3e620125419d97e6dddd9a6626438319966798b899b9921d", func := "pub-timebook/laws.FnSemverTermCaret", spec := "fnSemverTermCaret", named := ["strconv.ErrSyntax", "strconv.ErrRange", "internal/strconv.uint64pow10", "math/bits.deBruijn32tab", "math/bits.deBruijn64tab"], apart := false, laid := [("math/bits.deBruijn32tab", laid_math_bits_deBruijn32tab), ("math/bits.deBruijn64tab", laid_math_bits_deBruijn64tab), ("internal/strconv.uint64pow10", laid_internal_strconv_uint64pow10), ("strconv.ErrRange", laid_strconv_ErrRange), ("strconv.ErrSyntax", laid_strconv_ErrSyntax)], narrowed := true }
def FnSemverTermCaretUptoSaid : Prop := fnSemverTermCaretUptoRow.holds Tryd.pinned (OpenSpec.upto fnSemverTermCaretSpec)

/-- 'laws.FnSemverTermHoldsPre', WHERE WHAT IT READS IS OF BULK AT MOST 1048576: true; the input reads as it did. -/
def fnSemverTermHoldsPreUptoRow : OpenClaim := { program := "ytgenbmhmcnaiiaadoor", sum := "0b4d9133e70db89a3e620125419d97e6dddd9a6626438319966798b899b9921d", func := "pub-timebook/laws.FnSemverTermHoldsPre", spec := "fnSemverTermHoldsPre", named := ["strconv.ErrSyntax", "strconv.ErrRange", "internal/strconv.uint64pow10", "math/bits.deBruijn32tab", "math/bits.deBruijn64tab"], apart := false, laid := [("math/bits.deBruijn32tab", laid_math_bits_deBruijn32tab), ("math/bits.deBruijn64tab", laid_math_bits_deBruijn64tab), ("internal/strconv.uint64pow10", laid_internal_strconv_uint64pow10), ("strconv.ErrRange", laid_strconv_ErrRange), ("strconv.ErrSyntax", laid_strconv_ErrSyntax)], narrowed := true }
def FnSemverTermHoldsPreUptoSaid : Prop := fnSemverTermHoldsPreUptoRow.holds Tryd.pinned (OpenSpec.upto fnSemverTermHoldsPreSpec)

/-- 'laws.FnSemverTermsEither', WHERE WHAT IT READS IS OF BULK AT MOST 1048576: true; the input reads as it did. -/
def fnSemverTermsEitherUptoRow : OpenClaim := { program := "ytgenbmhmcnaiiaadoor", sum := "0b4d9133e70db89a3e620125419d97e6dddd9a6626438319966798b899b9921d", func := "pub-timebook/laws.FnSemverTermsEither", spec := "fnSemverTermsEither", named := ["strconv.ErrSyntax", "strconv.ErrRange", "internal/strconv.uint64pow10", "math/bits.deBruijn32tab", "math/bits.deBruijn64tab"], apart := false, laid := [("math/bits.deBruijn32tab", laid_math_bits_deBruijn32tab), ("math/bits.deBruijn64tab", laid_math_bits_deBruijn64tab), ("internal/strconv.uint64pow10", laid_internal_strconv_uint64pow10), ("strconv.ErrRange", laid_strconv_ErrRange), ("strconv.ErrSyntax", laid_strconv_ErrSyntax)], narrowed := true }
def FnSemverTermsEitherUptoSaid : Prop := fnSemverTermsEitherUptoRow.holds Tryd.pinned (OpenSpec.upto fnSemverTermsEitherSpec)

/-- 'laws.FnSemverTermsBetween', WHERE WHAT IT READS IS OF BULK AT MOST 1048576: true; the input reads as it did. -/
def fnSemverTermsBetweenUptoRow : OpenClaim := { program := "ytgenbmhmcnaiiaadoor", sum := "0b4d9133e70db89a3e620125419d97e6dddd9a6626438319966798b899b9921d", func := "pub-timebook/laws.FnSemverTermsBetween", spec := "fnSemverTermsBetween", named := ["strconv.ErrSyntax", "strconv.ErrRange", "internal/strconv.uint64pow10", "math/bits.deBruijn32tab", "math/bits.deBruijn64tab"], apart := false, laid := [("math/bits.deBruijn32tab", laid_math_bits_deBruijn32tab), ("math/bits.deBruijn64tab", laid_math_bits_deBruijn64tab), ("internal/strconv.uint64pow10", laid_internal_strconv_uint64pow10), ("strconv.ErrRange", laid_strconv_ErrRange), ("strconv.ErrSyntax", laid_strconv_ErrSyntax)], narrowed := true }
def FnSemverTermsBetweenUptoSaid : Prop := fnSemverTermsBetweenUptoRow.holds Tryd.pinned (OpenSpec.upto fnSemverTermsBetweenSpec)

/-- 'laws.FnSemverLeastOne', WHERE WHAT IT READS IS OF BULK AT MOST 1048576: true; the input reads as it did. -/
def fnSemverLeastOneUptoRow : OpenClaim := { program := "ytgenbmhmcnaiiaadoor", sum := "0b4d9133e70db89a3e620125419d97e6dddd9a6626438319966798b899b9921d", func := "pub-timebook/laws.FnSemverLeastOne", spec := "fnSemverLeastOne", named := ["strconv.ErrSyntax", "strconv.ErrRange", "internal/strconv.uint64pow10", "math/bits.deBruijn32tab", "math/bits.deBruijn64tab"], apart := false, laid := [("math/bits.deBruijn32tab", laid_math_bits_deBruijn32tab), ("math/bits.deBruijn64tab", laid_math_bits_deBruijn64tab), ("internal/strconv.uint64pow10", laid_internal_strconv_uint64pow10), ("strconv.ErrRange", laid_strconv_ErrRange), ("strconv.ErrSyntax", laid_strconv_ErrSyntax)], narrowed := true }
def FnSemverLeastOneUptoSaid : Prop := fnSemverLeastOneUptoRow.holds Tryd.pinned (OpenSpec.upto fnSemverLeastOneSpec)

/-- 'laws.FnSemverTermNext', WHERE WHAT IT READS IS OF BULK AT MOST 1048576: true; the input reads as it did. -/
def fnSemverTermNextUptoRow : OpenClaim := { program := "ytgenbmhmcnaiiaadoor", sum := "0b4d9133e70db89a3e620125419d97e6dddd9a6626438319966798b899b9921d", func := "pub-timebook/laws.FnSemverTermNext", spec := "fnSemverTermNext", named := ["internal/strconv.uint64pow10", "math/bits.deBruijn32tab", "math/bits.deBruijn64tab", "strconv.ErrSyntax", "strconv.ErrRange"], apart := false, laid := [("math/bits.deBruijn32tab", laid_math_bits_deBruijn32tab), ("math/bits.deBruijn64tab", laid_math_bits_deBruijn64tab), ("internal/strconv.uint64pow10", laid_internal_strconv_uint64pow10), ("strconv.ErrRange", laid_strconv_ErrRange), ("strconv.ErrSyntax", laid_strconv_ErrSyntax)], narrowed := true }
def FnSemverTermNextUptoSaid : Prop := fnSemverTermNextUptoRow.holds Tryd.pinned (OpenSpec.upto fnSemverTermNextSpec)

end Rows
end Go.Proofs.YtgenbmhmcnaiiaaDoor
