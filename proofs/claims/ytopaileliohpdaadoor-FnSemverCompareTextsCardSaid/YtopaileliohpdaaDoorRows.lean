/-
  NARROWER THAN 'FOR EVERY INPUT', by the rows' own cells (each row's printed sentence says how): FnSemverSetMeta: laid · FnSemverPreFirst: laid · FnSemverIncMajorLeast: laid · FnSemverBelowHolds: laid · FnSemverBelowCompares: laid · FnSemverAboveInterval: laid · FnSemverStrictNumbers: laid · FnSemverCompareTexts: laid.
  DERIVED. THE GIVEN ROWS OF THIS SEAT. 8 by the template 'for every input the law returns true; each argument reads behind the call as it read before'; 0 by the template 'total and deterministic' (their statements: YtopaileliohpdaaDoorTotals.lean).
  GIVEN WITH THE SEED: the statements are not yours to turn. If you find one false, say at which input.
  Laid BY PROGRAM, IN A SANDBOX (cutbox-rows.mjs): the forced cells as the released guide's own fill.sh prints them over the translation 4f4c0269e2606d2d… (all of the seat's roots in one cut). By AI agents, Wed Nov 11 2026. No macro, syntax, notation, axiom, sorry.
-/
import Derived.Test.YtopaileliohpdaaDoorChecked
import GoSem.Claim
import GoSem.ClaimJoined
import GoSem.ClaimMapViews
import Derived.JoinedTies
import Derived.KernelRfl
namespace Go.Proofs.YtopaileliohpdaaDoor
/- THE CELL 'sum', in the pinned program and in every row, IS THE sha256 OF THE DUMP (.gsa) THAT YtopaileliohpdaaDoorProg.lean LOADS. Nothing in Lean hashes anything: it is a label: what it is worth is what the hold of that sum in a sandbox is worth. -/
noncomputable def Tryd.pinned : Pinned := { name := "ytopaileliohpdaadoor", sum := "4f4c0269e2606d2dc8524ec802ae86d90ae2efe7c7dd53d20ab799f383412d2f", checked := Tryd.checked }
namespace Rows
def none {H : Type} : Left H := { results := [], args := [] }

/- WHAT THE LISTED PACKAGE-LEVEL VARIABLES READ AS WHEN THE CALL BEGINS. Each datum BY PROGRAM (the guide's laid-datum.mjs) off the statement by which the dump's own 'gosem.cut.vars' lays the variable. In a bare row this is a premise. The card (YtopaileliohpdaaDoorCards.lean) ties it to the program's text. -/
def laid_math_bits_deBruijn32tab {H : Type} : DataW H := .agg [.lit (.int .u8 0), .lit (.int .u8 1), .lit (.int .u8 28), .lit (.int .u8 2), .lit (.int .u8 29), .lit (.int .u8 14), .lit (.int .u8 24), .lit (.int .u8 3), .lit (.int .u8 30), .lit (.int .u8 22), .lit (.int .u8 20), .lit (.int .u8 15), .lit (.int .u8 25), .lit (.int .u8 17), .lit (.int .u8 4), .lit (.int .u8 8), .lit (.int .u8 31), .lit (.int .u8 27), .lit (.int .u8 13), .lit (.int .u8 23), .lit (.int .u8 21), .lit (.int .u8 19), .lit (.int .u8 16), .lit (.int .u8 7), .lit (.int .u8 26), .lit (.int .u8 12), .lit (.int .u8 18), .lit (.int .u8 6), .lit (.int .u8 11), .lit (.int .u8 5), .lit (.int .u8 10), .lit (.int .u8 9)]
def laid_math_bits_deBruijn64tab {H : Type} : DataW H := .agg [.lit (.int .u8 0), .lit (.int .u8 1), .lit (.int .u8 56), .lit (.int .u8 2), .lit (.int .u8 57), .lit (.int .u8 49), .lit (.int .u8 28), .lit (.int .u8 3), .lit (.int .u8 61), .lit (.int .u8 58), .lit (.int .u8 42), .lit (.int .u8 50), .lit (.int .u8 38), .lit (.int .u8 29), .lit (.int .u8 17), .lit (.int .u8 4), .lit (.int .u8 62), .lit (.int .u8 47), .lit (.int .u8 59), .lit (.int .u8 36), .lit (.int .u8 45), .lit (.int .u8 43), .lit (.int .u8 51), .lit (.int .u8 22), .lit (.int .u8 53), .lit (.int .u8 39), .lit (.int .u8 33), .lit (.int .u8 30), .lit (.int .u8 24), .lit (.int .u8 18), .lit (.int .u8 12), .lit (.int .u8 5), .lit (.int .u8 63), .lit (.int .u8 55), .lit (.int .u8 48), .lit (.int .u8 27), .lit (.int .u8 60), .lit (.int .u8 41), .lit (.int .u8 37), .lit (.int .u8 16), .lit (.int .u8 46), .lit (.int .u8 35), .lit (.int .u8 44), .lit (.int .u8 21), .lit (.int .u8 52), .lit (.int .u8 32), .lit (.int .u8 23), .lit (.int .u8 11), .lit (.int .u8 54), .lit (.int .u8 26), .lit (.int .u8 40), .lit (.int .u8 15), .lit (.int .u8 34), .lit (.int .u8 20), .lit (.int .u8 31), .lit (.int .u8 10), .lit (.int .u8 25), .lit (.int .u8 14), .lit (.int .u8 19), .lit (.int .u8 9), .lit (.int .u8 13), .lit (.int .u8 8), .lit (.int .u8 7), .lit (.int .u8 6)]
def laid_internal_strconv_uint64pow10 {H : Type} : DataW H := .agg [.lit (.int .u64 1), .lit (.int .u64 10), .lit (.int .u64 100), .lit (.int .u64 1000), .lit (.int .u64 10000), .lit (.int .u64 100000), .lit (.int .u64 1000000), .lit (.int .u64 10000000), .lit (.int .u64 100000000), .lit (.int .u64 1000000000), .lit (.int .u64 10000000000), .lit (.int .u64 100000000000), .lit (.int .u64 1000000000000), .lit (.int .u64 10000000000000), .lit (.int .u64 100000000000000), .lit (.int .u64 1000000000000000), .lit (.int .u64 10000000000000000), .lit (.int .u64 100000000000000000), .lit (.int .u64 1000000000000000000), .lit (.int .u64 10000000000000000000)]
def laid_pub_timebook_pub_semver_ErrInvalidMetadata {H : Type} : DataW H := .iface "*errors.errorString" (.ptr (.agg [.lit (.string [105, 110, 118, 97, 108, 105, 100, 32, 109, 101, 116, 97, 100, 97, 116, 97, 32, 115, 116, 114, 105, 110, 103])]))
def laid_strconv_ErrRange {H : Type} : DataW H := .iface "*errors.errorString" (.ptr (.agg [.lit (.string [118, 97, 108, 117, 101, 32, 111, 117, 116, 32, 111, 102, 32, 114, 97, 110, 103, 101])]))
def laid_strconv_ErrSyntax {H : Type} : DataW H := .iface "*errors.errorString" (.ptr (.agg [.lit (.string [105, 110, 118, 97, 108, 105, 100, 32, 115, 121, 110, 116, 97, 120])]))
def laid_pub_timebook_pub_semver_ErrInvalidSemVer {H : Type} : DataW H := .iface "*errors.errorString" (.ptr (.agg [.lit (.string [105, 110, 118, 97, 108, 105, 100, 32, 115, 101, 109, 97, 110, 116, 105, 99, 32, 118, 101, 114, 115, 105, 111, 110])]))
def laid_pub_timebook_pub_semver_ErrEmptyString {H : Type} : DataW H := .iface "*errors.errorString" (.ptr (.agg [.lit (.string [118, 101, 114, 115, 105, 111, 110, 32, 115, 116, 114, 105, 110, 103, 32, 101, 109, 112, 116, 121])]))
def laid_pub_timebook_pub_semver_ErrInvalidCharacters {H : Type} : DataW H := .iface "*errors.errorString" (.ptr (.agg [.lit (.string [105, 110, 118, 97, 108, 105, 100, 32, 99, 104, 97, 114, 97, 99, 116, 101, 114, 115, 32, 105, 110, 32, 118, 101, 114, 115, 105, 111, 110])]))
def laid_pub_timebook_pub_semver_ErrSegmentStartsZero {H : Type} : DataW H := .iface "*errors.errorString" (.ptr (.agg [.lit (.string [118, 101, 114, 115, 105, 111, 110, 32, 115, 101, 103, 109, 101, 110, 116, 32, 115, 116, 97, 114, 116, 115, 32, 119, 105, 116, 104, 32, 48])]))
def laid_pub_timebook_pub_semver_ErrInvalidPrerelease {H : Type} : DataW H := .iface "*errors.errorString" (.ptr (.agg [.lit (.string [105, 110, 118, 97, 108, 105, 100, 32, 112, 114, 101, 114, 101, 108, 101, 97, 115, 101, 32, 115, 116, 114, 105, 110, 103])]))
def laid_pub_timebook_pub_semver_ErrVersionTooLong {H : Type} : DataW H := .iface "*errors.errorString" (.ptr (.agg [.lit (.string [118, 101, 114, 115, 105, 111, 110, 32, 115, 116, 114, 105, 110, 103, 32, 105, 115, 32, 116, 111, 111, 32, 108, 111, 110, 103, 32, 40, 109, 97, 120, 32, 50, 53, 54, 32, 98, 121, 116, 101, 115, 41])]))

/-- 'laws.FnSemverSetMeta': WHATEVER THE INPUT: true; the input reads as it did. -/
def fnSemverSetMetaSpec : ChangeSpec := { name := "fnSemverSetMeta", fn := fun _ => fun
  | [d1, d2] => { results := [.lit (.bool true)], args := [d1, d2] }
  | _ => none }
def fnSemverSetMetaRow : OpenClaim := { program := "ytopaileliohpdaadoor", sum := "4f4c0269e2606d2dc8524ec802ae86d90ae2efe7c7dd53d20ab799f383412d2f", func := "pub-timebook/laws.FnSemverSetMeta", spec := "fnSemverSetMeta", unfollowed := true, recurses := true, named := ["pub-timebook/pub/semver.ErrInvalidMetadata", "internal/strconv.uint64pow10", "math/bits.deBruijn32tab", "math/bits.deBruijn64tab"], apart := false, laid := [("math/bits.deBruijn32tab", laid_math_bits_deBruijn32tab), ("math/bits.deBruijn64tab", laid_math_bits_deBruijn64tab), ("internal/strconv.uint64pow10", laid_internal_strconv_uint64pow10), ("pub-timebook/pub/semver.ErrInvalidMetadata", laid_pub_timebook_pub_semver_ErrInvalidMetadata)] }
def FnSemverSetMetaSaid : Prop := fnSemverSetMetaRow.holds Tryd.pinned (OpenSpec.ofChange fnSemverSetMetaSpec)

/-- ITS FALSE NEIGHBOUR: 'it returns false'. Refute it at one input. -/
def fnSemverSetMetaWrong : ChangeSpec := { name := "fnSemverSetMeta", fn := fun _ => fun
  | [d1, d2] => { results := [.lit (.bool false)], args := [d1, d2] }
  | _ => none }
def FnSemverSetMetaWrongFalsely : Prop := fnSemverSetMetaRow.holds Tryd.pinned (OpenSpec.ofChange fnSemverSetMetaWrong)

/-- 'laws.FnSemverPreFirst': WHATEVER THE INPUT: true; the input reads as it did. -/
def fnSemverPreFirstSpec : ChangeSpec := { name := "fnSemverPreFirst", fn := fun _ => fun
  | [d1, d2, d3, d4, d5, d6] => { results := [.lit (.bool true)], args := [d1, d2, d3, d4, d5, d6] }
  | _ => none }
def fnSemverPreFirstRow : OpenClaim := { program := "ytopaileliohpdaadoor", sum := "4f4c0269e2606d2dc8524ec802ae86d90ae2efe7c7dd53d20ab799f383412d2f", func := "pub-timebook/laws.FnSemverPreFirst", spec := "fnSemverPreFirst", named := ["strconv.ErrSyntax", "strconv.ErrRange", "internal/strconv.uint64pow10", "math/bits.deBruijn32tab", "math/bits.deBruijn64tab"], apart := false, laid := [("math/bits.deBruijn32tab", laid_math_bits_deBruijn32tab), ("math/bits.deBruijn64tab", laid_math_bits_deBruijn64tab), ("internal/strconv.uint64pow10", laid_internal_strconv_uint64pow10), ("strconv.ErrRange", laid_strconv_ErrRange), ("strconv.ErrSyntax", laid_strconv_ErrSyntax)] }
def FnSemverPreFirstSaid : Prop := fnSemverPreFirstRow.holds Tryd.pinned (OpenSpec.ofChange fnSemverPreFirstSpec)

/-- ITS FALSE NEIGHBOUR: 'it returns false'. Refute it at one input. -/
def fnSemverPreFirstWrong : ChangeSpec := { name := "fnSemverPreFirst", fn := fun _ => fun
  | [d1, d2, d3, d4, d5, d6] => { results := [.lit (.bool false)], args := [d1, d2, d3, d4, d5, d6] }
  | _ => none }
def FnSemverPreFirstWrongFalsely : Prop := fnSemverPreFirstRow.holds Tryd.pinned (OpenSpec.ofChange fnSemverPreFirstWrong)

/-- 'laws.FnSemverIncMajorLeast': WHATEVER THE INPUT: true; the input reads as it did. -/
def fnSemverIncMajorLeastSpec : ChangeSpec := { name := "fnSemverIncMajorLeast", fn := fun _ => fun
  | [d1, d2] => { results := [.lit (.bool true)], args := [d1, d2] }
  | _ => none }
def fnSemverIncMajorLeastRow : OpenClaim := { program := "ytopaileliohpdaadoor", sum := "4f4c0269e2606d2dc8524ec802ae86d90ae2efe7c7dd53d20ab799f383412d2f", func := "pub-timebook/laws.FnSemverIncMajorLeast", spec := "fnSemverIncMajorLeast", named := ["internal/strconv.uint64pow10", "math/bits.deBruijn32tab", "math/bits.deBruijn64tab", "strconv.ErrSyntax", "strconv.ErrRange"], apart := false, laid := [("math/bits.deBruijn32tab", laid_math_bits_deBruijn32tab), ("math/bits.deBruijn64tab", laid_math_bits_deBruijn64tab), ("internal/strconv.uint64pow10", laid_internal_strconv_uint64pow10), ("strconv.ErrRange", laid_strconv_ErrRange), ("strconv.ErrSyntax", laid_strconv_ErrSyntax)] }
def FnSemverIncMajorLeastSaid : Prop := fnSemverIncMajorLeastRow.holds Tryd.pinned (OpenSpec.ofChange fnSemverIncMajorLeastSpec)

/-- ITS FALSE NEIGHBOUR: 'it returns false'. Refute it at one input. -/
def fnSemverIncMajorLeastWrong : ChangeSpec := { name := "fnSemverIncMajorLeast", fn := fun _ => fun
  | [d1, d2] => { results := [.lit (.bool false)], args := [d1, d2] }
  | _ => none }
def FnSemverIncMajorLeastWrongFalsely : Prop := fnSemverIncMajorLeastRow.holds Tryd.pinned (OpenSpec.ofChange fnSemverIncMajorLeastWrong)

/-- 'laws.FnSemverBelowHolds': WHATEVER THE INPUT: true; the input reads as it did. -/
def fnSemverBelowHoldsSpec : ChangeSpec := { name := "fnSemverBelowHolds", fn := fun _ => fun
  | [d1, d2, d3] => { results := [.lit (.bool true)], args := [d1, d2, d3] }
  | _ => none }
def fnSemverBelowHoldsRow : OpenClaim := { program := "ytopaileliohpdaadoor", sum := "4f4c0269e2606d2dc8524ec802ae86d90ae2efe7c7dd53d20ab799f383412d2f", func := "pub-timebook/laws.FnSemverBelowHolds", spec := "fnSemverBelowHolds", named := ["strconv.ErrSyntax", "strconv.ErrRange", "internal/strconv.uint64pow10", "math/bits.deBruijn32tab", "math/bits.deBruijn64tab"], apart := false, laid := [("math/bits.deBruijn32tab", laid_math_bits_deBruijn32tab), ("math/bits.deBruijn64tab", laid_math_bits_deBruijn64tab), ("internal/strconv.uint64pow10", laid_internal_strconv_uint64pow10), ("strconv.ErrRange", laid_strconv_ErrRange), ("strconv.ErrSyntax", laid_strconv_ErrSyntax)] }
def FnSemverBelowHoldsSaid : Prop := fnSemverBelowHoldsRow.holds Tryd.pinned (OpenSpec.ofChange fnSemverBelowHoldsSpec)

/-- ITS FALSE NEIGHBOUR: 'it returns false'. Refute it at one input. -/
def fnSemverBelowHoldsWrong : ChangeSpec := { name := "fnSemverBelowHolds", fn := fun _ => fun
  | [d1, d2, d3] => { results := [.lit (.bool false)], args := [d1, d2, d3] }
  | _ => none }
def FnSemverBelowHoldsWrongFalsely : Prop := fnSemverBelowHoldsRow.holds Tryd.pinned (OpenSpec.ofChange fnSemverBelowHoldsWrong)

/-- 'laws.FnSemverBelowCompares': WHATEVER THE INPUT: true; the input reads as it did. -/
def fnSemverBelowComparesSpec : ChangeSpec := { name := "fnSemverBelowCompares", fn := fun _ => fun
  | [d1, d2] => { results := [.lit (.bool true)], args := [d1, d2] }
  | _ => none }
def fnSemverBelowComparesRow : OpenClaim := { program := "ytopaileliohpdaadoor", sum := "4f4c0269e2606d2dc8524ec802ae86d90ae2efe7c7dd53d20ab799f383412d2f", func := "pub-timebook/laws.FnSemverBelowCompares", spec := "fnSemverBelowCompares", named := ["strconv.ErrSyntax", "strconv.ErrRange", "internal/strconv.uint64pow10", "math/bits.deBruijn32tab", "math/bits.deBruijn64tab"], apart := false, laid := [("math/bits.deBruijn32tab", laid_math_bits_deBruijn32tab), ("math/bits.deBruijn64tab", laid_math_bits_deBruijn64tab), ("internal/strconv.uint64pow10", laid_internal_strconv_uint64pow10), ("strconv.ErrRange", laid_strconv_ErrRange), ("strconv.ErrSyntax", laid_strconv_ErrSyntax)] }
def FnSemverBelowComparesSaid : Prop := fnSemverBelowComparesRow.holds Tryd.pinned (OpenSpec.ofChange fnSemverBelowComparesSpec)

/-- ITS FALSE NEIGHBOUR: 'it returns false'. Refute it at one input. -/
def fnSemverBelowComparesWrong : ChangeSpec := { name := "fnSemverBelowCompares", fn := fun _ => fun
  | [d1, d2] => { results := [.lit (.bool false)], args := [d1, d2] }
  | _ => none }
def FnSemverBelowComparesWrongFalsely : Prop := fnSemverBelowComparesRow.holds Tryd.pinned (OpenSpec.ofChange fnSemverBelowComparesWrong)

/-- 'laws.FnSemverAboveInterval': WHATEVER THE INPUT: true; the input reads as it did. -/
def fnSemverAboveIntervalSpec : ChangeSpec := { name := "fnSemverAboveInterval", fn := fun _ => fun
  | [d1, d2, d3] => { results := [.lit (.bool true)], args := [d1, d2, d3] }
  | _ => none }
def fnSemverAboveIntervalRow : OpenClaim := { program := "ytopaileliohpdaadoor", sum := "4f4c0269e2606d2dc8524ec802ae86d90ae2efe7c7dd53d20ab799f383412d2f", func := "pub-timebook/laws.FnSemverAboveInterval", spec := "fnSemverAboveInterval", named := ["strconv.ErrSyntax", "strconv.ErrRange", "internal/strconv.uint64pow10", "math/bits.deBruijn32tab", "math/bits.deBruijn64tab"], apart := false, laid := [("math/bits.deBruijn32tab", laid_math_bits_deBruijn32tab), ("math/bits.deBruijn64tab", laid_math_bits_deBruijn64tab), ("internal/strconv.uint64pow10", laid_internal_strconv_uint64pow10), ("strconv.ErrRange", laid_strconv_ErrRange), ("strconv.ErrSyntax", laid_strconv_ErrSyntax)] }
def FnSemverAboveIntervalSaid : Prop := fnSemverAboveIntervalRow.holds Tryd.pinned (OpenSpec.ofChange fnSemverAboveIntervalSpec)

/-- ITS FALSE NEIGHBOUR: 'it returns false'. Refute it at one input. -/
def fnSemverAboveIntervalWrong : ChangeSpec := { name := "fnSemverAboveInterval", fn := fun _ => fun
  | [d1, d2, d3] => { results := [.lit (.bool false)], args := [d1, d2, d3] }
  | _ => none }
def FnSemverAboveIntervalWrongFalsely : Prop := fnSemverAboveIntervalRow.holds Tryd.pinned (OpenSpec.ofChange fnSemverAboveIntervalWrong)

/-- 'laws.FnSemverStrictNumbers': WHATEVER THE INPUT: true; the input reads as it did. -/
def fnSemverStrictNumbersSpec : ChangeSpec := { name := "fnSemverStrictNumbers", fn := fun _ => fun
  | [d1, d2, d3] => { results := [.lit (.bool true)], args := [d1, d2, d3] }
  | _ => none }
def fnSemverStrictNumbersRow : OpenClaim := { program := "ytopaileliohpdaadoor", sum := "4f4c0269e2606d2dc8524ec802ae86d90ae2efe7c7dd53d20ab799f383412d2f", func := "pub-timebook/laws.FnSemverStrictNumbers", spec := "fnSemverStrictNumbers", unfollowed := true, recurses := true, named := ["pub-timebook/pub/semver.ErrEmptyString", "pub-timebook/pub/semver.ErrVersionTooLong", "pub-timebook/pub/semver.ErrInvalidSemVer", "pub-timebook/pub/semver.ErrInvalidCharacters", "pub-timebook/pub/semver.ErrSegmentStartsZero", "pub-timebook/pub/semver.ErrInvalidMetadata", "pub-timebook/pub/semver.ErrInvalidPrerelease", "strconv.ErrSyntax", "strconv.ErrRange", "internal/strconv.uint64pow10", "math/bits.deBruijn32tab", "math/bits.deBruijn64tab"], apart := false, laid := [("math/bits.deBruijn32tab", laid_math_bits_deBruijn32tab), ("math/bits.deBruijn64tab", laid_math_bits_deBruijn64tab), ("internal/strconv.uint64pow10", laid_internal_strconv_uint64pow10), ("strconv.ErrRange", laid_strconv_ErrRange), ("strconv.ErrSyntax", laid_strconv_ErrSyntax), ("pub-timebook/pub/semver.ErrInvalidSemVer", laid_pub_timebook_pub_semver_ErrInvalidSemVer), ("pub-timebook/pub/semver.ErrEmptyString", laid_pub_timebook_pub_semver_ErrEmptyString), ("pub-timebook/pub/semver.ErrInvalidCharacters", laid_pub_timebook_pub_semver_ErrInvalidCharacters), ("pub-timebook/pub/semver.ErrSegmentStartsZero", laid_pub_timebook_pub_semver_ErrSegmentStartsZero), ("pub-timebook/pub/semver.ErrInvalidMetadata", laid_pub_timebook_pub_semver_ErrInvalidMetadata), ("pub-timebook/pub/semver.ErrInvalidPrerelease", laid_pub_timebook_pub_semver_ErrInvalidPrerelease), ("pub-timebook/pub/semver.ErrVersionTooLong", laid_pub_timebook_pub_semver_ErrVersionTooLong)] }
def FnSemverStrictNumbersSaid : Prop := fnSemverStrictNumbersRow.holds Tryd.pinned (OpenSpec.ofChange fnSemverStrictNumbersSpec)

/-- ITS FALSE NEIGHBOUR: 'it returns false'. Refute it at one input. -/
def fnSemverStrictNumbersWrong : ChangeSpec := { name := "fnSemverStrictNumbers", fn := fun _ => fun
  | [d1, d2, d3] => { results := [.lit (.bool false)], args := [d1, d2, d3] }
  | _ => none }
def FnSemverStrictNumbersWrongFalsely : Prop := fnSemverStrictNumbersRow.holds Tryd.pinned (OpenSpec.ofChange fnSemverStrictNumbersWrong)

/-- 'laws.FnSemverCompareTexts': WHATEVER THE INPUT: true; the input reads as it did. -/
def fnSemverCompareTextsSpec : ChangeSpec := { name := "fnSemverCompareTexts", fn := fun _ => fun
  | [d1, d2] => { results := [.lit (.bool true)], args := [d1, d2] }
  | _ => none }
def fnSemverCompareTextsRow : OpenClaim := { program := "ytopaileliohpdaadoor", sum := "4f4c0269e2606d2dc8524ec802ae86d90ae2efe7c7dd53d20ab799f383412d2f", func := "pub-timebook/laws.FnSemverCompareTexts", spec := "fnSemverCompareTexts", unfollowed := true, recurses := true, named := ["pub-timebook/pub/semver.ErrEmptyString", "pub-timebook/pub/semver.ErrVersionTooLong", "pub-timebook/pub/semver.ErrInvalidSemVer", "pub-timebook/pub/semver.ErrInvalidCharacters", "pub-timebook/pub/semver.ErrSegmentStartsZero", "pub-timebook/pub/semver.ErrInvalidMetadata", "pub-timebook/pub/semver.ErrInvalidPrerelease", "strconv.ErrSyntax", "strconv.ErrRange", "internal/strconv.uint64pow10", "math/bits.deBruijn32tab", "math/bits.deBruijn64tab"], apart := false, laid := [("math/bits.deBruijn32tab", laid_math_bits_deBruijn32tab), ("math/bits.deBruijn64tab", laid_math_bits_deBruijn64tab), ("internal/strconv.uint64pow10", laid_internal_strconv_uint64pow10), ("strconv.ErrRange", laid_strconv_ErrRange), ("strconv.ErrSyntax", laid_strconv_ErrSyntax), ("pub-timebook/pub/semver.ErrInvalidSemVer", laid_pub_timebook_pub_semver_ErrInvalidSemVer), ("pub-timebook/pub/semver.ErrEmptyString", laid_pub_timebook_pub_semver_ErrEmptyString), ("pub-timebook/pub/semver.ErrInvalidCharacters", laid_pub_timebook_pub_semver_ErrInvalidCharacters), ("pub-timebook/pub/semver.ErrSegmentStartsZero", laid_pub_timebook_pub_semver_ErrSegmentStartsZero), ("pub-timebook/pub/semver.ErrInvalidMetadata", laid_pub_timebook_pub_semver_ErrInvalidMetadata), ("pub-timebook/pub/semver.ErrInvalidPrerelease", laid_pub_timebook_pub_semver_ErrInvalidPrerelease), ("pub-timebook/pub/semver.ErrVersionTooLong", laid_pub_timebook_pub_semver_ErrVersionTooLong)] }
def FnSemverCompareTextsSaid : Prop := fnSemverCompareTextsRow.holds Tryd.pinned (OpenSpec.ofChange fnSemverCompareTextsSpec)

/-- ITS FALSE NEIGHBOUR: 'it returns false'. Refute it at one input. -/
def fnSemverCompareTextsWrong : ChangeSpec := { name := "fnSemverCompareTexts", fn := fun _ => fun
  | [d1, d2] => { results := [.lit (.bool false)], args := [d1, d2] }
  | _ => none }
def FnSemverCompareTextsWrongFalsely : Prop := fnSemverCompareTextsRow.holds Tryd.pinned (OpenSpec.ofChange fnSemverCompareTextsWrong)

/- THE SECOND FORM. 'bulk': how many values and letters a reading holds, each counted each time it is reached (what is shared counts as often as it is met; a slice's spare places count too). A statement '..UptoSaid' is the law's where the arguments, and the package variables that the reading takes, are together of bulk at most 1048576: NARROWER than '..Said'. Prove '..Said' where nothing that the law and all that it calls make is longer than what came in: it says more and counts as full. Else prove '..UptoSaid'. A law counts once. -/
mutual
def uptoBulk {H : Type} : DataW H → Nat
  | .lit (.string bytes) => bytes.length + 1
  | .lit _ => 1
  | .nil => 1
  | .ptr d => uptoBulk d + 1
  | .slice elems spare => uptoBulkAll elems + uptoBulkAll spare + 1
  | .agg parts => uptoBulkAll parts + 1
  | .iface _ d => uptoBulk d + 1
  | .map entries => uptoBulkEntries entries + 1
  | .held _ => 1
def uptoBulkAll {H : Type} : List (DataW H) → Nat
  | [] => 0
  | d :: r => uptoBulk d + uptoBulkAll r
def uptoBulkEntries {H : Type} : List (Lit × DataW H) → Nat
  | [] => 0
  | x :: r => uptoBulkEntry x + uptoBulkEntries r
def uptoBulkEntry {H : Type} : Lit × DataW H → Nat
  | (.string bytes, d) => bytes.length + uptoBulk d + 1
  | (_, d) => uptoBulk d + 1
 end
def uptoSmall : (H : Type) → List (DataW H) → Bool := fun _ ds => decide (uptoBulkAll ds ≤ 1048576)
def OpenSpec.upto (s : _root_.Go.ChangeSpec) : _root_.Go.OpenSpec := { _root_.Go.OpenSpec.ofChange s with cond := some uptoSmall }

/-- 'laws.FnSemverSetMeta', WHERE WHAT IT READS IS OF BULK AT MOST 1048576: true; the input reads as it did. -/
def fnSemverSetMetaUptoRow : OpenClaim := { program := "ytopaileliohpdaadoor", sum := "4f4c0269e2606d2dc8524ec802ae86d90ae2efe7c7dd53d20ab799f383412d2f", func := "pub-timebook/laws.FnSemverSetMeta", spec := "fnSemverSetMeta", unfollowed := true, recurses := true, named := ["pub-timebook/pub/semver.ErrInvalidMetadata", "internal/strconv.uint64pow10", "math/bits.deBruijn32tab", "math/bits.deBruijn64tab"], apart := false, laid := [("math/bits.deBruijn32tab", laid_math_bits_deBruijn32tab), ("math/bits.deBruijn64tab", laid_math_bits_deBruijn64tab), ("internal/strconv.uint64pow10", laid_internal_strconv_uint64pow10), ("pub-timebook/pub/semver.ErrInvalidMetadata", laid_pub_timebook_pub_semver_ErrInvalidMetadata)], narrowed := true }
def FnSemverSetMetaUptoSaid : Prop := fnSemverSetMetaUptoRow.holds Tryd.pinned (OpenSpec.upto fnSemverSetMetaSpec)

/-- 'laws.FnSemverPreFirst', WHERE WHAT IT READS IS OF BULK AT MOST 1048576: true; the input reads as it did. -/
def fnSemverPreFirstUptoRow : OpenClaim := { program := "ytopaileliohpdaadoor", sum := "4f4c0269e2606d2dc8524ec802ae86d90ae2efe7c7dd53d20ab799f383412d2f", func := "pub-timebook/laws.FnSemverPreFirst", spec := "fnSemverPreFirst", named := ["strconv.ErrSyntax", "strconv.ErrRange", "internal/strconv.uint64pow10", "math/bits.deBruijn32tab", "math/bits.deBruijn64tab"], apart := false, laid := [("math/bits.deBruijn32tab", laid_math_bits_deBruijn32tab), ("math/bits.deBruijn64tab", laid_math_bits_deBruijn64tab), ("internal/strconv.uint64pow10", laid_internal_strconv_uint64pow10), ("strconv.ErrRange", laid_strconv_ErrRange), ("strconv.ErrSyntax", laid_strconv_ErrSyntax)], narrowed := true }
def FnSemverPreFirstUptoSaid : Prop := fnSemverPreFirstUptoRow.holds Tryd.pinned (OpenSpec.upto fnSemverPreFirstSpec)

/-- 'laws.FnSemverIncMajorLeast', WHERE WHAT IT READS IS OF BULK AT MOST 1048576: true; the input reads as it did. -/
def fnSemverIncMajorLeastUptoRow : OpenClaim := { program := "ytopaileliohpdaadoor", sum := "4f4c0269e2606d2dc8524ec802ae86d90ae2efe7c7dd53d20ab799f383412d2f", func := "pub-timebook/laws.FnSemverIncMajorLeast", spec := "fnSemverIncMajorLeast", named := ["internal/strconv.uint64pow10", "math/bits.deBruijn32tab", "math/bits.deBruijn64tab", "strconv.ErrSyntax", "strconv.ErrRange"], apart := false, laid := [("math/bits.deBruijn32tab", laid_math_bits_deBruijn32tab), ("math/bits.deBruijn64tab", laid_math_bits_deBruijn64tab), ("internal/strconv.uint64pow10", laid_internal_strconv_uint64pow10), ("strconv.ErrRange", laid_strconv_ErrRange), ("strconv.ErrSyntax", laid_strconv_ErrSyntax)], narrowed := true }
def FnSemverIncMajorLeastUptoSaid : Prop := fnSemverIncMajorLeastUptoRow.holds Tryd.pinned (OpenSpec.upto fnSemverIncMajorLeastSpec)

/-- 'laws.FnSemverBelowHolds', WHERE WHAT IT READS IS OF BULK AT MOST 1048576: true; the input reads as it did. -/
def fnSemverBelowHoldsUptoRow : OpenClaim := { program := "ytopaileliohpdaadoor", sum := "4f4c0269e2606d2dc8524ec802ae86d90ae2efe7c7dd53d20ab799f383412d2f", func := "pub-timebook/laws.FnSemverBelowHolds", spec := "fnSemverBelowHolds", named := ["strconv.ErrSyntax", "strconv.ErrRange", "internal/strconv.uint64pow10", "math/bits.deBruijn32tab", "math/bits.deBruijn64tab"], apart := false, laid := [("math/bits.deBruijn32tab", laid_math_bits_deBruijn32tab), ("math/bits.deBruijn64tab", laid_math_bits_deBruijn64tab), ("internal/strconv.uint64pow10", laid_internal_strconv_uint64pow10), ("strconv.ErrRange", laid_strconv_ErrRange), ("strconv.ErrSyntax", laid_strconv_ErrSyntax)], narrowed := true }
def FnSemverBelowHoldsUptoSaid : Prop := fnSemverBelowHoldsUptoRow.holds Tryd.pinned (OpenSpec.upto fnSemverBelowHoldsSpec)

/-- 'laws.FnSemverBelowCompares', WHERE WHAT IT READS IS OF BULK AT MOST 1048576: true; the input reads as it did. -/
def fnSemverBelowComparesUptoRow : OpenClaim := { program := "ytopaileliohpdaadoor", sum := "4f4c0269e2606d2dc8524ec802ae86d90ae2efe7c7dd53d20ab799f383412d2f", func := "pub-timebook/laws.FnSemverBelowCompares", spec := "fnSemverBelowCompares", named := ["strconv.ErrSyntax", "strconv.ErrRange", "internal/strconv.uint64pow10", "math/bits.deBruijn32tab", "math/bits.deBruijn64tab"], apart := false, laid := [("math/bits.deBruijn32tab", laid_math_bits_deBruijn32tab), ("math/bits.deBruijn64tab", laid_math_bits_deBruijn64tab), ("internal/strconv.uint64pow10", laid_internal_strconv_uint64pow10), ("strconv.ErrRange", laid_strconv_ErrRange), ("strconv.ErrSyntax", laid_strconv_ErrSyntax)], narrowed := true }
def FnSemverBelowComparesUptoSaid : Prop := fnSemverBelowComparesUptoRow.holds Tryd.pinned (OpenSpec.upto fnSemverBelowComparesSpec)

/-- 'laws.FnSemverAboveInterval', WHERE WHAT IT READS IS OF BULK AT MOST 1048576: true; the input reads as it did. -/
def fnSemverAboveIntervalUptoRow : OpenClaim := { program := "ytopaileliohpdaadoor", sum := "4f4c0269e2606d2dc8524ec802ae86d90ae2efe7c7dd53d20ab799f383412d2f", func := "pub-timebook/laws.FnSemverAboveInterval", spec := "fnSemverAboveInterval", named := ["strconv.ErrSyntax", "strconv.ErrRange", "internal/strconv.uint64pow10", "math/bits.deBruijn32tab", "math/bits.deBruijn64tab"], apart := false, laid := [("math/bits.deBruijn32tab", laid_math_bits_deBruijn32tab), ("math/bits.deBruijn64tab", laid_math_bits_deBruijn64tab), ("internal/strconv.uint64pow10", laid_internal_strconv_uint64pow10), ("strconv.ErrRange", laid_strconv_ErrRange), ("strconv.ErrSyntax", laid_strconv_ErrSyntax)], narrowed := true }
def FnSemverAboveIntervalUptoSaid : Prop := fnSemverAboveIntervalUptoRow.holds Tryd.pinned (OpenSpec.upto fnSemverAboveIntervalSpec)

/-- 'laws.FnSemverStrictNumbers', WHERE WHAT IT READS IS OF BULK AT MOST 1048576: true; the input reads as it did. -/
def fnSemverStrictNumbersUptoRow : OpenClaim := { program := "ytopaileliohpdaadoor", sum := "4f4c0269e2606d2dc8524ec802ae86d90ae2efe7c7dd53d20ab799f383412d2f", func := "pub-timebook/laws.FnSemverStrictNumbers", spec := "fnSemverStrictNumbers", unfollowed := true, recurses := true, named := ["pub-timebook/pub/semver.ErrEmptyString", "pub-timebook/pub/semver.ErrVersionTooLong", "pub-timebook/pub/semver.ErrInvalidSemVer", "pub-timebook/pub/semver.ErrInvalidCharacters", "pub-timebook/pub/semver.ErrSegmentStartsZero", "pub-timebook/pub/semver.ErrInvalidMetadata", "pub-timebook/pub/semver.ErrInvalidPrerelease", "strconv.ErrSyntax", "strconv.ErrRange", "internal/strconv.uint64pow10", "math/bits.deBruijn32tab", "math/bits.deBruijn64tab"], apart := false, laid := [("math/bits.deBruijn32tab", laid_math_bits_deBruijn32tab), ("math/bits.deBruijn64tab", laid_math_bits_deBruijn64tab), ("internal/strconv.uint64pow10", laid_internal_strconv_uint64pow10), ("strconv.ErrRange", laid_strconv_ErrRange), ("strconv.ErrSyntax", laid_strconv_ErrSyntax), ("pub-timebook/pub/semver.ErrInvalidSemVer", laid_pub_timebook_pub_semver_ErrInvalidSemVer), ("pub-timebook/pub/semver.ErrEmptyString", laid_pub_timebook_pub_semver_ErrEmptyString), ("pub-timebook/pub/semver.ErrInvalidCharacters", laid_pub_timebook_pub_semver_ErrInvalidCharacters), ("pub-timebook/pub/semver.ErrSegmentStartsZero", laid_pub_timebook_pub_semver_ErrSegmentStartsZero), ("pub-timebook/pub/semver.ErrInvalidMetadata", laid_pub_timebook_pub_semver_ErrInvalidMetadata), ("pub-timebook/pub/semver.ErrInvalidPrerelease", laid_pub_timebook_pub_semver_ErrInvalidPrerelease), ("pub-timebook/pub/semver.ErrVersionTooLong", laid_pub_timebook_pub_semver_ErrVersionTooLong)], narrowed := true }
def FnSemverStrictNumbersUptoSaid : Prop := fnSemverStrictNumbersUptoRow.holds Tryd.pinned (OpenSpec.upto fnSemverStrictNumbersSpec)

/-- 'laws.FnSemverCompareTexts', WHERE WHAT IT READS IS OF BULK AT MOST 1048576: true; the input reads as it did. -/
def fnSemverCompareTextsUptoRow : OpenClaim := { program := "ytopaileliohpdaadoor", sum := "4f4c0269e2606d2dc8524ec802ae86d90ae2efe7c7dd53d20ab799f383412d2f", func := "pub-timebook/laws.FnSemverCompareTexts", spec := "fnSemverCompareTexts", unfollowed := true, recurses := true, named := ["pub-timebook/pub/semver.ErrEmptyString", "pub-timebook/pub/semver.ErrVersionTooLong", "pub-timebook/pub/semver.ErrInvalidSemVer", "pub-timebook/pub/semver.ErrInvalidCharacters", "pub-timebook/pub/semver.ErrSegmentStartsZero", "pub-timebook/pub/semver.ErrInvalidMetadata", "pub-timebook/pub/semver.ErrInvalidPrerelease", "strconv.ErrSyntax", "strconv.ErrRange", "internal/strconv.uint64pow10", "math/bits.deBruijn32tab", "math/bits.deBruijn64tab"], apart := false, laid := [("math/bits.deBruijn32tab", laid_math_bits_deBruijn32tab), ("math/bits.deBruijn64tab", laid_math_bits_deBruijn64tab), ("internal/strconv.uint64pow10", laid_internal_strconv_uint64pow10), ("strconv.ErrRange", laid_strconv_ErrRange), ("strconv.ErrSyntax", laid_strconv_ErrSyntax), ("pub-timebook/pub/semver.ErrInvalidSemVer", laid_pub_timebook_pub_semver_ErrInvalidSemVer), ("pub-timebook/pub/semver.ErrEmptyString", laid_pub_timebook_pub_semver_ErrEmptyString), ("pub-timebook/pub/semver.ErrInvalidCharacters", laid_pub_timebook_pub_semver_ErrInvalidCharacters), ("pub-timebook/pub/semver.ErrSegmentStartsZero", laid_pub_timebook_pub_semver_ErrSegmentStartsZero), ("pub-timebook/pub/semver.ErrInvalidMetadata", laid_pub_timebook_pub_semver_ErrInvalidMetadata), ("pub-timebook/pub/semver.ErrInvalidPrerelease", laid_pub_timebook_pub_semver_ErrInvalidPrerelease), ("pub-timebook/pub/semver.ErrVersionTooLong", laid_pub_timebook_pub_semver_ErrVersionTooLong)], narrowed := true }
def FnSemverCompareTextsUptoSaid : Prop := fnSemverCompareTextsUptoRow.holds Tryd.pinned (OpenSpec.upto fnSemverCompareTextsSpec)

end Rows
end Go.Proofs.YtopaileliohpdaaDoor
