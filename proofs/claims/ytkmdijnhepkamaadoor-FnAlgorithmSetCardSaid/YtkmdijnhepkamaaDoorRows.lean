/-
  NARROWER THAN 'FOR EVERY INPUT', by the rows' own cells (each row's printed sentence says how): FnAlgorithmSet: laid · FnSemverMetaKind: laid · FnSemverKindsChecks: laid · FnSemverSetMeta: laid · FnCronDescriptor: laid · FnCronNumberJoined: laid.
  DERIVED. THE GIVEN ROWS OF THIS SEAT. 6 by the template 'for every input the law returns true; each argument reads behind the call as it read before'; 0 by the template 'total and deterministic' (their statements: YtkmdijnhepkamaaDoorTotals.lean).
  GIVEN WITH THE SEED: the statements are not yours to turn. If you find one false, say at which input.
  Laid BY PROGRAM, IN A SANDBOX (cutbox-rows.mjs): the forced cells as the released guide's own fill.sh prints them over the translation dfa77c68cce1ba24… (all of the seat's roots in one cut). By AI agents, Wed Nov 11 2026. No macro, syntax, notation, axiom, sorry.
-/
import Derived.Test.YtkmdijnhepkamaaDoorChecked
import GoSem.Claim
import GoSem.ClaimJoined
import GoSem.ClaimMapViews
import Derived.JoinedTies
import Derived.KernelRfl
namespace Go.Proofs.YtkmdijnhepkamaaDoor
/- THE CELL 'sum', in the pinned program and in every row, IS THE sha256 OF THE DUMP (.gsa) THAT YtkmdijnhepkamaaDoorProg.lean LOADS. Nothing in Lean hashes anything: it is a label: what it is worth is what the hold of that sum in a sandbox is worth. -/
noncomputable def Tryd.pinned : Pinned := { name := "ytkmdijnhepkamaadoor", sum := "dfa77c68cce1ba244a461a7eb1b67d462a507c566768e13484db8340f25332aa", checked := Tryd.checked }
namespace Rows
def none {H : Type} : Left H := { results := [], args := [] }

/- WHAT THE LISTED PACKAGE-LEVEL VARIABLES READ AS WHEN THE CALL BEGINS. Each datum BY PROGRAM (the guide's laid-datum.mjs) off the statement by which the dump's own 'gosem.cut.vars' lays the variable. In a bare row this is a premise. The card (YtkmdijnhepkamaaDoorCards.lean) ties it to the program's text. -/
def laid_pub_timebook_pub_godigest_ErrDigestInvalidFormat {H : Type} : DataW H := .iface "*errors.errorString" (.ptr (.agg [.lit (.string [105, 110, 118, 97, 108, 105, 100, 32, 99, 104, 101, 99, 107, 115, 117, 109, 32, 100, 105, 103, 101, 115, 116, 32, 102, 111, 114, 109, 97, 116])]))
def laid_pub_timebook_pub_godigest_ErrDigestInvalidLength {H : Type} : DataW H := .iface "*errors.errorString" (.ptr (.agg [.lit (.string [105, 110, 118, 97, 108, 105, 100, 32, 99, 104, 101, 99, 107, 115, 117, 109, 32, 100, 105, 103, 101, 115, 116, 32, 108, 101, 110, 103, 116, 104])]))
def laid_pub_timebook_pub_godigest_ErrDigestUnsupported {H : Type} : DataW H := .iface "*errors.errorString" (.ptr (.agg [.lit (.string [117, 110, 115, 117, 112, 112, 111, 114, 116, 101, 100, 32, 100, 105, 103, 101, 115, 116, 32, 97, 108, 103, 111, 114, 105, 116, 104, 109])]))
def laid_pub_timebook_pub_reference_ErrReferenceInvalidFormat {H : Type} : DataW H := .iface "*errors.errorString" (.ptr (.agg [.lit (.string [105, 110, 118, 97, 108, 105, 100, 32, 114, 101, 102, 101, 114, 101, 110, 99, 101, 32, 102, 111, 114, 109, 97, 116])]))
def laid_pub_timebook_pub_reference_ErrTagInvalidFormat {H : Type} : DataW H := .iface "*errors.errorString" (.ptr (.agg [.lit (.string [105, 110, 118, 97, 108, 105, 100, 32, 116, 97, 103, 32, 102, 111, 114, 109, 97, 116])]))
def laid_pub_timebook_pub_reference_ErrDigestInvalidFormat {H : Type} : DataW H := .iface "*errors.errorString" (.ptr (.agg [.lit (.string [105, 110, 118, 97, 108, 105, 100, 32, 100, 105, 103, 101, 115, 116, 32, 102, 111, 114, 109, 97, 116])]))
def laid_pub_timebook_pub_reference_ErrNameContainsUppercase {H : Type} : DataW H := .iface "*errors.errorString" (.ptr (.agg [.lit (.string [114, 101, 112, 111, 115, 105, 116, 111, 114, 121, 32, 110, 97, 109, 101, 32, 109, 117, 115, 116, 32, 98, 101, 32, 108, 111, 119, 101, 114, 99, 97, 115, 101])]))
def laid_pub_timebook_pub_reference_ErrNameEmpty {H : Type} : DataW H := .iface "*errors.errorString" (.ptr (.agg [.lit (.string [114, 101, 112, 111, 115, 105, 116, 111, 114, 121, 32, 110, 97, 109, 101, 32, 109, 117, 115, 116, 32, 104, 97, 118, 101, 32, 97, 116, 32, 108, 101, 97, 115, 116, 32, 111, 110, 101, 32, 99, 111, 109, 112, 111, 110, 101, 110, 116])]))
def laid_pub_timebook_pub_reference_ErrNameTooLong {H : Type} : DataW H := .iface "*errors.errorString" (.ptr (.agg [.lit (.string [114, 101, 112, 111, 115, 105, 116, 111, 114, 121, 32, 110, 97, 109, 101, 32, 109, 117, 115, 116, 32, 110, 111, 116, 32, 98, 101, 32, 109, 111, 114, 101, 32, 116, 104, 97, 110, 32, 50, 53, 53, 32, 99, 104, 97, 114, 97, 99, 116, 101, 114, 115])]))
def laid_pub_timebook_pub_reference_ErrNameNotCanonical {H : Type} : DataW H := .iface "*errors.errorString" (.ptr (.agg [.lit (.string [114, 101, 112, 111, 115, 105, 116, 111, 114, 121, 32, 110, 97, 109, 101, 32, 109, 117, 115, 116, 32, 98, 101, 32, 99, 97, 110, 111, 110, 105, 99, 97, 108])]))
def laid_pub_timebook_pub_semver_ErrConstraintTooLong {H : Type} : DataW H := .iface "*errors.errorString" (.ptr (.agg [.lit (.string [99, 111, 110, 115, 116, 114, 97, 105, 110, 116, 32, 115, 116, 114, 105, 110, 103, 32, 105, 115, 32, 116, 111, 111, 32, 108, 111, 110, 103, 32, 40, 109, 97, 120, 32, 53, 49, 50, 32, 98, 121, 116, 101, 115, 41])]))
def laid_pub_timebook_pub_semver_ErrTooManyConstraintGroups {H : Type} : DataW H := .iface "*errors.errorString" (.ptr (.agg [.lit (.string [116, 111, 111, 32, 109, 97, 110, 121, 32, 99, 111, 110, 115, 116, 114, 97, 105, 110, 116, 32, 103, 114, 111, 117, 112, 115, 32, 40, 109, 97, 120, 32, 51, 50, 41])]))
def laid_pub_timebook_pub_semver_ErrInvalidSemVer {H : Type} : DataW H := .iface "*errors.errorString" (.ptr (.agg [.lit (.string [105, 110, 118, 97, 108, 105, 100, 32, 115, 101, 109, 97, 110, 116, 105, 99, 32, 118, 101, 114, 115, 105, 111, 110])]))
def laid_pub_timebook_pub_semver_ErrEmptyString {H : Type} : DataW H := .iface "*errors.errorString" (.ptr (.agg [.lit (.string [118, 101, 114, 115, 105, 111, 110, 32, 115, 116, 114, 105, 110, 103, 32, 101, 109, 112, 116, 121])]))
def laid_pub_timebook_pub_semver_ErrInvalidCharacters {H : Type} : DataW H := .iface "*errors.errorString" (.ptr (.agg [.lit (.string [105, 110, 118, 97, 108, 105, 100, 32, 99, 104, 97, 114, 97, 99, 116, 101, 114, 115, 32, 105, 110, 32, 118, 101, 114, 115, 105, 111, 110])]))
def laid_pub_timebook_pub_semver_ErrSegmentStartsZero {H : Type} : DataW H := .iface "*errors.errorString" (.ptr (.agg [.lit (.string [118, 101, 114, 115, 105, 111, 110, 32, 115, 101, 103, 109, 101, 110, 116, 32, 115, 116, 97, 114, 116, 115, 32, 119, 105, 116, 104, 32, 48])]))
def laid_pub_timebook_pub_semver_ErrInvalidMetadata {H : Type} : DataW H := .iface "*errors.errorString" (.ptr (.agg [.lit (.string [105, 110, 118, 97, 108, 105, 100, 32, 109, 101, 116, 97, 100, 97, 116, 97, 32, 115, 116, 114, 105, 110, 103])]))
def laid_pub_timebook_pub_semver_ErrInvalidPrerelease {H : Type} : DataW H := .iface "*errors.errorString" (.ptr (.agg [.lit (.string [105, 110, 118, 97, 108, 105, 100, 32, 112, 114, 101, 114, 101, 108, 101, 97, 115, 101, 32, 115, 116, 114, 105, 110, 103])]))
def laid_pub_timebook_pub_semver_ErrVersionTooLong {H : Type} : DataW H := .iface "*errors.errorString" (.ptr (.agg [.lit (.string [118, 101, 114, 115, 105, 111, 110, 32, 115, 116, 114, 105, 110, 103, 32, 105, 115, 32, 116, 111, 111, 32, 108, 111, 110, 103, 32, 40, 109, 97, 120, 32, 50, 53, 54, 32, 98, 121, 116, 101, 115, 41])]))
def laid_math_bits_deBruijn32tab {H : Type} : DataW H := .agg [.lit (.int .u8 0), .lit (.int .u8 1), .lit (.int .u8 28), .lit (.int .u8 2), .lit (.int .u8 29), .lit (.int .u8 14), .lit (.int .u8 24), .lit (.int .u8 3), .lit (.int .u8 30), .lit (.int .u8 22), .lit (.int .u8 20), .lit (.int .u8 15), .lit (.int .u8 25), .lit (.int .u8 17), .lit (.int .u8 4), .lit (.int .u8 8), .lit (.int .u8 31), .lit (.int .u8 27), .lit (.int .u8 13), .lit (.int .u8 23), .lit (.int .u8 21), .lit (.int .u8 19), .lit (.int .u8 16), .lit (.int .u8 7), .lit (.int .u8 26), .lit (.int .u8 12), .lit (.int .u8 18), .lit (.int .u8 6), .lit (.int .u8 11), .lit (.int .u8 5), .lit (.int .u8 10), .lit (.int .u8 9)]
def laid_math_bits_deBruijn64tab {H : Type} : DataW H := .agg [.lit (.int .u8 0), .lit (.int .u8 1), .lit (.int .u8 56), .lit (.int .u8 2), .lit (.int .u8 57), .lit (.int .u8 49), .lit (.int .u8 28), .lit (.int .u8 3), .lit (.int .u8 61), .lit (.int .u8 58), .lit (.int .u8 42), .lit (.int .u8 50), .lit (.int .u8 38), .lit (.int .u8 29), .lit (.int .u8 17), .lit (.int .u8 4), .lit (.int .u8 62), .lit (.int .u8 47), .lit (.int .u8 59), .lit (.int .u8 36), .lit (.int .u8 45), .lit (.int .u8 43), .lit (.int .u8 51), .lit (.int .u8 22), .lit (.int .u8 53), .lit (.int .u8 39), .lit (.int .u8 33), .lit (.int .u8 30), .lit (.int .u8 24), .lit (.int .u8 18), .lit (.int .u8 12), .lit (.int .u8 5), .lit (.int .u8 63), .lit (.int .u8 55), .lit (.int .u8 48), .lit (.int .u8 27), .lit (.int .u8 60), .lit (.int .u8 41), .lit (.int .u8 37), .lit (.int .u8 16), .lit (.int .u8 46), .lit (.int .u8 35), .lit (.int .u8 44), .lit (.int .u8 21), .lit (.int .u8 52), .lit (.int .u8 32), .lit (.int .u8 23), .lit (.int .u8 11), .lit (.int .u8 54), .lit (.int .u8 26), .lit (.int .u8 40), .lit (.int .u8 15), .lit (.int .u8 34), .lit (.int .u8 20), .lit (.int .u8 31), .lit (.int .u8 10), .lit (.int .u8 25), .lit (.int .u8 14), .lit (.int .u8 19), .lit (.int .u8 9), .lit (.int .u8 13), .lit (.int .u8 8), .lit (.int .u8 7), .lit (.int .u8 6)]
def laid_internal_strconv_uint64pow10 {H : Type} : DataW H := .agg [.lit (.int .u64 1), .lit (.int .u64 10), .lit (.int .u64 100), .lit (.int .u64 1000), .lit (.int .u64 10000), .lit (.int .u64 100000), .lit (.int .u64 1000000), .lit (.int .u64 10000000), .lit (.int .u64 100000000), .lit (.int .u64 1000000000), .lit (.int .u64 10000000000), .lit (.int .u64 100000000000), .lit (.int .u64 1000000000000), .lit (.int .u64 10000000000000), .lit (.int .u64 100000000000000), .lit (.int .u64 1000000000000000), .lit (.int .u64 10000000000000000), .lit (.int .u64 100000000000000000), .lit (.int .u64 1000000000000000000), .lit (.int .u64 10000000000000000000)]
def laid_pub_timebook_pub_gotime_errLeadingInt {H : Type} : DataW H := .iface "*errors.errorString" (.ptr (.agg [.lit (.string [116, 105, 109, 101, 58, 32, 98, 97, 100, 32, 91, 48, 45, 57, 93, 42])]))
def laid_strconv_ErrRange {H : Type} : DataW H := .iface "*errors.errorString" (.ptr (.agg [.lit (.string [118, 97, 108, 117, 101, 32, 111, 117, 116, 32, 111, 102, 32, 114, 97, 110, 103, 101])]))
def laid_strconv_ErrSyntax {H : Type} : DataW H := .iface "*errors.errorString" (.ptr (.agg [.lit (.string [105, 110, 118, 97, 108, 105, 100, 32, 115, 121, 110, 116, 97, 120])]))

/-- 'laws.FnAlgorithmSet': WHATEVER THE INPUT: true; the input reads as it did. -/
def fnAlgorithmSetSpec : ChangeSpec := { name := "fnAlgorithmSet", fn := fun _ => fun
  | [d] => { results := [.lit (.bool true)], args := [d] }
  | _ => none }
def fnAlgorithmSetRow : OpenClaim := { program := "ytkmdijnhepkamaadoor", sum := "dfa77c68cce1ba244a461a7eb1b67d462a507c566768e13484db8340f25332aa", func := "pub-timebook/laws.FnAlgorithmSet", spec := "fnAlgorithmSet", inPlace := ["internal/reflectlite.TypeOf"], unfollowed := true, recurses := true, named := ["pub-timebook/pub/godigest.ErrDigestUnsupported", "pub-timebook/pub/reference.ErrReferenceInvalidFormat", "pub-timebook/pub/reference.ErrTagInvalidFormat", "pub-timebook/pub/reference.ErrDigestInvalidFormat", "pub-timebook/pub/godigest.ErrDigestInvalidFormat", "pub-timebook/pub/reference.ErrNameContainsUppercase", "pub-timebook/pub/reference.ErrNameEmpty", "pub-timebook/pub/reference.ErrNameTooLong", "pub-timebook/pub/reference.ErrNameNotCanonical", "pub-timebook/pub/godigest.ErrDigestInvalidLength"], apart := false, laid := [("pub-timebook/pub/godigest.ErrDigestInvalidFormat", laid_pub_timebook_pub_godigest_ErrDigestInvalidFormat), ("pub-timebook/pub/godigest.ErrDigestInvalidLength", laid_pub_timebook_pub_godigest_ErrDigestInvalidLength), ("pub-timebook/pub/godigest.ErrDigestUnsupported", laid_pub_timebook_pub_godigest_ErrDigestUnsupported), ("pub-timebook/pub/reference.ErrReferenceInvalidFormat", laid_pub_timebook_pub_reference_ErrReferenceInvalidFormat), ("pub-timebook/pub/reference.ErrTagInvalidFormat", laid_pub_timebook_pub_reference_ErrTagInvalidFormat), ("pub-timebook/pub/reference.ErrDigestInvalidFormat", laid_pub_timebook_pub_reference_ErrDigestInvalidFormat), ("pub-timebook/pub/reference.ErrNameContainsUppercase", laid_pub_timebook_pub_reference_ErrNameContainsUppercase), ("pub-timebook/pub/reference.ErrNameEmpty", laid_pub_timebook_pub_reference_ErrNameEmpty), ("pub-timebook/pub/reference.ErrNameTooLong", laid_pub_timebook_pub_reference_ErrNameTooLong), ("pub-timebook/pub/reference.ErrNameNotCanonical", laid_pub_timebook_pub_reference_ErrNameNotCanonical)] }
def FnAlgorithmSetSaid : Prop := fnAlgorithmSetRow.holds Tryd.pinned (OpenSpec.ofChange fnAlgorithmSetSpec)

/-- ITS FALSE NEIGHBOUR: 'it returns false'. Refute it at one input. -/
def fnAlgorithmSetWrong : ChangeSpec := { name := "fnAlgorithmSet", fn := fun _ => fun
  | [d] => { results := [.lit (.bool false)], args := [d] }
  | _ => none }
def FnAlgorithmSetWrongFalsely : Prop := fnAlgorithmSetRow.holds Tryd.pinned (OpenSpec.ofChange fnAlgorithmSetWrong)

/-- 'laws.FnSemverMetaKind': WHATEVER THE INPUT: true; the input reads as it did. -/
def fnSemverMetaKindSpec : ChangeSpec := { name := "fnSemverMetaKind", fn := fun _ => fun
  | [d] => { results := [.lit (.bool true)], args := [d] }
  | _ => none }
def fnSemverMetaKindRow : OpenClaim := { program := "ytkmdijnhepkamaadoor", sum := "dfa77c68cce1ba244a461a7eb1b67d462a507c566768e13484db8340f25332aa", func := "pub-timebook/laws.FnSemverMetaKind", spec := "fnSemverMetaKind", inPlace := ["internal/reflectlite.TypeOf"], unfollowed := true, recurses := true, named := ["pub-timebook/pub/semver.ErrInvalidMetadata", "pub-timebook/pub/semver.ErrEmptyString", "pub-timebook/pub/semver.ErrVersionTooLong", "pub-timebook/pub/semver.ErrInvalidCharacters", "pub-timebook/pub/semver.ErrSegmentStartsZero", "pub-timebook/pub/semver.ErrInvalidPrerelease", "pub-timebook/pub/semver.ErrInvalidSemVer", "pub-timebook/pub/semver.ErrConstraintTooLong", "pub-timebook/pub/semver.ErrTooManyConstraintGroups"], apart := false, laid := [("pub-timebook/pub/semver.ErrConstraintTooLong", laid_pub_timebook_pub_semver_ErrConstraintTooLong), ("pub-timebook/pub/semver.ErrTooManyConstraintGroups", laid_pub_timebook_pub_semver_ErrTooManyConstraintGroups), ("pub-timebook/pub/semver.ErrInvalidSemVer", laid_pub_timebook_pub_semver_ErrInvalidSemVer), ("pub-timebook/pub/semver.ErrEmptyString", laid_pub_timebook_pub_semver_ErrEmptyString), ("pub-timebook/pub/semver.ErrInvalidCharacters", laid_pub_timebook_pub_semver_ErrInvalidCharacters), ("pub-timebook/pub/semver.ErrSegmentStartsZero", laid_pub_timebook_pub_semver_ErrSegmentStartsZero), ("pub-timebook/pub/semver.ErrInvalidMetadata", laid_pub_timebook_pub_semver_ErrInvalidMetadata), ("pub-timebook/pub/semver.ErrInvalidPrerelease", laid_pub_timebook_pub_semver_ErrInvalidPrerelease), ("pub-timebook/pub/semver.ErrVersionTooLong", laid_pub_timebook_pub_semver_ErrVersionTooLong)] }
def FnSemverMetaKindSaid : Prop := fnSemverMetaKindRow.holds Tryd.pinned (OpenSpec.ofChange fnSemverMetaKindSpec)

/-- ITS FALSE NEIGHBOUR: 'it returns false'. Refute it at one input. -/
def fnSemverMetaKindWrong : ChangeSpec := { name := "fnSemverMetaKind", fn := fun _ => fun
  | [d] => { results := [.lit (.bool false)], args := [d] }
  | _ => none }
def FnSemverMetaKindWrongFalsely : Prop := fnSemverMetaKindRow.holds Tryd.pinned (OpenSpec.ofChange fnSemverMetaKindWrong)

/-- 'laws.FnSemverKindsChecks': WHATEVER THE INPUT: true; the input reads as it did. -/
def fnSemverKindsChecksSpec : ChangeSpec := { name := "fnSemverKindsChecks", fn := fun _ => fun
  | [d] => { results := [.lit (.bool true)], args := [d] }
  | _ => none }
def fnSemverKindsChecksRow : OpenClaim := { program := "ytkmdijnhepkamaadoor", sum := "dfa77c68cce1ba244a461a7eb1b67d462a507c566768e13484db8340f25332aa", func := "pub-timebook/laws.FnSemverKindsChecks", spec := "fnSemverKindsChecks", inPlace := ["internal/reflectlite.TypeOf"], unfollowed := true, recurses := true, named := ["pub-timebook/pub/semver.ErrInvalidPrerelease", "pub-timebook/pub/semver.ErrSegmentStartsZero", "pub-timebook/pub/semver.ErrEmptyString", "pub-timebook/pub/semver.ErrVersionTooLong", "pub-timebook/pub/semver.ErrInvalidCharacters", "pub-timebook/pub/semver.ErrInvalidMetadata", "pub-timebook/pub/semver.ErrInvalidSemVer", "pub-timebook/pub/semver.ErrConstraintTooLong", "pub-timebook/pub/semver.ErrTooManyConstraintGroups"], apart := false, laid := [("pub-timebook/pub/semver.ErrConstraintTooLong", laid_pub_timebook_pub_semver_ErrConstraintTooLong), ("pub-timebook/pub/semver.ErrTooManyConstraintGroups", laid_pub_timebook_pub_semver_ErrTooManyConstraintGroups), ("pub-timebook/pub/semver.ErrInvalidSemVer", laid_pub_timebook_pub_semver_ErrInvalidSemVer), ("pub-timebook/pub/semver.ErrEmptyString", laid_pub_timebook_pub_semver_ErrEmptyString), ("pub-timebook/pub/semver.ErrInvalidCharacters", laid_pub_timebook_pub_semver_ErrInvalidCharacters), ("pub-timebook/pub/semver.ErrSegmentStartsZero", laid_pub_timebook_pub_semver_ErrSegmentStartsZero), ("pub-timebook/pub/semver.ErrInvalidMetadata", laid_pub_timebook_pub_semver_ErrInvalidMetadata), ("pub-timebook/pub/semver.ErrInvalidPrerelease", laid_pub_timebook_pub_semver_ErrInvalidPrerelease), ("pub-timebook/pub/semver.ErrVersionTooLong", laid_pub_timebook_pub_semver_ErrVersionTooLong)] }
def FnSemverKindsChecksSaid : Prop := fnSemverKindsChecksRow.holds Tryd.pinned (OpenSpec.ofChange fnSemverKindsChecksSpec)

/-- ITS FALSE NEIGHBOUR: 'it returns false'. Refute it at one input. -/
def fnSemverKindsChecksWrong : ChangeSpec := { name := "fnSemverKindsChecks", fn := fun _ => fun
  | [d] => { results := [.lit (.bool false)], args := [d] }
  | _ => none }
def FnSemverKindsChecksWrongFalsely : Prop := fnSemverKindsChecksRow.holds Tryd.pinned (OpenSpec.ofChange fnSemverKindsChecksWrong)

/-- 'laws.FnSemverSetMeta': WHATEVER THE INPUT: true; the input reads as it did. -/
def fnSemverSetMetaSpec : ChangeSpec := { name := "fnSemverSetMeta", fn := fun _ => fun
  | [d1, d2] => { results := [.lit (.bool true)], args := [d1, d2] }
  | _ => none }
def fnSemverSetMetaRow : OpenClaim := { program := "ytkmdijnhepkamaadoor", sum := "dfa77c68cce1ba244a461a7eb1b67d462a507c566768e13484db8340f25332aa", func := "pub-timebook/laws.FnSemverSetMeta", spec := "fnSemverSetMeta", unfollowed := true, recurses := true, named := ["pub-timebook/pub/semver.ErrInvalidMetadata", "internal/strconv.uint64pow10", "math/bits.deBruijn32tab", "math/bits.deBruijn64tab"], apart := false, laid := [("math/bits.deBruijn32tab", laid_math_bits_deBruijn32tab), ("math/bits.deBruijn64tab", laid_math_bits_deBruijn64tab), ("internal/strconv.uint64pow10", laid_internal_strconv_uint64pow10), ("pub-timebook/pub/semver.ErrInvalidMetadata", laid_pub_timebook_pub_semver_ErrInvalidMetadata)] }
def FnSemverSetMetaSaid : Prop := fnSemverSetMetaRow.holds Tryd.pinned (OpenSpec.ofChange fnSemverSetMetaSpec)

/-- ITS FALSE NEIGHBOUR: 'it returns false'. Refute it at one input. -/
def fnSemverSetMetaWrong : ChangeSpec := { name := "fnSemverSetMeta", fn := fun _ => fun
  | [d1, d2] => { results := [.lit (.bool false)], args := [d1, d2] }
  | _ => none }
def FnSemverSetMetaWrongFalsely : Prop := fnSemverSetMetaRow.holds Tryd.pinned (OpenSpec.ofChange fnSemverSetMetaWrong)

/-- 'laws.FnCronDescriptor': WHATEVER THE INPUT: true; the input reads as it did. -/
def fnCronDescriptorSpec : ChangeSpec := { name := "fnCronDescriptor", fn := fun _ => fun
  | [d] => { results := [.lit (.bool true)], args := [d] }
  | _ => none }
def fnCronDescriptorRow : OpenClaim := { program := "ytkmdijnhepkamaadoor", sum := "dfa77c68cce1ba244a461a7eb1b67d462a507c566768e13484db8340f25332aa", func := "pub-timebook/laws.FnCronDescriptor", spec := "fnCronDescriptor", recurses := true, named := ["pub-timebook/pub/gotime.errLeadingInt"], apart := false, laid := [("pub-timebook/pub/gotime.errLeadingInt", laid_pub_timebook_pub_gotime_errLeadingInt)] }
def FnCronDescriptorSaid : Prop := fnCronDescriptorRow.holds Tryd.pinned (OpenSpec.ofChange fnCronDescriptorSpec)

/-- ITS FALSE NEIGHBOUR: 'it returns false'. Refute it at one input. -/
def fnCronDescriptorWrong : ChangeSpec := { name := "fnCronDescriptor", fn := fun _ => fun
  | [d] => { results := [.lit (.bool false)], args := [d] }
  | _ => none }
def FnCronDescriptorWrongFalsely : Prop := fnCronDescriptorRow.holds Tryd.pinned (OpenSpec.ofChange fnCronDescriptorWrong)

/-- 'laws.FnCronNumberJoined': WHATEVER THE INPUT: true; the input reads as it did. -/
def fnCronNumberJoinedSpec : ChangeSpec := { name := "fnCronNumberJoined", fn := fun _ => fun
  | [d1, d2] => { results := [.lit (.bool true)], args := [d1, d2] }
  | _ => none }
def fnCronNumberJoinedRow : OpenClaim := { program := "ytkmdijnhepkamaadoor", sum := "dfa77c68cce1ba244a461a7eb1b67d462a507c566768e13484db8340f25332aa", func := "pub-timebook/laws.FnCronNumberJoined", spec := "fnCronNumberJoined", named := ["strconv.ErrSyntax", "strconv.ErrRange", "internal/strconv.uint64pow10", "math/bits.deBruijn32tab", "math/bits.deBruijn64tab"], apart := false, laid := [("math/bits.deBruijn32tab", laid_math_bits_deBruijn32tab), ("math/bits.deBruijn64tab", laid_math_bits_deBruijn64tab), ("internal/strconv.uint64pow10", laid_internal_strconv_uint64pow10), ("strconv.ErrRange", laid_strconv_ErrRange), ("strconv.ErrSyntax", laid_strconv_ErrSyntax)] }
def FnCronNumberJoinedSaid : Prop := fnCronNumberJoinedRow.holds Tryd.pinned (OpenSpec.ofChange fnCronNumberJoinedSpec)

/-- ITS FALSE NEIGHBOUR: 'it returns false'. Refute it at one input. -/
def fnCronNumberJoinedWrong : ChangeSpec := { name := "fnCronNumberJoined", fn := fun _ => fun
  | [d1, d2] => { results := [.lit (.bool false)], args := [d1, d2] }
  | _ => none }
def FnCronNumberJoinedWrongFalsely : Prop := fnCronNumberJoinedRow.holds Tryd.pinned (OpenSpec.ofChange fnCronNumberJoinedWrong)

/- THE SECOND FORM. 'bulk': how many values and letters a reading holds, each counted each time it is reached (what is shared counts as often as it is met; a slice's spare places count too). A statement '..UptoSaid' is the law's where the arguments, and the package variables that the reading takes, are together of bulk at most 1048576: NARROWER than '..Said'. Prove '..Said' where nothing that the law and all that it calls make is longer than what came in: it says more and counts as full. Else prove '..UptoSaid'. A law counts once. -/
mutual
def uptoBulk {H : Type} : DataW H → Nat
  | .lit (.string bytes) => bytes.length + 1
  | .lit _ => 1
  | .nil => 1
  | .ptr d => uptoBulk d + 1
  | .slice elems spare => uptoBulkAll elems + uptoBulkAll spare + 1
  | .agg parts => uptoBulkAll parts + 1
  | .iface _ d => uptoBulk d + 1
  | .map entries => uptoBulkEntries entries + 1
  | .held _ => 1
def uptoBulkAll {H : Type} : List (DataW H) → Nat
  | [] => 0
  | d :: r => uptoBulk d + uptoBulkAll r
def uptoBulkEntries {H : Type} : List (Lit × DataW H) → Nat
  | [] => 0
  | x :: r => uptoBulkEntry x + uptoBulkEntries r
def uptoBulkEntry {H : Type} : Lit × DataW H → Nat
  | (.string bytes, d) => bytes.length + uptoBulk d + 1
  | (_, d) => uptoBulk d + 1
 end
def uptoSmall : (H : Type) → List (DataW H) → Bool := fun _ ds => decide (uptoBulkAll ds ≤ 1048576)
def OpenSpec.upto (s : _root_.Go.ChangeSpec) : _root_.Go.OpenSpec := { _root_.Go.OpenSpec.ofChange s with cond := some uptoSmall }

/-- 'laws.FnAlgorithmSet', WHERE WHAT IT READS IS OF BULK AT MOST 1048576: true; the input reads as it did. -/
def fnAlgorithmSetUptoRow : OpenClaim := { program := "ytkmdijnhepkamaadoor", sum := "dfa77c68cce1ba244a461a7eb1b67d462a507c566768e13484db8340f25332aa", func := "pub-timebook/laws.FnAlgorithmSet", spec := "fnAlgorithmSet", inPlace := ["internal/reflectlite.TypeOf"], unfollowed := true, recurses := true, named := ["pub-timebook/pub/godigest.ErrDigestUnsupported", "pub-timebook/pub/reference.ErrReferenceInvalidFormat", "pub-timebook/pub/reference.ErrTagInvalidFormat", "pub-timebook/pub/reference.ErrDigestInvalidFormat", "pub-timebook/pub/godigest.ErrDigestInvalidFormat", "pub-timebook/pub/reference.ErrNameContainsUppercase", "pub-timebook/pub/reference.ErrNameEmpty", "pub-timebook/pub/reference.ErrNameTooLong", "pub-timebook/pub/reference.ErrNameNotCanonical", "pub-timebook/pub/godigest.ErrDigestInvalidLength"], apart := false, laid := [("pub-timebook/pub/godigest.ErrDigestInvalidFormat", laid_pub_timebook_pub_godigest_ErrDigestInvalidFormat), ("pub-timebook/pub/godigest.ErrDigestInvalidLength", laid_pub_timebook_pub_godigest_ErrDigestInvalidLength), ("pub-timebook/pub/godigest.ErrDigestUnsupported", laid_pub_timebook_pub_godigest_ErrDigestUnsupported), ("pub-timebook/pub/reference.ErrReferenceInvalidFormat", laid_pub_timebook_pub_reference_ErrReferenceInvalidFormat), ("pub-timebook/pub/reference.ErrTagInvalidFormat", laid_pub_timebook_pub_reference_ErrTagInvalidFormat), ("pub-timebook/pub/reference.ErrDigestInvalidFormat", laid_pub_timebook_pub_reference_ErrDigestInvalidFormat), ("pub-timebook/pub/reference.ErrNameContainsUppercase", laid_pub_timebook_pub_reference_ErrNameContainsUppercase), ("pub-timebook/pub/reference.ErrNameEmpty", laid_pub_timebook_pub_reference_ErrNameEmpty), ("pub-timebook/pub/reference.ErrNameTooLong", laid_pub_timebook_pub_reference_ErrNameTooLong), ("pub-timebook/pub/reference.ErrNameNotCanonical", laid_pub_timebook_pub_reference_ErrNameNotCanonical)], narrowed := true }
def FnAlgorithmSetUptoSaid : Prop := fnAlgorithmSetUptoRow.holds Tryd.pinned (OpenSpec.upto fnAlgorithmSetSpec)

/-- 'laws.FnSemverMetaKind', WHERE WHAT IT READS IS OF BULK AT MOST 1048576: true; the input reads as it did. -/
def fnSemverMetaKindUptoRow : OpenClaim := { program := "ytkmdijnhepkamaadoor", sum := "dfa77c68cce1ba244a461a7eb1b67d462a507c566768e13484db8340f25332aa", func := "pub-timebook/laws.FnSemverMetaKind", spec := "fnSemverMetaKind", inPlace := ["internal/reflectlite.TypeOf"], unfollowed := true, recurses := true, named := ["pub-timebook/pub/semver.ErrInvalidMetadata", "pub-timebook/pub/semver.ErrEmptyString", "pub-timebook/pub/semver.ErrVersionTooLong", "pub-timebook/pub/semver.ErrInvalidCharacters", "pub-timebook/pub/semver.ErrSegmentStartsZero", "pub-timebook/pub/semver.ErrInvalidPrerelease", "pub-timebook/pub/semver.ErrInvalidSemVer", "pub-timebook/pub/semver.ErrConstraintTooLong", "pub-timebook/pub/semver.ErrTooManyConstraintGroups"], apart := false, laid := [("pub-timebook/pub/semver.ErrConstraintTooLong", laid_pub_timebook_pub_semver_ErrConstraintTooLong), ("pub-timebook/pub/semver.ErrTooManyConstraintGroups", laid_pub_timebook_pub_semver_ErrTooManyConstraintGroups), ("pub-timebook/pub/semver.ErrInvalidSemVer", laid_pub_timebook_pub_semver_ErrInvalidSemVer), ("pub-timebook/pub/semver.ErrEmptyString", laid_pub_timebook_pub_semver_ErrEmptyString), ("pub-timebook/pub/semver.ErrInvalidCharacters", laid_pub_timebook_pub_semver_ErrInvalidCharacters), ("pub-timebook/pub/semver.ErrSegmentStartsZero", laid_pub_timebook_pub_semver_ErrSegmentStartsZero), ("pub-timebook/pub/semver.ErrInvalidMetadata", laid_pub_timebook_pub_semver_ErrInvalidMetadata), ("pub-timebook/pub/semver.ErrInvalidPrerelease", laid_pub_timebook_pub_semver_ErrInvalidPrerelease), ("pub-timebook/pub/semver.ErrVersionTooLong", laid_pub_timebook_pub_semver_ErrVersionTooLong)], narrowed := true }
def FnSemverMetaKindUptoSaid : Prop := fnSemverMetaKindUptoRow.holds Tryd.pinned (OpenSpec.upto fnSemverMetaKindSpec)

/-- 'laws.FnSemverKindsChecks', WHERE WHAT IT READS IS OF BULK AT MOST 1048576: true; the input reads as it did. -/
def fnSemverKindsChecksUptoRow : OpenClaim := { program := "ytkmdijnhepkamaadoor", sum := "dfa77c68cce1ba244a461a7eb1b67d462a507c566768e13484db8340f25332aa", func := "pub-timebook/laws.FnSemverKindsChecks", spec := "fnSemverKindsChecks", inPlace := ["internal/reflectlite.TypeOf"], unfollowed := true, recurses := true, named := ["pub-timebook/pub/semver.ErrInvalidPrerelease", "pub-timebook/pub/semver.ErrSegmentStartsZero", "pub-timebook/pub/semver.ErrEmptyString", "pub-timebook/pub/semver.ErrVersionTooLong", "pub-timebook/pub/semver.ErrInvalidCharacters", "pub-timebook/pub/semver.ErrInvalidMetadata", "pub-timebook/pub/semver.ErrInvalidSemVer", "pub-timebook/pub/semver.ErrConstraintTooLong", "pub-timebook/pub/semver.ErrTooManyConstraintGroups"], apart := false, laid := [("pub-timebook/pub/semver.ErrConstraintTooLong", laid_pub_timebook_pub_semver_ErrConstraintTooLong), ("pub-timebook/pub/semver.ErrTooManyConstraintGroups", laid_pub_timebook_pub_semver_ErrTooManyConstraintGroups), ("pub-timebook/pub/semver.ErrInvalidSemVer", laid_pub_timebook_pub_semver_ErrInvalidSemVer), ("pub-timebook/pub/semver.ErrEmptyString", laid_pub_timebook_pub_semver_ErrEmptyString), ("pub-timebook/pub/semver.ErrInvalidCharacters", laid_pub_timebook_pub_semver_ErrInvalidCharacters), ("pub-timebook/pub/semver.ErrSegmentStartsZero", laid_pub_timebook_pub_semver_ErrSegmentStartsZero), ("pub-timebook/pub/semver.ErrInvalidMetadata", laid_pub_timebook_pub_semver_ErrInvalidMetadata), ("pub-timebook/pub/semver.ErrInvalidPrerelease", laid_pub_timebook_pub_semver_ErrInvalidPrerelease), ("pub-timebook/pub/semver.ErrVersionTooLong", laid_pub_timebook_pub_semver_ErrVersionTooLong)], narrowed := true }
def FnSemverKindsChecksUptoSaid : Prop := fnSemverKindsChecksUptoRow.holds Tryd.pinned (OpenSpec.upto fnSemverKindsChecksSpec)

/-- 'laws.FnSemverSetMeta', WHERE WHAT IT READS IS OF BULK AT MOST 1048576: true; the input reads as it did. -/
def fnSemverSetMetaUptoRow : OpenClaim := { program := "ytkmdijnhepkamaadoor", sum := "dfa77c68cce1ba244a461a7eb1b67d462a507c566768e13484db8340f25332aa", func := "pub-timebook/laws.FnSemverSetMeta", spec := "fnSemverSetMeta", unfollowed := true, recurses := true, named := ["pub-timebook/pub/semver.ErrInvalidMetadata", "internal/strconv.uint64pow10", "math/bits.deBruijn32tab", "math/bits.deBruijn64tab"], apart := false, laid := [("math/bits.deBruijn32tab", laid_math_bits_deBruijn32tab), ("math/bits.deBruijn64tab", laid_math_bits_deBruijn64tab), ("internal/strconv.uint64pow10", laid_internal_strconv_uint64pow10), ("pub-timebook/pub/semver.ErrInvalidMetadata", laid_pub_timebook_pub_semver_ErrInvalidMetadata)], narrowed := true }
def FnSemverSetMetaUptoSaid : Prop := fnSemverSetMetaUptoRow.holds Tryd.pinned (OpenSpec.upto fnSemverSetMetaSpec)

/-- 'laws.FnCronDescriptor', WHERE WHAT IT READS IS OF BULK AT MOST 1048576: true; the input reads as it did. -/
def fnCronDescriptorUptoRow : OpenClaim := { program := "ytkmdijnhepkamaadoor", sum := "dfa77c68cce1ba244a461a7eb1b67d462a507c566768e13484db8340f25332aa", func := "pub-timebook/laws.FnCronDescriptor", spec := "fnCronDescriptor", recurses := true, named := ["pub-timebook/pub/gotime.errLeadingInt"], apart := false, laid := [("pub-timebook/pub/gotime.errLeadingInt", laid_pub_timebook_pub_gotime_errLeadingInt)], narrowed := true }
def FnCronDescriptorUptoSaid : Prop := fnCronDescriptorUptoRow.holds Tryd.pinned (OpenSpec.upto fnCronDescriptorSpec)

/-- 'laws.FnCronNumberJoined', WHERE WHAT IT READS IS OF BULK AT MOST 1048576: true; the input reads as it did. -/
def fnCronNumberJoinedUptoRow : OpenClaim := { program := "ytkmdijnhepkamaadoor", sum := "dfa77c68cce1ba244a461a7eb1b67d462a507c566768e13484db8340f25332aa", func := "pub-timebook/laws.FnCronNumberJoined", spec := "fnCronNumberJoined", named := ["strconv.ErrSyntax", "strconv.ErrRange", "internal/strconv.uint64pow10", "math/bits.deBruijn32tab", "math/bits.deBruijn64tab"], apart := false, laid := [("math/bits.deBruijn32tab", laid_math_bits_deBruijn32tab), ("math/bits.deBruijn64tab", laid_math_bits_deBruijn64tab), ("internal/strconv.uint64pow10", laid_internal_strconv_uint64pow10), ("strconv.ErrRange", laid_strconv_ErrRange), ("strconv.ErrSyntax", laid_strconv_ErrSyntax)], narrowed := true }
def FnCronNumberJoinedUptoSaid : Prop := fnCronNumberJoinedUptoRow.holds Tryd.pinned (OpenSpec.upto fnCronNumberJoinedSpec)

end Rows
end Go.Proofs.YtkmdijnhepkamaaDoor
