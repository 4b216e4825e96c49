/-
  NARROWER THAN 'FOR EVERY INPUT', by the rows' own cells (each row's printed sentence says how): FnIntersectMany: loops, laid · FnMatches: loops, laid · FnSemver: laid · FnSemverOrder: laid · FnSign: laid · FnSortAgain: laid · FnSortDowngrade: laid · FnSortPaired: laid · FnSortUpgrade: laid · FnVersion: laid · FnIdentLess: laid · FnIdentText: laid · FnBlanks: laid · FnCaret: laid · FnConstraint: loops, laid · FnTextBack: loops, laid · FnIntersect: loops, laid · FnIntersectSet: loops, laid · FnMatchesAny: loops, laid · FnIntersectAny: loops, laid.
  DERIVED. THE GIVEN ROWS OF THIS SEAT. 20 by the template 'for every input the law returns true; each argument reads behind the call as it read before'; 0 by the template 'total and deterministic' (their statements: YtgoeiflddikihaaGreatDoorTotals.lean).
  GIVEN WITH THE SEED: the statements are not yours to turn. If you find one false, say at which input.
  Laid BY PROGRAM, IN A SANDBOX (cutbox-rows.mjs): the forced cells as the released guide's own fill.sh prints them over the translation a0069d0b6c375db3… (all of the seat's roots in one cut). By AI agents, Wed Nov 11 2026. No macro, syntax, notation, axiom, sorry.
-/
import Derived.Test.YtgoeiflddikihaaGreatDoorChecked
import GoSem.Claim
import GoSem.ClaimJoined
import GoSem.ClaimMapViews
import Derived.JoinedTies
import Derived.KernelRfl
namespace Go.Proofs.YtgoeiflddikihaaGreatDoor
/- THE CELL 'sum', in the pinned program and in every row, IS THE sha256 OF THE DUMP (.gsa) THAT YtgoeiflddikihaaGreatDoorProg.lean LOADS. Nothing in Lean hashes anything: it is a label: what it is worth is what the hold of that sum in a sandbox is worth. -/
noncomputable def Tryz.pinned : Pinned := { name := "ytgoeiflddikihaagreatdoor", sum := "a0069d0b6c375db3cfe4438bcc4407d1af6e71073f15a1c5fdcde76a37b36034", checked := Tryz.checked }
namespace Rows
def none {H : Type} : Left H := { results := [], args := [] }

/- WHAT THE LISTED PACKAGE-LEVEL VARIABLES READ AS WHEN THE CALL BEGINS. Each datum BY PROGRAM (the guide's laid-datum.mjs) off the statement by which the dump's own 'gosem.cut.vars' lays the variable. In a bare row this is a premise. The card (YtgoeiflddikihaaGreatDoorCards.lean) ties it to the program's text. -/
def laid_math_bits_deBruijn32tab {H : Type} : DataW H := .agg [.lit (.int .u8 0), .lit (.int .u8 1), .lit (.int .u8 28), .lit (.int .u8 2), .lit (.int .u8 29), .lit (.int .u8 14), .lit (.int .u8 24), .lit (.int .u8 3), .lit (.int .u8 30), .lit (.int .u8 22), .lit (.int .u8 20), .lit (.int .u8 15), .lit (.int .u8 25), .lit (.int .u8 17), .lit (.int .u8 4), .lit (.int .u8 8), .lit (.int .u8 31), .lit (.int .u8 27), .lit (.int .u8 13), .lit (.int .u8 23), .lit (.int .u8 21), .lit (.int .u8 19), .lit (.int .u8 16), .lit (.int .u8 7), .lit (.int .u8 26), .lit (.int .u8 12), .lit (.int .u8 18), .lit (.int .u8 6), .lit (.int .u8 11), .lit (.int .u8 5), .lit (.int .u8 10), .lit (.int .u8 9)]
def laid_math_bits_deBruijn64tab {H : Type} : DataW H := .agg [.lit (.int .u8 0), .lit (.int .u8 1), .lit (.int .u8 56), .lit (.int .u8 2), .lit (.int .u8 57), .lit (.int .u8 49), .lit (.int .u8 28), .lit (.int .u8 3), .lit (.int .u8 61), .lit (.int .u8 58), .lit (.int .u8 42), .lit (.int .u8 50), .lit (.int .u8 38), .lit (.int .u8 29), .lit (.int .u8 17), .lit (.int .u8 4), .lit (.int .u8 62), .lit (.int .u8 47), .lit (.int .u8 59), .lit (.int .u8 36), .lit (.int .u8 45), .lit (.int .u8 43), .lit (.int .u8 51), .lit (.int .u8 22), .lit (.int .u8 53), .lit (.int .u8 39), .lit (.int .u8 33), .lit (.int .u8 30), .lit (.int .u8 24), .lit (.int .u8 18), .lit (.int .u8 12), .lit (.int .u8 5), .lit (.int .u8 63), .lit (.int .u8 55), .lit (.int .u8 48), .lit (.int .u8 27), .lit (.int .u8 60), .lit (.int .u8 41), .lit (.int .u8 37), .lit (.int .u8 16), .lit (.int .u8 46), .lit (.int .u8 35), .lit (.int .u8 44), .lit (.int .u8 21), .lit (.int .u8 52), .lit (.int .u8 32), .lit (.int .u8 23), .lit (.int .u8 11), .lit (.int .u8 54), .lit (.int .u8 26), .lit (.int .u8 40), .lit (.int .u8 15), .lit (.int .u8 34), .lit (.int .u8 20), .lit (.int .u8 31), .lit (.int .u8 10), .lit (.int .u8 25), .lit (.int .u8 14), .lit (.int .u8 19), .lit (.int .u8 9), .lit (.int .u8 13), .lit (.int .u8 8), .lit (.int .u8 7), .lit (.int .u8 6)]
def laid_internal_strconv_uint64pow10 {H : Type} : DataW H := .agg [.lit (.int .u64 1), .lit (.int .u64 10), .lit (.int .u64 100), .lit (.int .u64 1000), .lit (.int .u64 10000), .lit (.int .u64 100000), .lit (.int .u64 1000000), .lit (.int .u64 10000000), .lit (.int .u64 100000000), .lit (.int .u64 1000000000), .lit (.int .u64 10000000000), .lit (.int .u64 100000000000), .lit (.int .u64 1000000000000), .lit (.int .u64 10000000000000), .lit (.int .u64 100000000000000), .lit (.int .u64 1000000000000000), .lit (.int .u64 10000000000000000), .lit (.int .u64 100000000000000000), .lit (.int .u64 1000000000000000000), .lit (.int .u64 10000000000000000000)]
def laid_strconv_ErrRange {H : Type} : DataW H := .iface "*errors.errorString" (.ptr (.agg [.lit (.string [118, 97, 108, 117, 101, 32, 111, 117, 116, 32, 111, 102, 32, 114, 97, 110, 103, 101])]))
def laid_strconv_ErrSyntax {H : Type} : DataW H := .iface "*errors.errorString" (.ptr (.agg [.lit (.string [105, 110, 118, 97, 108, 105, 100, 32, 115, 121, 110, 116, 97, 120])]))

/-- 'laws.FnIntersectMany': WHATEVER THE INPUT: true; the input reads as it did. -/
def fnIntersectManySpec : ChangeSpec := { name := "fnIntersectMany", fn := fun _ => fun
  | [d1, d2] => { results := [.lit (.bool true)], args := [d1, d2] }
  | _ => none }
def fnIntersectManyRow : OpenClaim := { program := "ytgoeiflddikihaagreatdoor", sum := "a0069d0b6c375db3cfe4438bcc4407d1af6e71073f15a1c5fdcde76a37b36034", func := "pub-caravanserai/laws.FnIntersectMany", spec := "fnIntersectMany", unfollowed := true, recurses := true, named := ["strconv.ErrSyntax", "strconv.ErrRange", "internal/strconv.uint64pow10", "math/bits.deBruijn32tab", "math/bits.deBruijn64tab"], loops := true, apart := false, laid := [("math/bits.deBruijn32tab", laid_math_bits_deBruijn32tab), ("math/bits.deBruijn64tab", laid_math_bits_deBruijn64tab), ("internal/strconv.uint64pow10", laid_internal_strconv_uint64pow10), ("strconv.ErrRange", laid_strconv_ErrRange), ("strconv.ErrSyntax", laid_strconv_ErrSyntax)] }
def FnIntersectManySaid : Prop := fnIntersectManyRow.holds Tryz.pinned (OpenSpec.ofChange fnIntersectManySpec)

/-- ITS FALSE NEIGHBOUR: 'it returns false'. Refute it at one input. -/
def fnIntersectManyWrong : ChangeSpec := { name := "fnIntersectMany", fn := fun _ => fun
  | [d1, d2] => { results := [.lit (.bool false)], args := [d1, d2] }
  | _ => none }
def FnIntersectManyWrongFalsely : Prop := fnIntersectManyRow.holds Tryz.pinned (OpenSpec.ofChange fnIntersectManyWrong)

/-- 'laws.FnMatches': WHATEVER THE INPUT: true; the input reads as it did. -/
def fnMatchesSpec : ChangeSpec := { name := "fnMatches", fn := fun _ => fun
  | [d1, d2] => { results := [.lit (.bool true)], args := [d1, d2] }
  | _ => none }
def fnMatchesRow : OpenClaim := { program := "ytgoeiflddikihaagreatdoor", sum := "a0069d0b6c375db3cfe4438bcc4407d1af6e71073f15a1c5fdcde76a37b36034", func := "pub-caravanserai/laws.FnMatches", spec := "fnMatches", unfollowed := true, recurses := true, named := ["strconv.ErrSyntax", "strconv.ErrRange", "internal/strconv.uint64pow10", "math/bits.deBruijn32tab", "math/bits.deBruijn64tab"], loops := true, apart := false, laid := [("math/bits.deBruijn32tab", laid_math_bits_deBruijn32tab), ("math/bits.deBruijn64tab", laid_math_bits_deBruijn64tab), ("internal/strconv.uint64pow10", laid_internal_strconv_uint64pow10), ("strconv.ErrRange", laid_strconv_ErrRange), ("strconv.ErrSyntax", laid_strconv_ErrSyntax)] }
def FnMatchesSaid : Prop := fnMatchesRow.holds Tryz.pinned (OpenSpec.ofChange fnMatchesSpec)

/-- ITS FALSE NEIGHBOUR: 'it returns false'. Refute it at one input. -/
def fnMatchesWrong : ChangeSpec := { name := "fnMatches", fn := fun _ => fun
  | [d1, d2] => { results := [.lit (.bool false)], args := [d1, d2] }
  | _ => none }
def FnMatchesWrongFalsely : Prop := fnMatchesRow.holds Tryz.pinned (OpenSpec.ofChange fnMatchesWrong)

/-- 'laws.FnSemver': WHATEVER THE INPUT: true; the input reads as it did. -/
def fnSemverSpec : ChangeSpec := { name := "fnSemver", fn := fun _ => fun
  | [d] => { results := [.lit (.bool true)], args := [d] }
  | _ => none }
def fnSemverRow : OpenClaim := { program := "ytgoeiflddikihaagreatdoor", sum := "a0069d0b6c375db3cfe4438bcc4407d1af6e71073f15a1c5fdcde76a37b36034", func := "pub-caravanserai/laws.FnSemver", spec := "fnSemver", unfollowed := true, recurses := true, named := ["strconv.ErrSyntax", "strconv.ErrRange", "internal/strconv.uint64pow10", "math/bits.deBruijn32tab", "math/bits.deBruijn64tab"], apart := false, laid := [("math/bits.deBruijn32tab", laid_math_bits_deBruijn32tab), ("math/bits.deBruijn64tab", laid_math_bits_deBruijn64tab), ("internal/strconv.uint64pow10", laid_internal_strconv_uint64pow10), ("strconv.ErrRange", laid_strconv_ErrRange), ("strconv.ErrSyntax", laid_strconv_ErrSyntax)] }
def FnSemverSaid : Prop := fnSemverRow.holds Tryz.pinned (OpenSpec.ofChange fnSemverSpec)

/-- ITS FALSE NEIGHBOUR: 'it returns false'. Refute it at one input. -/
def fnSemverWrong : ChangeSpec := { name := "fnSemver", fn := fun _ => fun
  | [d] => { results := [.lit (.bool false)], args := [d] }
  | _ => none }
def FnSemverWrongFalsely : Prop := fnSemverRow.holds Tryz.pinned (OpenSpec.ofChange fnSemverWrong)

/-- 'laws.FnSemverOrder': WHATEVER THE INPUT: true; the input reads as it did. -/
def fnSemverOrderSpec : ChangeSpec := { name := "fnSemverOrder", fn := fun _ => fun
  | [d1, d2] => { results := [.lit (.bool true)], args := [d1, d2] }
  | _ => none }
def fnSemverOrderRow : OpenClaim := { program := "ytgoeiflddikihaagreatdoor", sum := "a0069d0b6c375db3cfe4438bcc4407d1af6e71073f15a1c5fdcde76a37b36034", func := "pub-caravanserai/laws.FnSemverOrder", spec := "fnSemverOrder", unfollowed := true, recurses := true, named := ["strconv.ErrSyntax", "strconv.ErrRange", "internal/strconv.uint64pow10", "math/bits.deBruijn32tab", "math/bits.deBruijn64tab"], apart := false, laid := [("math/bits.deBruijn32tab", laid_math_bits_deBruijn32tab), ("math/bits.deBruijn64tab", laid_math_bits_deBruijn64tab), ("internal/strconv.uint64pow10", laid_internal_strconv_uint64pow10), ("strconv.ErrRange", laid_strconv_ErrRange), ("strconv.ErrSyntax", laid_strconv_ErrSyntax)] }
def FnSemverOrderSaid : Prop := fnSemverOrderRow.holds Tryz.pinned (OpenSpec.ofChange fnSemverOrderSpec)

/-- ITS FALSE NEIGHBOUR: 'it returns false'. Refute it at one input. -/
def fnSemverOrderWrong : ChangeSpec := { name := "fnSemverOrder", fn := fun _ => fun
  | [d1, d2] => { results := [.lit (.bool false)], args := [d1, d2] }
  | _ => none }
def FnSemverOrderWrongFalsely : Prop := fnSemverOrderRow.holds Tryz.pinned (OpenSpec.ofChange fnSemverOrderWrong)

/-- 'laws.FnSign': WHATEVER THE INPUT: true; the input reads as it did. -/
def fnSignSpec : ChangeSpec := { name := "fnSign", fn := fun _ => fun
  | [d1, d2, d3, d4, d5] => { results := [.lit (.bool true)], args := [d1, d2, d3, d4, d5] }
  | _ => none }
def fnSignRow : OpenClaim := { program := "ytgoeiflddikihaagreatdoor", sum := "a0069d0b6c375db3cfe4438bcc4407d1af6e71073f15a1c5fdcde76a37b36034", func := "pub-caravanserai/laws.FnSign", spec := "fnSign", unfollowed := true, recurses := true, named := ["strconv.ErrSyntax", "strconv.ErrRange", "internal/strconv.uint64pow10", "math/bits.deBruijn32tab", "math/bits.deBruijn64tab"], apart := false, laid := [("math/bits.deBruijn32tab", laid_math_bits_deBruijn32tab), ("math/bits.deBruijn64tab", laid_math_bits_deBruijn64tab), ("internal/strconv.uint64pow10", laid_internal_strconv_uint64pow10), ("strconv.ErrRange", laid_strconv_ErrRange), ("strconv.ErrSyntax", laid_strconv_ErrSyntax)] }
def FnSignSaid : Prop := fnSignRow.holds Tryz.pinned (OpenSpec.ofChange fnSignSpec)

/-- ITS FALSE NEIGHBOUR: 'it returns false'. Refute it at one input. -/
def fnSignWrong : ChangeSpec := { name := "fnSign", fn := fun _ => fun
  | [d1, d2, d3, d4, d5] => { results := [.lit (.bool false)], args := [d1, d2, d3, d4, d5] }
  | _ => none }
def FnSignWrongFalsely : Prop := fnSignRow.holds Tryz.pinned (OpenSpec.ofChange fnSignWrong)

/-- 'laws.FnSortAgain': WHATEVER THE INPUT: true; the input reads as it did. -/
def fnSortAgainSpec : ChangeSpec := { name := "fnSortAgain", fn := fun _ => fun
  | [d1, d2] => { results := [.lit (.bool true)], args := [d1, d2] }
  | _ => none }
def fnSortAgainRow : OpenClaim := { program := "ytgoeiflddikihaagreatdoor", sum := "a0069d0b6c375db3cfe4438bcc4407d1af6e71073f15a1c5fdcde76a37b36034", func := "pub-caravanserai/laws.FnSortAgain", spec := "fnSortAgain", unfollowed := true, recurses := true, named := ["strconv.ErrSyntax", "strconv.ErrRange", "internal/strconv.uint64pow10", "math/bits.deBruijn32tab", "math/bits.deBruijn64tab"], apart := false, laid := [("math/bits.deBruijn32tab", laid_math_bits_deBruijn32tab), ("math/bits.deBruijn64tab", laid_math_bits_deBruijn64tab), ("internal/strconv.uint64pow10", laid_internal_strconv_uint64pow10), ("strconv.ErrRange", laid_strconv_ErrRange), ("strconv.ErrSyntax", laid_strconv_ErrSyntax)] }
def FnSortAgainSaid : Prop := fnSortAgainRow.holds Tryz.pinned (OpenSpec.ofChange fnSortAgainSpec)

/-- ITS FALSE NEIGHBOUR: 'it returns false'. Refute it at one input. -/
def fnSortAgainWrong : ChangeSpec := { name := "fnSortAgain", fn := fun _ => fun
  | [d1, d2] => { results := [.lit (.bool false)], args := [d1, d2] }
  | _ => none }
def FnSortAgainWrongFalsely : Prop := fnSortAgainRow.holds Tryz.pinned (OpenSpec.ofChange fnSortAgainWrong)

/-- 'laws.FnSortDowngrade': WHATEVER THE INPUT: true; the input reads as it did. -/
def fnSortDowngradeSpec : ChangeSpec := { name := "fnSortDowngrade", fn := fun _ => fun
  | [d] => { results := [.lit (.bool true)], args := [d] }
  | _ => none }
def fnSortDowngradeRow : OpenClaim := { program := "ytgoeiflddikihaagreatdoor", sum := "a0069d0b6c375db3cfe4438bcc4407d1af6e71073f15a1c5fdcde76a37b36034", func := "pub-caravanserai/laws.FnSortDowngrade", spec := "fnSortDowngrade", unfollowed := true, recurses := true, named := ["strconv.ErrSyntax", "strconv.ErrRange", "internal/strconv.uint64pow10", "math/bits.deBruijn32tab", "math/bits.deBruijn64tab"], apart := false, laid := [("math/bits.deBruijn32tab", laid_math_bits_deBruijn32tab), ("math/bits.deBruijn64tab", laid_math_bits_deBruijn64tab), ("internal/strconv.uint64pow10", laid_internal_strconv_uint64pow10), ("strconv.ErrRange", laid_strconv_ErrRange), ("strconv.ErrSyntax", laid_strconv_ErrSyntax)] }
def FnSortDowngradeSaid : Prop := fnSortDowngradeRow.holds Tryz.pinned (OpenSpec.ofChange fnSortDowngradeSpec)

/-- ITS FALSE NEIGHBOUR: 'it returns false'. Refute it at one input. -/
def fnSortDowngradeWrong : ChangeSpec := { name := "fnSortDowngrade", fn := fun _ => fun
  | [d] => { results := [.lit (.bool false)], args := [d] }
  | _ => none }
def FnSortDowngradeWrongFalsely : Prop := fnSortDowngradeRow.holds Tryz.pinned (OpenSpec.ofChange fnSortDowngradeWrong)

/-- 'laws.FnSortPaired': WHATEVER THE INPUT: true; the input reads as it did. -/
def fnSortPairedSpec : ChangeSpec := { name := "fnSortPaired", fn := fun _ => fun
  | [d1, d2] => { results := [.lit (.bool true)], args := [d1, d2] }
  | _ => none }
def fnSortPairedRow : OpenClaim := { program := "ytgoeiflddikihaagreatdoor", sum := "a0069d0b6c375db3cfe4438bcc4407d1af6e71073f15a1c5fdcde76a37b36034", func := "pub-caravanserai/laws.FnSortPaired", spec := "fnSortPaired", unfollowed := true, recurses := true, named := ["strconv.ErrSyntax", "strconv.ErrRange", "internal/strconv.uint64pow10", "math/bits.deBruijn32tab", "math/bits.deBruijn64tab"], apart := false, laid := [("math/bits.deBruijn32tab", laid_math_bits_deBruijn32tab), ("math/bits.deBruijn64tab", laid_math_bits_deBruijn64tab), ("internal/strconv.uint64pow10", laid_internal_strconv_uint64pow10), ("strconv.ErrRange", laid_strconv_ErrRange), ("strconv.ErrSyntax", laid_strconv_ErrSyntax)] }
def FnSortPairedSaid : Prop := fnSortPairedRow.holds Tryz.pinned (OpenSpec.ofChange fnSortPairedSpec)

/-- ITS FALSE NEIGHBOUR: 'it returns false'. Refute it at one input. -/
def fnSortPairedWrong : ChangeSpec := { name := "fnSortPaired", fn := fun _ => fun
  | [d1, d2] => { results := [.lit (.bool false)], args := [d1, d2] }
  | _ => none }
def FnSortPairedWrongFalsely : Prop := fnSortPairedRow.holds Tryz.pinned (OpenSpec.ofChange fnSortPairedWrong)

/-- 'laws.FnSortUpgrade': WHATEVER THE INPUT: true; the input reads as it did. -/
def fnSortUpgradeSpec : ChangeSpec := { name := "fnSortUpgrade", fn := fun _ => fun
  | [d] => { results := [.lit (.bool true)], args := [d] }
  | _ => none }
def fnSortUpgradeRow : OpenClaim := { program := "ytgoeiflddikihaagreatdoor", sum := "a0069d0b6c375db3cfe4438bcc4407d1af6e71073f15a1c5fdcde76a37b36034", func := "pub-caravanserai/laws.FnSortUpgrade", spec := "fnSortUpgrade", unfollowed := true, recurses := true, named := ["strconv.ErrSyntax", "strconv.ErrRange", "internal/strconv.uint64pow10", "math/bits.deBruijn32tab", "math/bits.deBruijn64tab"], apart := false, laid := [("math/bits.deBruijn32tab", laid_math_bits_deBruijn32tab), ("math/bits.deBruijn64tab", laid_math_bits_deBruijn64tab), ("internal/strconv.uint64pow10", laid_internal_strconv_uint64pow10), ("strconv.ErrRange", laid_strconv_ErrRange), ("strconv.ErrSyntax", laid_strconv_ErrSyntax)] }
def FnSortUpgradeSaid : Prop := fnSortUpgradeRow.holds Tryz.pinned (OpenSpec.ofChange fnSortUpgradeSpec)

/-- ITS FALSE NEIGHBOUR: 'it returns false'. Refute it at one input. -/
def fnSortUpgradeWrong : ChangeSpec := { name := "fnSortUpgrade", fn := fun _ => fun
  | [d] => { results := [.lit (.bool false)], args := [d] }
  | _ => none }
def FnSortUpgradeWrongFalsely : Prop := fnSortUpgradeRow.holds Tryz.pinned (OpenSpec.ofChange fnSortUpgradeWrong)

/-- 'laws.FnVersion': WHATEVER THE INPUT: true; the input reads as it did. -/
def fnVersionSpec : ChangeSpec := { name := "fnVersion", fn := fun _ => fun
  | [d] => { results := [.lit (.bool true)], args := [d] }
  | _ => none }
def fnVersionRow : OpenClaim := { program := "ytgoeiflddikihaagreatdoor", sum := "a0069d0b6c375db3cfe4438bcc4407d1af6e71073f15a1c5fdcde76a37b36034", func := "pub-caravanserai/laws.FnVersion", spec := "fnVersion", unfollowed := true, recurses := true, named := ["strconv.ErrSyntax", "strconv.ErrRange", "internal/strconv.uint64pow10", "math/bits.deBruijn32tab", "math/bits.deBruijn64tab"], apart := false, laid := [("math/bits.deBruijn32tab", laid_math_bits_deBruijn32tab), ("math/bits.deBruijn64tab", laid_math_bits_deBruijn64tab), ("internal/strconv.uint64pow10", laid_internal_strconv_uint64pow10), ("strconv.ErrRange", laid_strconv_ErrRange), ("strconv.ErrSyntax", laid_strconv_ErrSyntax)] }
def FnVersionSaid : Prop := fnVersionRow.holds Tryz.pinned (OpenSpec.ofChange fnVersionSpec)

/-- ITS FALSE NEIGHBOUR: 'it returns false'. Refute it at one input. -/
def fnVersionWrong : ChangeSpec := { name := "fnVersion", fn := fun _ => fun
  | [d] => { results := [.lit (.bool false)], args := [d] }
  | _ => none }
def FnVersionWrongFalsely : Prop := fnVersionRow.holds Tryz.pinned (OpenSpec.ofChange fnVersionWrong)

/-- 'laws.FnIdentLess': WHATEVER THE INPUT: true; the input reads as it did. -/
def fnIdentLessSpec : ChangeSpec := { name := "fnIdentLess", fn := fun _ => fun
  | [d1, d2] => { results := [.lit (.bool true)], args := [d1, d2] }
  | _ => none }
def fnIdentLessRow : OpenClaim := { program := "ytgoeiflddikihaagreatdoor", sum := "a0069d0b6c375db3cfe4438bcc4407d1af6e71073f15a1c5fdcde76a37b36034", func := "pub-caravanserai/laws.FnIdentLess", spec := "fnIdentLess", unfollowed := true, recurses := true, named := ["strconv.ErrSyntax", "strconv.ErrRange", "internal/strconv.uint64pow10", "math/bits.deBruijn32tab", "math/bits.deBruijn64tab"], apart := false, laid := [("math/bits.deBruijn32tab", laid_math_bits_deBruijn32tab), ("math/bits.deBruijn64tab", laid_math_bits_deBruijn64tab), ("internal/strconv.uint64pow10", laid_internal_strconv_uint64pow10), ("strconv.ErrRange", laid_strconv_ErrRange), ("strconv.ErrSyntax", laid_strconv_ErrSyntax)] }
def FnIdentLessSaid : Prop := fnIdentLessRow.holds Tryz.pinned (OpenSpec.ofChange fnIdentLessSpec)

/-- ITS FALSE NEIGHBOUR: 'it returns false'. Refute it at one input. -/
def fnIdentLessWrong : ChangeSpec := { name := "fnIdentLess", fn := fun _ => fun
  | [d1, d2] => { results := [.lit (.bool false)], args := [d1, d2] }
  | _ => none }
def FnIdentLessWrongFalsely : Prop := fnIdentLessRow.holds Tryz.pinned (OpenSpec.ofChange fnIdentLessWrong)

/-- 'laws.FnIdentText': WHATEVER THE INPUT: true; the input reads as it did. -/
def fnIdentTextSpec : ChangeSpec := { name := "fnIdentText", fn := fun _ => fun
  | [d] => { results := [.lit (.bool true)], args := [d] }
  | _ => none }
def fnIdentTextRow : OpenClaim := { program := "ytgoeiflddikihaagreatdoor", sum := "a0069d0b6c375db3cfe4438bcc4407d1af6e71073f15a1c5fdcde76a37b36034", func := "pub-caravanserai/laws.FnIdentText", spec := "fnIdentText", unfollowed := true, recurses := true, named := ["strconv.ErrSyntax", "strconv.ErrRange", "internal/strconv.uint64pow10", "math/bits.deBruijn32tab", "math/bits.deBruijn64tab"], apart := false, laid := [("math/bits.deBruijn32tab", laid_math_bits_deBruijn32tab), ("math/bits.deBruijn64tab", laid_math_bits_deBruijn64tab), ("internal/strconv.uint64pow10", laid_internal_strconv_uint64pow10), ("strconv.ErrRange", laid_strconv_ErrRange), ("strconv.ErrSyntax", laid_strconv_ErrSyntax)] }
def FnIdentTextSaid : Prop := fnIdentTextRow.holds Tryz.pinned (OpenSpec.ofChange fnIdentTextSpec)

/-- ITS FALSE NEIGHBOUR: 'it returns false'. Refute it at one input. -/
def fnIdentTextWrong : ChangeSpec := { name := "fnIdentText", fn := fun _ => fun
  | [d] => { results := [.lit (.bool false)], args := [d] }
  | _ => none }
def FnIdentTextWrongFalsely : Prop := fnIdentTextRow.holds Tryz.pinned (OpenSpec.ofChange fnIdentTextWrong)

/-- 'laws.FnBlanks': WHATEVER THE INPUT: true; the input reads as it did. -/
def fnBlanksSpec : ChangeSpec := { name := "fnBlanks", fn := fun _ => fun
  | [d1, d2, d3, d4] => { results := [.lit (.bool true)], args := [d1, d2, d3, d4] }
  | _ => none }
def fnBlanksRow : OpenClaim := { program := "ytgoeiflddikihaagreatdoor", sum := "a0069d0b6c375db3cfe4438bcc4407d1af6e71073f15a1c5fdcde76a37b36034", func := "pub-caravanserai/laws.FnBlanks", spec := "fnBlanks", unfollowed := true, recurses := true, named := ["strconv.ErrSyntax", "strconv.ErrRange", "internal/strconv.uint64pow10", "math/bits.deBruijn32tab", "math/bits.deBruijn64tab"], apart := false, laid := [("math/bits.deBruijn32tab", laid_math_bits_deBruijn32tab), ("math/bits.deBruijn64tab", laid_math_bits_deBruijn64tab), ("internal/strconv.uint64pow10", laid_internal_strconv_uint64pow10), ("strconv.ErrRange", laid_strconv_ErrRange), ("strconv.ErrSyntax", laid_strconv_ErrSyntax)] }
def FnBlanksSaid : Prop := fnBlanksRow.holds Tryz.pinned (OpenSpec.ofChange fnBlanksSpec)

/-- ITS FALSE NEIGHBOUR: 'it returns false'. Refute it at one input. -/
def fnBlanksWrong : ChangeSpec := { name := "fnBlanks", fn := fun _ => fun
  | [d1, d2, d3, d4] => { results := [.lit (.bool false)], args := [d1, d2, d3, d4] }
  | _ => none }
def FnBlanksWrongFalsely : Prop := fnBlanksRow.holds Tryz.pinned (OpenSpec.ofChange fnBlanksWrong)

/-- 'laws.FnCaret': WHATEVER THE INPUT: true; the input reads as it did. -/
def fnCaretSpec : ChangeSpec := { name := "fnCaret", fn := fun _ => fun
  | [d1, d2] => { results := [.lit (.bool true)], args := [d1, d2] }
  | _ => none }
def fnCaretRow : OpenClaim := { program := "ytgoeiflddikihaagreatdoor", sum := "a0069d0b6c375db3cfe4438bcc4407d1af6e71073f15a1c5fdcde76a37b36034", func := "pub-caravanserai/laws.FnCaret", spec := "fnCaret", unfollowed := true, recurses := true, named := ["strconv.ErrSyntax", "strconv.ErrRange", "internal/strconv.uint64pow10", "math/bits.deBruijn32tab", "math/bits.deBruijn64tab"], apart := false, laid := [("math/bits.deBruijn32tab", laid_math_bits_deBruijn32tab), ("math/bits.deBruijn64tab", laid_math_bits_deBruijn64tab), ("internal/strconv.uint64pow10", laid_internal_strconv_uint64pow10), ("strconv.ErrRange", laid_strconv_ErrRange), ("strconv.ErrSyntax", laid_strconv_ErrSyntax)] }
def FnCaretSaid : Prop := fnCaretRow.holds Tryz.pinned (OpenSpec.ofChange fnCaretSpec)

/-- ITS FALSE NEIGHBOUR: 'it returns false'. Refute it at one input. -/
def fnCaretWrong : ChangeSpec := { name := "fnCaret", fn := fun _ => fun
  | [d1, d2] => { results := [.lit (.bool false)], args := [d1, d2] }
  | _ => none }
def FnCaretWrongFalsely : Prop := fnCaretRow.holds Tryz.pinned (OpenSpec.ofChange fnCaretWrong)

/-- 'laws.FnConstraint': WHATEVER THE INPUT: true; the input reads as it did. -/
def fnConstraintSpec : ChangeSpec := { name := "fnConstraint", fn := fun _ => fun
  | [d] => { results := [.lit (.bool true)], args := [d] }
  | _ => none }
def fnConstraintRow : OpenClaim := { program := "ytgoeiflddikihaagreatdoor", sum := "a0069d0b6c375db3cfe4438bcc4407d1af6e71073f15a1c5fdcde76a37b36034", func := "pub-caravanserai/laws.FnConstraint", spec := "fnConstraint", unfollowed := true, recurses := true, named := ["strconv.ErrSyntax", "strconv.ErrRange", "internal/strconv.uint64pow10", "math/bits.deBruijn32tab", "math/bits.deBruijn64tab"], loops := true, apart := false, laid := [("math/bits.deBruijn32tab", laid_math_bits_deBruijn32tab), ("math/bits.deBruijn64tab", laid_math_bits_deBruijn64tab), ("internal/strconv.uint64pow10", laid_internal_strconv_uint64pow10), ("strconv.ErrRange", laid_strconv_ErrRange), ("strconv.ErrSyntax", laid_strconv_ErrSyntax)] }
def FnConstraintSaid : Prop := fnConstraintRow.holds Tryz.pinned (OpenSpec.ofChange fnConstraintSpec)

/-- ITS FALSE NEIGHBOUR: 'it returns false'. Refute it at one input. -/
def fnConstraintWrong : ChangeSpec := { name := "fnConstraint", fn := fun _ => fun
  | [d] => { results := [.lit (.bool false)], args := [d] }
  | _ => none }
def FnConstraintWrongFalsely : Prop := fnConstraintRow.holds Tryz.pinned (OpenSpec.ofChange fnConstraintWrong)

/-- 'laws.FnTextBack': WHATEVER THE INPUT: true; the input reads as it did. -/
def fnTextBackSpec : ChangeSpec := { name := "fnTextBack", fn := fun _ => fun
  | [d1, d2] => { results := [.lit (.bool true)], args := [d1, d2] }
  | _ => none }
def fnTextBackRow : OpenClaim := { program := "ytgoeiflddikihaagreatdoor", sum := "a0069d0b6c375db3cfe4438bcc4407d1af6e71073f15a1c5fdcde76a37b36034", func := "pub-caravanserai/laws.FnTextBack", spec := "fnTextBack", unfollowed := true, recurses := true, named := ["strconv.ErrSyntax", "strconv.ErrRange", "internal/strconv.uint64pow10", "math/bits.deBruijn32tab", "math/bits.deBruijn64tab"], loops := true, apart := false, laid := [("math/bits.deBruijn32tab", laid_math_bits_deBruijn32tab), ("math/bits.deBruijn64tab", laid_math_bits_deBruijn64tab), ("internal/strconv.uint64pow10", laid_internal_strconv_uint64pow10), ("strconv.ErrRange", laid_strconv_ErrRange), ("strconv.ErrSyntax", laid_strconv_ErrSyntax)] }
def FnTextBackSaid : Prop := fnTextBackRow.holds Tryz.pinned (OpenSpec.ofChange fnTextBackSpec)

/-- ITS FALSE NEIGHBOUR: 'it returns false'. Refute it at one input. -/
def fnTextBackWrong : ChangeSpec := { name := "fnTextBack", fn := fun _ => fun
  | [d1, d2] => { results := [.lit (.bool false)], args := [d1, d2] }
  | _ => none }
def FnTextBackWrongFalsely : Prop := fnTextBackRow.holds Tryz.pinned (OpenSpec.ofChange fnTextBackWrong)

/-- 'laws.FnIntersect': WHATEVER THE INPUT: true; the input reads as it did. -/
def fnIntersectSpec : ChangeSpec := { name := "fnIntersect", fn := fun _ => fun
  | [d1, d2, d3] => { results := [.lit (.bool true)], args := [d1, d2, d3] }
  | _ => none }
def fnIntersectRow : OpenClaim := { program := "ytgoeiflddikihaagreatdoor", sum := "a0069d0b6c375db3cfe4438bcc4407d1af6e71073f15a1c5fdcde76a37b36034", func := "pub-caravanserai/laws.FnIntersect", spec := "fnIntersect", unfollowed := true, recurses := true, named := ["strconv.ErrSyntax", "strconv.ErrRange", "internal/strconv.uint64pow10", "math/bits.deBruijn32tab", "math/bits.deBruijn64tab"], loops := true, apart := false, laid := [("math/bits.deBruijn32tab", laid_math_bits_deBruijn32tab), ("math/bits.deBruijn64tab", laid_math_bits_deBruijn64tab), ("internal/strconv.uint64pow10", laid_internal_strconv_uint64pow10), ("strconv.ErrRange", laid_strconv_ErrRange), ("strconv.ErrSyntax", laid_strconv_ErrSyntax)] }
def FnIntersectSaid : Prop := fnIntersectRow.holds Tryz.pinned (OpenSpec.ofChange fnIntersectSpec)

/-- ITS FALSE NEIGHBOUR: 'it returns false'. Refute it at one input. -/
def fnIntersectWrong : ChangeSpec := { name := "fnIntersect", fn := fun _ => fun
  | [d1, d2, d3] => { results := [.lit (.bool false)], args := [d1, d2, d3] }
  | _ => none }
def FnIntersectWrongFalsely : Prop := fnIntersectRow.holds Tryz.pinned (OpenSpec.ofChange fnIntersectWrong)

/-- 'laws.FnIntersectSet': WHATEVER THE INPUT: true; the input reads as it did. -/
def fnIntersectSetSpec : ChangeSpec := { name := "fnIntersectSet", fn := fun _ => fun
  | [d1, d2, d3] => { results := [.lit (.bool true)], args := [d1, d2, d3] }
  | _ => none }
def fnIntersectSetRow : OpenClaim := { program := "ytgoeiflddikihaagreatdoor", sum := "a0069d0b6c375db3cfe4438bcc4407d1af6e71073f15a1c5fdcde76a37b36034", func := "pub-caravanserai/laws.FnIntersectSet", spec := "fnIntersectSet", unfollowed := true, recurses := true, named := ["strconv.ErrSyntax", "strconv.ErrRange", "internal/strconv.uint64pow10", "math/bits.deBruijn32tab", "math/bits.deBruijn64tab"], loops := true, apart := false, laid := [("math/bits.deBruijn32tab", laid_math_bits_deBruijn32tab), ("math/bits.deBruijn64tab", laid_math_bits_deBruijn64tab), ("internal/strconv.uint64pow10", laid_internal_strconv_uint64pow10), ("strconv.ErrRange", laid_strconv_ErrRange), ("strconv.ErrSyntax", laid_strconv_ErrSyntax)] }
def FnIntersectSetSaid : Prop := fnIntersectSetRow.holds Tryz.pinned (OpenSpec.ofChange fnIntersectSetSpec)

/-- ITS FALSE NEIGHBOUR: 'it returns false'. Refute it at one input. -/
def fnIntersectSetWrong : ChangeSpec := { name := "fnIntersectSet", fn := fun _ => fun
  | [d1, d2, d3] => { results := [.lit (.bool false)], args := [d1, d2, d3] }
  | _ => none }
def FnIntersectSetWrongFalsely : Prop := fnIntersectSetRow.holds Tryz.pinned (OpenSpec.ofChange fnIntersectSetWrong)

/-- 'laws.FnMatchesAny': WHATEVER THE INPUT: true; the input reads as it did. -/
def fnMatchesAnySpec : ChangeSpec := { name := "fnMatchesAny", fn := fun _ => fun
  | [d1, d2] => { results := [.lit (.bool true)], args := [d1, d2] }
  | _ => none }
def fnMatchesAnyRow : OpenClaim := { program := "ytgoeiflddikihaagreatdoor", sum := "a0069d0b6c375db3cfe4438bcc4407d1af6e71073f15a1c5fdcde76a37b36034", func := "pub-caravanserai/laws.FnMatchesAny", spec := "fnMatchesAny", unfollowed := true, recurses := true, named := ["strconv.ErrSyntax", "strconv.ErrRange", "internal/strconv.uint64pow10", "math/bits.deBruijn32tab", "math/bits.deBruijn64tab"], loops := true, apart := false, laid := [("math/bits.deBruijn32tab", laid_math_bits_deBruijn32tab), ("math/bits.deBruijn64tab", laid_math_bits_deBruijn64tab), ("internal/strconv.uint64pow10", laid_internal_strconv_uint64pow10), ("strconv.ErrRange", laid_strconv_ErrRange), ("strconv.ErrSyntax", laid_strconv_ErrSyntax)] }
def FnMatchesAnySaid : Prop := fnMatchesAnyRow.holds Tryz.pinned (OpenSpec.ofChange fnMatchesAnySpec)

/-- ITS FALSE NEIGHBOUR: 'it returns false'. Refute it at one input. -/
def fnMatchesAnyWrong : ChangeSpec := { name := "fnMatchesAny", fn := fun _ => fun
  | [d1, d2] => { results := [.lit (.bool false)], args := [d1, d2] }
  | _ => none }
def FnMatchesAnyWrongFalsely : Prop := fnMatchesAnyRow.holds Tryz.pinned (OpenSpec.ofChange fnMatchesAnyWrong)

/-- 'laws.FnIntersectAny': WHATEVER THE INPUT: true; the input reads as it did. -/
def fnIntersectAnySpec : ChangeSpec := { name := "fnIntersectAny", fn := fun _ => fun
  | [d1, d2, d3] => { results := [.lit (.bool true)], args := [d1, d2, d3] }
  | _ => none }
def fnIntersectAnyRow : OpenClaim := { program := "ytgoeiflddikihaagreatdoor", sum := "a0069d0b6c375db3cfe4438bcc4407d1af6e71073f15a1c5fdcde76a37b36034", func := "pub-caravanserai/laws.FnIntersectAny", spec := "fnIntersectAny", unfollowed := true, recurses := true, named := ["strconv.ErrSyntax", "strconv.ErrRange", "internal/strconv.uint64pow10", "math/bits.deBruijn32tab", "math/bits.deBruijn64tab"], loops := true, apart := false, laid := [("math/bits.deBruijn32tab", laid_math_bits_deBruijn32tab), ("math/bits.deBruijn64tab", laid_math_bits_deBruijn64tab), ("internal/strconv.uint64pow10", laid_internal_strconv_uint64pow10), ("strconv.ErrRange", laid_strconv_ErrRange), ("strconv.ErrSyntax", laid_strconv_ErrSyntax)] }
def FnIntersectAnySaid : Prop := fnIntersectAnyRow.holds Tryz.pinned (OpenSpec.ofChange fnIntersectAnySpec)

/-- ITS FALSE NEIGHBOUR: 'it returns false'. Refute it at one input. -/
def fnIntersectAnyWrong : ChangeSpec := { name := "fnIntersectAny", fn := fun _ => fun
  | [d1, d2, d3] => { results := [.lit (.bool false)], args := [d1, d2, d3] }
  | _ => none }
def FnIntersectAnyWrongFalsely : Prop := fnIntersectAnyRow.holds Tryz.pinned (OpenSpec.ofChange fnIntersectAnyWrong)

/- THE SECOND FORM. 'bulk': how many values and letters a reading holds, each counted each time it is reached (what is shared counts as often as it is met; a slice's spare places count too). A statement '..UptoSaid' is the law's where the arguments, and the package variables that the reading takes, are together of bulk at most 1048576: NARROWER than '..Said'. Prove '..Said' where nothing that the law and all that it calls make is longer than what came in: it says more and counts as full. Else prove '..UptoSaid'. A law counts once. -/
mutual
def uptoBulk {H : Type} : DataW H → Nat
  | .lit (.string bytes) => bytes.length + 1
  | .lit _ => 1
  | .nil => 1
  | .ptr d => uptoBulk d + 1
  | .slice elems spare => uptoBulkAll elems + uptoBulkAll spare + 1
  | .agg parts => uptoBulkAll parts + 1
  | .iface _ d => uptoBulk d + 1
  | .map entries => uptoBulkEntries entries + 1
  | .held _ => 1
def uptoBulkAll {H : Type} : List (DataW H) → Nat
  | [] => 0
  | d :: r => uptoBulk d + uptoBulkAll r
def uptoBulkEntries {H : Type} : List (Lit × DataW H) → Nat
  | [] => 0
  | x :: r => uptoBulkEntry x + uptoBulkEntries r
def uptoBulkEntry {H : Type} : Lit × DataW H → Nat
  | (.string bytes, d) => bytes.length + uptoBulk d + 1
  | (_, d) => uptoBulk d + 1
 end
def uptoSmall : (H : Type) → List (DataW H) → Bool := fun _ ds => decide (uptoBulkAll ds ≤ 1048576)
def OpenSpec.upto (s : _root_.Go.ChangeSpec) : _root_.Go.OpenSpec := { _root_.Go.OpenSpec.ofChange s with cond := some uptoSmall }

/-- 'laws.FnIntersectMany', WHERE WHAT IT READS IS OF BULK AT MOST 1048576: true; the input reads as it did. -/
def fnIntersectManyUptoRow : OpenClaim := { program := "ytgoeiflddikihaagreatdoor", sum := "a0069d0b6c375db3cfe4438bcc4407d1af6e71073f15a1c5fdcde76a37b36034", func := "pub-caravanserai/laws.FnIntersectMany", spec := "fnIntersectMany", unfollowed := true, recurses := true, named := ["strconv.ErrSyntax", "strconv.ErrRange", "internal/strconv.uint64pow10", "math/bits.deBruijn32tab", "math/bits.deBruijn64tab"], loops := true, apart := false, laid := [("math/bits.deBruijn32tab", laid_math_bits_deBruijn32tab), ("math/bits.deBruijn64tab", laid_math_bits_deBruijn64tab), ("internal/strconv.uint64pow10", laid_internal_strconv_uint64pow10), ("strconv.ErrRange", laid_strconv_ErrRange), ("strconv.ErrSyntax", laid_strconv_ErrSyntax)], narrowed := true }
def FnIntersectManyUptoSaid : Prop := fnIntersectManyUptoRow.holds Tryz.pinned (OpenSpec.upto fnIntersectManySpec)

/-- 'laws.FnMatches', WHERE WHAT IT READS IS OF BULK AT MOST 1048576: true; the input reads as it did. -/
def fnMatchesUptoRow : OpenClaim := { program := "ytgoeiflddikihaagreatdoor", sum := "a0069d0b6c375db3cfe4438bcc4407d1af6e71073f15a1c5fdcde76a37b36034", func := "pub-caravanserai/laws.FnMatches", spec := "fnMatches", unfollowed := true, recurses := true, named := ["strconv.ErrSyntax", "strconv.ErrRange", "internal/strconv.uint64pow10", "math/bits.deBruijn32tab", "math/bits.deBruijn64tab"], loops := true, apart := false, laid := [("math/bits.deBruijn32tab", laid_math_bits_deBruijn32tab), ("math/bits.deBruijn64tab", laid_math_bits_deBruijn64tab), ("internal/strconv.uint64pow10", laid_internal_strconv_uint64pow10), ("strconv.ErrRange", laid_strconv_ErrRange), ("strconv.ErrSyntax", laid_strconv_ErrSyntax)], narrowed := true }
def FnMatchesUptoSaid : Prop := fnMatchesUptoRow.holds Tryz.pinned (OpenSpec.upto fnMatchesSpec)

/-- 'laws.FnSemver', WHERE WHAT IT READS IS OF BULK AT MOST 1048576: true; the input reads as it did. -/
def fnSemverUptoRow : OpenClaim := { program := "ytgoeiflddikihaagreatdoor", sum := "a0069d0b6c375db3cfe4438bcc4407d1af6e71073f15a1c5fdcde76a37b36034", func := "pub-caravanserai/laws.FnSemver", spec := "fnSemver", unfollowed := true, recurses := true, named := ["strconv.ErrSyntax", "strconv.ErrRange", "internal/strconv.uint64pow10", "math/bits.deBruijn32tab", "math/bits.deBruijn64tab"], apart := false, laid := [("math/bits.deBruijn32tab", laid_math_bits_deBruijn32tab), ("math/bits.deBruijn64tab", laid_math_bits_deBruijn64tab), ("internal/strconv.uint64pow10", laid_internal_strconv_uint64pow10), ("strconv.ErrRange", laid_strconv_ErrRange), ("strconv.ErrSyntax", laid_strconv_ErrSyntax)], narrowed := true }
def FnSemverUptoSaid : Prop := fnSemverUptoRow.holds Tryz.pinned (OpenSpec.upto fnSemverSpec)

/-- 'laws.FnSemverOrder', WHERE WHAT IT READS IS OF BULK AT MOST 1048576: true; the input reads as it did. -/
def fnSemverOrderUptoRow : OpenClaim := { program := "ytgoeiflddikihaagreatdoor", sum := "a0069d0b6c375db3cfe4438bcc4407d1af6e71073f15a1c5fdcde76a37b36034", func := "pub-caravanserai/laws.FnSemverOrder", spec := "fnSemverOrder", unfollowed := true, recurses := true, named := ["strconv.ErrSyntax", "strconv.ErrRange", "internal/strconv.uint64pow10", "math/bits.deBruijn32tab", "math/bits.deBruijn64tab"], apart := false, laid := [("math/bits.deBruijn32tab", laid_math_bits_deBruijn32tab), ("math/bits.deBruijn64tab", laid_math_bits_deBruijn64tab), ("internal/strconv.uint64pow10", laid_internal_strconv_uint64pow10), ("strconv.ErrRange", laid_strconv_ErrRange), ("strconv.ErrSyntax", laid_strconv_ErrSyntax)], narrowed := true }
def FnSemverOrderUptoSaid : Prop := fnSemverOrderUptoRow.holds Tryz.pinned (OpenSpec.upto fnSemverOrderSpec)

/-- 'laws.FnSign', WHERE WHAT IT READS IS OF BULK AT MOST 1048576: true; the input reads as it did. -/
def fnSignUptoRow : OpenClaim := { program := "ytgoeiflddikihaagreatdoor", sum := "a0069d0b6c375db3cfe4438bcc4407d1af6e71073f15a1c5fdcde76a37b36034", func := "pub-caravanserai/laws.FnSign", spec := "fnSign", unfollowed := true, recurses := true, named := ["strconv.ErrSyntax", "strconv.ErrRange", "internal/strconv.uint64pow10", "math/bits.deBruijn32tab", "math/bits.deBruijn64tab"], apart := false, laid := [("math/bits.deBruijn32tab", laid_math_bits_deBruijn32tab), ("math/bits.deBruijn64tab", laid_math_bits_deBruijn64tab), ("internal/strconv.uint64pow10", laid_internal_strconv_uint64pow10), ("strconv.ErrRange", laid_strconv_ErrRange), ("strconv.ErrSyntax", laid_strconv_ErrSyntax)], narrowed := true }
def FnSignUptoSaid : Prop := fnSignUptoRow.holds Tryz.pinned (OpenSpec.upto fnSignSpec)

/-- 'laws.FnSortAgain', WHERE WHAT IT READS IS OF BULK AT MOST 1048576: true; the input reads as it did. -/
def fnSortAgainUptoRow : OpenClaim := { program := "ytgoeiflddikihaagreatdoor", sum := "a0069d0b6c375db3cfe4438bcc4407d1af6e71073f15a1c5fdcde76a37b36034", func := "pub-caravanserai/laws.FnSortAgain", spec := "fnSortAgain", unfollowed := true, recurses := true, named := ["strconv.ErrSyntax", "strconv.ErrRange", "internal/strconv.uint64pow10", "math/bits.deBruijn32tab", "math/bits.deBruijn64tab"], apart := false, laid := [("math/bits.deBruijn32tab", laid_math_bits_deBruijn32tab), ("math/bits.deBruijn64tab", laid_math_bits_deBruijn64tab), ("internal/strconv.uint64pow10", laid_internal_strconv_uint64pow10), ("strconv.ErrRange", laid_strconv_ErrRange), ("strconv.ErrSyntax", laid_strconv_ErrSyntax)], narrowed := true }
def FnSortAgainUptoSaid : Prop := fnSortAgainUptoRow.holds Tryz.pinned (OpenSpec.upto fnSortAgainSpec)

/-- 'laws.FnSortDowngrade', WHERE WHAT IT READS IS OF BULK AT MOST 1048576: true; the input reads as it did. -/
def fnSortDowngradeUptoRow : OpenClaim := { program := "ytgoeiflddikihaagreatdoor", sum := "a0069d0b6c375db3cfe4438bcc4407d1af6e71073f15a1c5fdcde76a37b36034", func := "pub-caravanserai/laws.FnSortDowngrade", spec := "fnSortDowngrade", unfollowed := true, recurses := true, named := ["strconv.ErrSyntax", "strconv.ErrRange", "internal/strconv.uint64pow10", "math/bits.deBruijn32tab", "math/bits.deBruijn64tab"], apart := false, laid := [("math/bits.deBruijn32tab", laid_math_bits_deBruijn32tab), ("math/bits.deBruijn64tab", laid_math_bits_deBruijn64tab), ("internal/strconv.uint64pow10", laid_internal_strconv_uint64pow10), ("strconv.ErrRange", laid_strconv_ErrRange), ("strconv.ErrSyntax", laid_strconv_ErrSyntax)], narrowed := true }
def FnSortDowngradeUptoSaid : Prop := fnSortDowngradeUptoRow.holds Tryz.pinned (OpenSpec.upto fnSortDowngradeSpec)

/-- 'laws.FnSortPaired', WHERE WHAT IT READS IS OF BULK AT MOST 1048576: true; the input reads as it did. -/
def fnSortPairedUptoRow : OpenClaim := { program := "ytgoeiflddikihaagreatdoor", sum := "a0069d0b6c375db3cfe4438bcc4407d1af6e71073f15a1c5fdcde76a37b36034", func := "pub-caravanserai/laws.FnSortPaired", spec := "fnSortPaired", unfollowed := true, recurses := true, named := ["strconv.ErrSyntax", "strconv.ErrRange", "internal/strconv.uint64pow10", "math/bits.deBruijn32tab", "math/bits.deBruijn64tab"], apart := false, laid := [("math/bits.deBruijn32tab", laid_math_bits_deBruijn32tab), ("math/bits.deBruijn64tab", laid_math_bits_deBruijn64tab), ("internal/strconv.uint64pow10", laid_internal_strconv_uint64pow10), ("strconv.ErrRange", laid_strconv_ErrRange), ("strconv.ErrSyntax", laid_strconv_ErrSyntax)], narrowed := true }
def FnSortPairedUptoSaid : Prop := fnSortPairedUptoRow.holds Tryz.pinned (OpenSpec.upto fnSortPairedSpec)

/-- 'laws.FnSortUpgrade', WHERE WHAT IT READS IS OF BULK AT MOST 1048576: true; the input reads as it did. -/
def fnSortUpgradeUptoRow : OpenClaim := { program := "ytgoeiflddikihaagreatdoor", sum := "a0069d0b6c375db3cfe4438bcc4407d1af6e71073f15a1c5fdcde76a37b36034", func := "pub-caravanserai/laws.FnSortUpgrade", spec := "fnSortUpgrade", unfollowed := true, recurses := true, named := ["strconv.ErrSyntax", "strconv.ErrRange", "internal/strconv.uint64pow10", "math/bits.deBruijn32tab", "math/bits.deBruijn64tab"], apart := false, laid := [("math/bits.deBruijn32tab", laid_math_bits_deBruijn32tab), ("math/bits.deBruijn64tab", laid_math_bits_deBruijn64tab), ("internal/strconv.uint64pow10", laid_internal_strconv_uint64pow10), ("strconv.ErrRange", laid_strconv_ErrRange), ("strconv.ErrSyntax", laid_strconv_ErrSyntax)], narrowed := true }
def FnSortUpgradeUptoSaid : Prop := fnSortUpgradeUptoRow.holds Tryz.pinned (OpenSpec.upto fnSortUpgradeSpec)

/-- 'laws.FnVersion', WHERE WHAT IT READS IS OF BULK AT MOST 1048576: true; the input reads as it did. -/
def fnVersionUptoRow : OpenClaim := { program := "ytgoeiflddikihaagreatdoor", sum := "a0069d0b6c375db3cfe4438bcc4407d1af6e71073f15a1c5fdcde76a37b36034", func := "pub-caravanserai/laws.FnVersion", spec := "fnVersion", unfollowed := true, recurses := true, named := ["strconv.ErrSyntax", "strconv.ErrRange", "internal/strconv.uint64pow10", "math/bits.deBruijn32tab", "math/bits.deBruijn64tab"], apart := false, laid := [("math/bits.deBruijn32tab", laid_math_bits_deBruijn32tab), ("math/bits.deBruijn64tab", laid_math_bits_deBruijn64tab), ("internal/strconv.uint64pow10", laid_internal_strconv_uint64pow10), ("strconv.ErrRange", laid_strconv_ErrRange), ("strconv.ErrSyntax", laid_strconv_ErrSyntax)], narrowed := true }
def FnVersionUptoSaid : Prop := fnVersionUptoRow.holds Tryz.pinned (OpenSpec.upto fnVersionSpec)

/-- 'laws.FnIdentLess', WHERE WHAT IT READS IS OF BULK AT MOST 1048576: true; the input reads as it did. -/
def fnIdentLessUptoRow : OpenClaim := { program := "ytgoeiflddikihaagreatdoor", sum := "a0069d0b6c375db3cfe4438bcc4407d1af6e71073f15a1c5fdcde76a37b36034", func := "pub-caravanserai/laws.FnIdentLess", spec := "fnIdentLess", unfollowed := true, recurses := true, named := ["strconv.ErrSyntax", "strconv.ErrRange", "internal/strconv.uint64pow10", "math/bits.deBruijn32tab", "math/bits.deBruijn64tab"], apart := false, laid := [("math/bits.deBruijn32tab", laid_math_bits_deBruijn32tab), ("math/bits.deBruijn64tab", laid_math_bits_deBruijn64tab), ("internal/strconv.uint64pow10", laid_internal_strconv_uint64pow10), ("strconv.ErrRange", laid_strconv_ErrRange), ("strconv.ErrSyntax", laid_strconv_ErrSyntax)], narrowed := true }
def FnIdentLessUptoSaid : Prop := fnIdentLessUptoRow.holds Tryz.pinned (OpenSpec.upto fnIdentLessSpec)

/-- 'laws.FnIdentText', WHERE WHAT IT READS IS OF BULK AT MOST 1048576: true; the input reads as it did. -/
def fnIdentTextUptoRow : OpenClaim := { program := "ytgoeiflddikihaagreatdoor", sum := "a0069d0b6c375db3cfe4438bcc4407d1af6e71073f15a1c5fdcde76a37b36034", func := "pub-caravanserai/laws.FnIdentText", spec := "fnIdentText", unfollowed := true, recurses := true, named := ["strconv.ErrSyntax", "strconv.ErrRange", "internal/strconv.uint64pow10", "math/bits.deBruijn32tab", "math/bits.deBruijn64tab"], apart := false, laid := [("math/bits.deBruijn32tab", laid_math_bits_deBruijn32tab), ("math/bits.deBruijn64tab", laid_math_bits_deBruijn64tab), ("internal/strconv.uint64pow10", laid_internal_strconv_uint64pow10), ("strconv.ErrRange", laid_strconv_ErrRange), ("strconv.ErrSyntax", laid_strconv_ErrSyntax)], narrowed := true }
def FnIdentTextUptoSaid : Prop := fnIdentTextUptoRow.holds Tryz.pinned (OpenSpec.upto fnIdentTextSpec)

/-- 'laws.FnBlanks', WHERE WHAT IT READS IS OF BULK AT MOST 1048576: true; the input reads as it did. -/
def fnBlanksUptoRow : OpenClaim := { program := "ytgoeiflddikihaagreatdoor", sum := "a0069d0b6c375db3cfe4438bcc4407d1af6e71073f15a1c5fdcde76a37b36034", func := "pub-caravanserai/laws.FnBlanks", spec := "fnBlanks", unfollowed := true, recurses := true, named := ["strconv.ErrSyntax", "strconv.ErrRange", "internal/strconv.uint64pow10", "math/bits.deBruijn32tab", "math/bits.deBruijn64tab"], apart := false, laid := [("math/bits.deBruijn32tab", laid_math_bits_deBruijn32tab), ("math/bits.deBruijn64tab", laid_math_bits_deBruijn64tab), ("internal/strconv.uint64pow10", laid_internal_strconv_uint64pow10), ("strconv.ErrRange", laid_strconv_ErrRange), ("strconv.ErrSyntax", laid_strconv_ErrSyntax)], narrowed := true }
def FnBlanksUptoSaid : Prop := fnBlanksUptoRow.holds Tryz.pinned (OpenSpec.upto fnBlanksSpec)

/-- 'laws.FnCaret', WHERE WHAT IT READS IS OF BULK AT MOST 1048576: true; the input reads as it did. -/
def fnCaretUptoRow : OpenClaim := { program := "ytgoeiflddikihaagreatdoor", sum := "a0069d0b6c375db3cfe4438bcc4407d1af6e71073f15a1c5fdcde76a37b36034", func := "pub-caravanserai/laws.FnCaret", spec := "fnCaret", unfollowed := true, recurses := true, named := ["strconv.ErrSyntax", "strconv.ErrRange", "internal/strconv.uint64pow10", "math/bits.deBruijn32tab", "math/bits.deBruijn64tab"], apart := false, laid := [("math/bits.deBruijn32tab", laid_math_bits_deBruijn32tab), ("math/bits.deBruijn64tab", laid_math_bits_deBruijn64tab), ("internal/strconv.uint64pow10", laid_internal_strconv_uint64pow10), ("strconv.ErrRange", laid_strconv_ErrRange), ("strconv.ErrSyntax", laid_strconv_ErrSyntax)], narrowed := true }
def FnCaretUptoSaid : Prop := fnCaretUptoRow.holds Tryz.pinned (OpenSpec.upto fnCaretSpec)

/-- 'laws.FnConstraint', WHERE WHAT IT READS IS OF BULK AT MOST 1048576: true; the input reads as it did. -/
def fnConstraintUptoRow : OpenClaim := { program := "ytgoeiflddikihaagreatdoor", sum := "a0069d0b6c375db3cfe4438bcc4407d1af6e71073f15a1c5fdcde76a37b36034", func := "pub-caravanserai/laws.FnConstraint", spec := "fnConstraint", unfollowed := true, recurses := true, named := ["strconv.ErrSyntax", "strconv.ErrRange", "internal/strconv.uint64pow10", "math/bits.deBruijn32tab", "math/bits.deBruijn64tab"], loops := true, apart := false, laid := [("math/bits.deBruijn32tab", laid_math_bits_deBruijn32tab), ("math/bits.deBruijn64tab", laid_math_bits_deBruijn64tab), ("internal/strconv.uint64pow10", laid_internal_strconv_uint64pow10), ("strconv.ErrRange", laid_strconv_ErrRange), ("strconv.ErrSyntax", laid_strconv_ErrSyntax)], narrowed := true }
def FnConstraintUptoSaid : Prop := fnConstraintUptoRow.holds Tryz.pinned (OpenSpec.upto fnConstraintSpec)

/-- 'laws.FnTextBack', WHERE WHAT IT READS IS OF BULK AT MOST 1048576: true; the input reads as it did. -/
def fnTextBackUptoRow : OpenClaim := { program := "ytgoeiflddikihaagreatdoor", sum := "a0069d0b6c375db3cfe4438bcc4407d1af6e71073f15a1c5fdcde76a37b36034", func := "pub-caravanserai/laws.FnTextBack", spec := "fnTextBack", unfollowed := true, recurses := true, named := ["strconv.ErrSyntax", "strconv.ErrRange", "internal/strconv.uint64pow10", "math/bits.deBruijn32tab", "math/bits.deBruijn64tab"], loops := true, apart := false, laid := [("math/bits.deBruijn32tab", laid_math_bits_deBruijn32tab), ("math/bits.deBruijn64tab", laid_math_bits_deBruijn64tab), ("internal/strconv.uint64pow10", laid_internal_strconv_uint64pow10), ("strconv.ErrRange", laid_strconv_ErrRange), ("strconv.ErrSyntax", laid_strconv_ErrSyntax)], narrowed := true }
def FnTextBackUptoSaid : Prop := fnTextBackUptoRow.holds Tryz.pinned (OpenSpec.upto fnTextBackSpec)

/-- 'laws.FnIntersect', WHERE WHAT IT READS IS OF BULK AT MOST 1048576: true; the input reads as it did. -/
def fnIntersectUptoRow : OpenClaim := { program := "ytgoeiflddikihaagreatdoor", sum := "a0069d0b6c375db3cfe4438bcc4407d1af6e71073f15a1c5fdcde76a37b36034", func := "pub-caravanserai/laws.FnIntersect", spec := "fnIntersect", unfollowed := true, recurses := true, named := ["strconv.ErrSyntax", "strconv.ErrRange", "internal/strconv.uint64pow10", "math/bits.deBruijn32tab", "math/bits.deBruijn64tab"], loops := true, apart := false, laid := [("math/bits.deBruijn32tab", laid_math_bits_deBruijn32tab), ("math/bits.deBruijn64tab", laid_math_bits_deBruijn64tab), ("internal/strconv.uint64pow10", laid_internal_strconv_uint64pow10), ("strconv.ErrRange", laid_strconv_ErrRange), ("strconv.ErrSyntax", laid_strconv_ErrSyntax)], narrowed := true }
def FnIntersectUptoSaid : Prop := fnIntersectUptoRow.holds Tryz.pinned (OpenSpec.upto fnIntersectSpec)

/-- 'laws.FnIntersectSet', WHERE WHAT IT READS IS OF BULK AT MOST 1048576: true; the input reads as it did. -/
def fnIntersectSetUptoRow : OpenClaim := { program := "ytgoeiflddikihaagreatdoor", sum := "a0069d0b6c375db3cfe4438bcc4407d1af6e71073f15a1c5fdcde76a37b36034", func := "pub-caravanserai/laws.FnIntersectSet", spec := "fnIntersectSet", unfollowed := true, recurses := true, named := ["strconv.ErrSyntax", "strconv.ErrRange", "internal/strconv.uint64pow10", "math/bits.deBruijn32tab", "math/bits.deBruijn64tab"], loops := true, apart := false, laid := [("math/bits.deBruijn32tab", laid_math_bits_deBruijn32tab), ("math/bits.deBruijn64tab", laid_math_bits_deBruijn64tab), ("internal/strconv.uint64pow10", laid_internal_strconv_uint64pow10), ("strconv.ErrRange", laid_strconv_ErrRange), ("strconv.ErrSyntax", laid_strconv_ErrSyntax)], narrowed := true }
def FnIntersectSetUptoSaid : Prop := fnIntersectSetUptoRow.holds Tryz.pinned (OpenSpec.upto fnIntersectSetSpec)

/-- 'laws.FnMatchesAny', WHERE WHAT IT READS IS OF BULK AT MOST 1048576: true; the input reads as it did. -/
def fnMatchesAnyUptoRow : OpenClaim := { program := "ytgoeiflddikihaagreatdoor", sum := "a0069d0b6c375db3cfe4438bcc4407d1af6e71073f15a1c5fdcde76a37b36034", func := "pub-caravanserai/laws.FnMatchesAny", spec := "fnMatchesAny", unfollowed := true, recurses := true, named := ["strconv.ErrSyntax", "strconv.ErrRange", "internal/strconv.uint64pow10", "math/bits.deBruijn32tab", "math/bits.deBruijn64tab"], loops := true, apart := false, laid := [("math/bits.deBruijn32tab", laid_math_bits_deBruijn32tab), ("math/bits.deBruijn64tab", laid_math_bits_deBruijn64tab), ("internal/strconv.uint64pow10", laid_internal_strconv_uint64pow10), ("strconv.ErrRange", laid_strconv_ErrRange), ("strconv.ErrSyntax", laid_strconv_ErrSyntax)], narrowed := true }
def FnMatchesAnyUptoSaid : Prop := fnMatchesAnyUptoRow.holds Tryz.pinned (OpenSpec.upto fnMatchesAnySpec)

/-- 'laws.FnIntersectAny', WHERE WHAT IT READS IS OF BULK AT MOST 1048576: true; the input reads as it did. -/
def fnIntersectAnyUptoRow : OpenClaim := { program := "ytgoeiflddikihaagreatdoor", sum := "a0069d0b6c375db3cfe4438bcc4407d1af6e71073f15a1c5fdcde76a37b36034", func := "pub-caravanserai/laws.FnIntersectAny", spec := "fnIntersectAny", unfollowed := true, recurses := true, named := ["strconv.ErrSyntax", "strconv.ErrRange", "internal/strconv.uint64pow10", "math/bits.deBruijn32tab", "math/bits.deBruijn64tab"], loops := true, apart := false, laid := [("math/bits.deBruijn32tab", laid_math_bits_deBruijn32tab), ("math/bits.deBruijn64tab", laid_math_bits_deBruijn64tab), ("internal/strconv.uint64pow10", laid_internal_strconv_uint64pow10), ("strconv.ErrRange", laid_strconv_ErrRange), ("strconv.ErrSyntax", laid_strconv_ErrSyntax)], narrowed := true }
def FnIntersectAnyUptoSaid : Prop := fnIntersectAnyUptoRow.holds Tryz.pinned (OpenSpec.upto fnIntersectAnySpec)

end Rows
end Go.Proofs.YtgoeiflddikihaaGreatDoor
