/-
  DERIVED. GIVEN WITH THE SEED: THE CARDS: each row of YtgoeiflddikihaaGreatDoorRows.lean that lists a variable, with what it lists TIED to the program's text (the seventh form; the later family's looks); each row that meets fmt, with fmt's text TOLD by the authors' own Lean function (tested against real Go, not proved from fmt's source: count such statements apart). THE CARD IS WHAT COUNTS. Prove the row's statement (the work); the ties are given (YtgoeiflddikihaaGreatDoorTie.lean); close each card by the builder's one call (the guide's Derived/Test/ToyasCard.lean, 'card_holds'). Laid BY PROGRAM, IN A SANDBOX (cutbox-door.mjs). By AI agents, Wed Nov 11 2026. No macro, syntax, notation, axiom, sorry.
-/
import Derived.Test.YtgoeiflddikihaaGreatDoorRows
import GoSem.ClaimSeven
namespace Go.Proofs.YtgoeiflddikihaaGreatDoor
namespace Rows

/-- THE TIED CARD OF 'laws.FnIntersectMany'. -/
def fnIntersectManyCard : Claim7 := { stood := { row := fnIntersectManyRow, standIns := [], harness := (true, "4b70eb22f5a02e1d0de126ae3cbc2f2086a16d4441aa3705b2e54cffb6660a32"), looks := true }, kinds := [], alts := [], laidByText := true, laidKinds := [.data, .data, .data, .sentinel, .sentinel], laidTests := true, laidLooks := .later }
def FnIntersectManyCardSaid : Prop := Claim7.holds Tryz.pinned (.plain (OpenSpec.ofChange fnIntersectManySpec)) fnIntersectManyCard

/-- THE TIED CARD OF 'laws.FnMatches'. -/
def fnMatchesCard : Claim7 := { stood := { row := fnMatchesRow, standIns := [], harness := (true, "4b70eb22f5a02e1d0de126ae3cbc2f2086a16d4441aa3705b2e54cffb6660a32"), looks := true }, kinds := [], alts := [], laidByText := true, laidKinds := [.data, .data, .data, .sentinel, .sentinel], laidTests := true, laidLooks := .later }
def FnMatchesCardSaid : Prop := Claim7.holds Tryz.pinned (.plain (OpenSpec.ofChange fnMatchesSpec)) fnMatchesCard

/-- THE TIED CARD OF 'laws.FnSemver'. -/
def fnSemverCard : Claim7 := { stood := { row := fnSemverRow, standIns := [], harness := (true, "4b70eb22f5a02e1d0de126ae3cbc2f2086a16d4441aa3705b2e54cffb6660a32"), looks := true }, kinds := [], alts := [], laidByText := true, laidKinds := [.data, .data, .data, .sentinel, .sentinel], laidTests := true, laidLooks := .later }
def FnSemverCardSaid : Prop := Claim7.holds Tryz.pinned (.plain (OpenSpec.ofChange fnSemverSpec)) fnSemverCard

/-- THE TIED CARD OF 'laws.FnSemverOrder'. -/
def fnSemverOrderCard : Claim7 := { stood := { row := fnSemverOrderRow, standIns := [], harness := (true, "4b70eb22f5a02e1d0de126ae3cbc2f2086a16d4441aa3705b2e54cffb6660a32"), looks := true }, kinds := [], alts := [], laidByText := true, laidKinds := [.data, .data, .data, .sentinel, .sentinel], laidTests := true, laidLooks := .later }
def FnSemverOrderCardSaid : Prop := Claim7.holds Tryz.pinned (.plain (OpenSpec.ofChange fnSemverOrderSpec)) fnSemverOrderCard

/-- THE TIED CARD OF 'laws.FnSign'. -/
def fnSignCard : Claim7 := { stood := { row := fnSignRow, standIns := [], harness := (true, "4b70eb22f5a02e1d0de126ae3cbc2f2086a16d4441aa3705b2e54cffb6660a32"), looks := true }, kinds := [], alts := [], laidByText := true, laidKinds := [.data, .data, .data, .sentinel, .sentinel], laidTests := true, laidLooks := .later }
def FnSignCardSaid : Prop := Claim7.holds Tryz.pinned (.plain (OpenSpec.ofChange fnSignSpec)) fnSignCard

/-- THE TIED CARD OF 'laws.FnSortAgain'. -/
def fnSortAgainCard : Claim7 := { stood := { row := fnSortAgainRow, standIns := [], harness := (true, "4b70eb22f5a02e1d0de126ae3cbc2f2086a16d4441aa3705b2e54cffb6660a32"), looks := true }, kinds := [], alts := [], laidByText := true, laidKinds := [.data, .data, .data, .sentinel, .sentinel], laidTests := true, laidLooks := .later }
def FnSortAgainCardSaid : Prop := Claim7.holds Tryz.pinned (.plain (OpenSpec.ofChange fnSortAgainSpec)) fnSortAgainCard

/-- THE TIED CARD OF 'laws.FnSortDowngrade'. -/
def fnSortDowngradeCard : Claim7 := { stood := { row := fnSortDowngradeRow, standIns := [], harness := (true, "4b70eb22f5a02e1d0de126ae3cbc2f2086a16d4441aa3705b2e54cffb6660a32"), looks := true }, kinds := [], alts := [], laidByText := true, laidKinds := [.data, .data, .data, .sentinel, .sentinel], laidTests := true, laidLooks := .later }
def FnSortDowngradeCardSaid : Prop := Claim7.holds Tryz.pinned (.plain (OpenSpec.ofChange fnSortDowngradeSpec)) fnSortDowngradeCard

/-- THE TIED CARD OF 'laws.FnSortPaired'. -/
def fnSortPairedCard : Claim7 := { stood := { row := fnSortPairedRow, standIns := [], harness := (true, "4b70eb22f5a02e1d0de126ae3cbc2f2086a16d4441aa3705b2e54cffb6660a32"), looks := true }, kinds := [], alts := [], laidByText := true, laidKinds := [.data, .data, .data, .sentinel, .sentinel], laidTests := true, laidLooks := .later }
def FnSortPairedCardSaid : Prop := Claim7.holds Tryz.pinned (.plain (OpenSpec.ofChange fnSortPairedSpec)) fnSortPairedCard

/-- THE TIED CARD OF 'laws.FnSortUpgrade'. -/
def fnSortUpgradeCard : Claim7 := { stood := { row := fnSortUpgradeRow, standIns := [], harness := (true, "4b70eb22f5a02e1d0de126ae3cbc2f2086a16d4441aa3705b2e54cffb6660a32"), looks := true }, kinds := [], alts := [], laidByText := true, laidKinds := [.data, .data, .data, .sentinel, .sentinel], laidTests := true, laidLooks := .later }
def FnSortUpgradeCardSaid : Prop := Claim7.holds Tryz.pinned (.plain (OpenSpec.ofChange fnSortUpgradeSpec)) fnSortUpgradeCard

/-- THE TIED CARD OF 'laws.FnVersion'. -/
def fnVersionCard : Claim7 := { stood := { row := fnVersionRow, standIns := [], harness := (true, "4b70eb22f5a02e1d0de126ae3cbc2f2086a16d4441aa3705b2e54cffb6660a32"), looks := true }, kinds := [], alts := [], laidByText := true, laidKinds := [.data, .data, .data, .sentinel, .sentinel], laidTests := true, laidLooks := .later }
def FnVersionCardSaid : Prop := Claim7.holds Tryz.pinned (.plain (OpenSpec.ofChange fnVersionSpec)) fnVersionCard

/-- THE TIED CARD OF 'laws.FnIdentLess'. -/
def fnIdentLessCard : Claim7 := { stood := { row := fnIdentLessRow, standIns := [], harness := (true, "4b70eb22f5a02e1d0de126ae3cbc2f2086a16d4441aa3705b2e54cffb6660a32"), looks := true }, kinds := [], alts := [], laidByText := true, laidKinds := [.data, .data, .data, .sentinel, .sentinel], laidTests := true, laidLooks := .later }
def FnIdentLessCardSaid : Prop := Claim7.holds Tryz.pinned (.plain (OpenSpec.ofChange fnIdentLessSpec)) fnIdentLessCard

/-- THE TIED CARD OF 'laws.FnIdentText'. -/
def fnIdentTextCard : Claim7 := { stood := { row := fnIdentTextRow, standIns := [], harness := (true, "4b70eb22f5a02e1d0de126ae3cbc2f2086a16d4441aa3705b2e54cffb6660a32"), looks := true }, kinds := [], alts := [], laidByText := true, laidKinds := [.data, .data, .data, .sentinel, .sentinel], laidTests := true, laidLooks := .later }
def FnIdentTextCardSaid : Prop := Claim7.holds Tryz.pinned (.plain (OpenSpec.ofChange fnIdentTextSpec)) fnIdentTextCard

/-- THE TIED CARD OF 'laws.FnBlanks'. -/
def fnBlanksCard : Claim7 := { stood := { row := fnBlanksRow, standIns := [], harness := (true, "4b70eb22f5a02e1d0de126ae3cbc2f2086a16d4441aa3705b2e54cffb6660a32"), looks := true }, kinds := [], alts := [], laidByText := true, laidKinds := [.data, .data, .data, .sentinel, .sentinel], laidTests := true, laidLooks := .later }
def FnBlanksCardSaid : Prop := Claim7.holds Tryz.pinned (.plain (OpenSpec.ofChange fnBlanksSpec)) fnBlanksCard

/-- THE TIED CARD OF 'laws.FnCaret'. -/
def fnCaretCard : Claim7 := { stood := { row := fnCaretRow, standIns := [], harness := (true, "4b70eb22f5a02e1d0de126ae3cbc2f2086a16d4441aa3705b2e54cffb6660a32"), looks := true }, kinds := [], alts := [], laidByText := true, laidKinds := [.data, .data, .data, .sentinel, .sentinel], laidTests := true, laidLooks := .later }
def FnCaretCardSaid : Prop := Claim7.holds Tryz.pinned (.plain (OpenSpec.ofChange fnCaretSpec)) fnCaretCard

/-- THE TIED CARD OF 'laws.FnConstraint'. -/
def fnConstraintCard : Claim7 := { stood := { row := fnConstraintRow, standIns := [], harness := (true, "4b70eb22f5a02e1d0de126ae3cbc2f2086a16d4441aa3705b2e54cffb6660a32"), looks := true }, kinds := [], alts := [], laidByText := true, laidKinds := [.data, .data, .data, .sentinel, .sentinel], laidTests := true, laidLooks := .later }
def FnConstraintCardSaid : Prop := Claim7.holds Tryz.pinned (.plain (OpenSpec.ofChange fnConstraintSpec)) fnConstraintCard

/-- THE TIED CARD OF 'laws.FnTextBack'. -/
def fnTextBackCard : Claim7 := { stood := { row := fnTextBackRow, standIns := [], harness := (true, "4b70eb22f5a02e1d0de126ae3cbc2f2086a16d4441aa3705b2e54cffb6660a32"), looks := true }, kinds := [], alts := [], laidByText := true, laidKinds := [.data, .data, .data, .sentinel, .sentinel], laidTests := true, laidLooks := .later }
def FnTextBackCardSaid : Prop := Claim7.holds Tryz.pinned (.plain (OpenSpec.ofChange fnTextBackSpec)) fnTextBackCard

/-- THE TIED CARD OF 'laws.FnIntersect'. -/
def fnIntersectCard : Claim7 := { stood := { row := fnIntersectRow, standIns := [], harness := (true, "4b70eb22f5a02e1d0de126ae3cbc2f2086a16d4441aa3705b2e54cffb6660a32"), looks := true }, kinds := [], alts := [], laidByText := true, laidKinds := [.data, .data, .data, .sentinel, .sentinel], laidTests := true, laidLooks := .later }
def FnIntersectCardSaid : Prop := Claim7.holds Tryz.pinned (.plain (OpenSpec.ofChange fnIntersectSpec)) fnIntersectCard

/-- THE TIED CARD OF 'laws.FnIntersectSet'. -/
def fnIntersectSetCard : Claim7 := { stood := { row := fnIntersectSetRow, standIns := [], harness := (true, "4b70eb22f5a02e1d0de126ae3cbc2f2086a16d4441aa3705b2e54cffb6660a32"), looks := true }, kinds := [], alts := [], laidByText := true, laidKinds := [.data, .data, .data, .sentinel, .sentinel], laidTests := true, laidLooks := .later }
def FnIntersectSetCardSaid : Prop := Claim7.holds Tryz.pinned (.plain (OpenSpec.ofChange fnIntersectSetSpec)) fnIntersectSetCard

/-- THE TIED CARD OF 'laws.FnMatchesAny'. -/
def fnMatchesAnyCard : Claim7 := { stood := { row := fnMatchesAnyRow, standIns := [], harness := (true, "4b70eb22f5a02e1d0de126ae3cbc2f2086a16d4441aa3705b2e54cffb6660a32"), looks := true }, kinds := [], alts := [], laidByText := true, laidKinds := [.data, .data, .data, .sentinel, .sentinel], laidTests := true, laidLooks := .later }
def FnMatchesAnyCardSaid : Prop := Claim7.holds Tryz.pinned (.plain (OpenSpec.ofChange fnMatchesAnySpec)) fnMatchesAnyCard

/-- THE TIED CARD OF 'laws.FnIntersectAny'. -/
def fnIntersectAnyCard : Claim7 := { stood := { row := fnIntersectAnyRow, standIns := [], harness := (true, "4b70eb22f5a02e1d0de126ae3cbc2f2086a16d4441aa3705b2e54cffb6660a32"), looks := true }, kinds := [], alts := [], laidByText := true, laidKinds := [.data, .data, .data, .sentinel, .sentinel], laidTests := true, laidLooks := .later }
def FnIntersectAnyCardSaid : Prop := Claim7.holds Tryz.pinned (.plain (OpenSpec.ofChange fnIntersectAnySpec)) fnIntersectAnyCard

/-- THE SECOND FORM's CARD OF 'laws.FnIntersectMany'. -/
def fnIntersectManyUptoCard : Claim7 := { stood := { row := fnIntersectManyUptoRow, standIns := [], harness := (true, "4b70eb22f5a02e1d0de126ae3cbc2f2086a16d4441aa3705b2e54cffb6660a32"), looks := true }, kinds := [], alts := [], laidByText := true, laidKinds := [.data, .data, .data, .sentinel, .sentinel], laidTests := true, laidLooks := .later }
def FnIntersectManyUptoCardSaid : Prop := Claim7.holds Tryz.pinned (.plain (OpenSpec.upto fnIntersectManySpec)) fnIntersectManyUptoCard

/-- THE SECOND FORM's CARD OF 'laws.FnMatches'. -/
def fnMatchesUptoCard : Claim7 := { stood := { row := fnMatchesUptoRow, standIns := [], harness := (true, "4b70eb22f5a02e1d0de126ae3cbc2f2086a16d4441aa3705b2e54cffb6660a32"), looks := true }, kinds := [], alts := [], laidByText := true, laidKinds := [.data, .data, .data, .sentinel, .sentinel], laidTests := true, laidLooks := .later }
def FnMatchesUptoCardSaid : Prop := Claim7.holds Tryz.pinned (.plain (OpenSpec.upto fnMatchesSpec)) fnMatchesUptoCard

/-- THE SECOND FORM's CARD OF 'laws.FnSemver'. -/
def fnSemverUptoCard : Claim7 := { stood := { row := fnSemverUptoRow, standIns := [], harness := (true, "4b70eb22f5a02e1d0de126ae3cbc2f2086a16d4441aa3705b2e54cffb6660a32"), looks := true }, kinds := [], alts := [], laidByText := true, laidKinds := [.data, .data, .data, .sentinel, .sentinel], laidTests := true, laidLooks := .later }
def FnSemverUptoCardSaid : Prop := Claim7.holds Tryz.pinned (.plain (OpenSpec.upto fnSemverSpec)) fnSemverUptoCard

/-- THE SECOND FORM's CARD OF 'laws.FnSemverOrder'. -/
def fnSemverOrderUptoCard : Claim7 := { stood := { row := fnSemverOrderUptoRow, standIns := [], harness := (true, "4b70eb22f5a02e1d0de126ae3cbc2f2086a16d4441aa3705b2e54cffb6660a32"), looks := true }, kinds := [], alts := [], laidByText := true, laidKinds := [.data, .data, .data, .sentinel, .sentinel], laidTests := true, laidLooks := .later }
def FnSemverOrderUptoCardSaid : Prop := Claim7.holds Tryz.pinned (.plain (OpenSpec.upto fnSemverOrderSpec)) fnSemverOrderUptoCard

/-- THE SECOND FORM's CARD OF 'laws.FnSign'. -/
def fnSignUptoCard : Claim7 := { stood := { row := fnSignUptoRow, standIns := [], harness := (true, "4b70eb22f5a02e1d0de126ae3cbc2f2086a16d4441aa3705b2e54cffb6660a32"), looks := true }, kinds := [], alts := [], laidByText := true, laidKinds := [.data, .data, .data, .sentinel, .sentinel], laidTests := true, laidLooks := .later }
def FnSignUptoCardSaid : Prop := Claim7.holds Tryz.pinned (.plain (OpenSpec.upto fnSignSpec)) fnSignUptoCard

/-- THE SECOND FORM's CARD OF 'laws.FnSortAgain'. -/
def fnSortAgainUptoCard : Claim7 := { stood := { row := fnSortAgainUptoRow, standIns := [], harness := (true, "4b70eb22f5a02e1d0de126ae3cbc2f2086a16d4441aa3705b2e54cffb6660a32"), looks := true }, kinds := [], alts := [], laidByText := true, laidKinds := [.data, .data, .data, .sentinel, .sentinel], laidTests := true, laidLooks := .later }
def FnSortAgainUptoCardSaid : Prop := Claim7.holds Tryz.pinned (.plain (OpenSpec.upto fnSortAgainSpec)) fnSortAgainUptoCard

/-- THE SECOND FORM's CARD OF 'laws.FnSortDowngrade'. -/
def fnSortDowngradeUptoCard : Claim7 := { stood := { row := fnSortDowngradeUptoRow, standIns := [], harness := (true, "4b70eb22f5a02e1d0de126ae3cbc2f2086a16d4441aa3705b2e54cffb6660a32"), looks := true }, kinds := [], alts := [], laidByText := true, laidKinds := [.data, .data, .data, .sentinel, .sentinel], laidTests := true, laidLooks := .later }
def FnSortDowngradeUptoCardSaid : Prop := Claim7.holds Tryz.pinned (.plain (OpenSpec.upto fnSortDowngradeSpec)) fnSortDowngradeUptoCard

/-- THE SECOND FORM's CARD OF 'laws.FnSortPaired'. -/
def fnSortPairedUptoCard : Claim7 := { stood := { row := fnSortPairedUptoRow, standIns := [], harness := (true, "4b70eb22f5a02e1d0de126ae3cbc2f2086a16d4441aa3705b2e54cffb6660a32"), looks := true }, kinds := [], alts := [], laidByText := true, laidKinds := [.data, .data, .data, .sentinel, .sentinel], laidTests := true, laidLooks := .later }
def FnSortPairedUptoCardSaid : Prop := Claim7.holds Tryz.pinned (.plain (OpenSpec.upto fnSortPairedSpec)) fnSortPairedUptoCard

/-- THE SECOND FORM's CARD OF 'laws.FnSortUpgrade'. -/
def fnSortUpgradeUptoCard : Claim7 := { stood := { row := fnSortUpgradeUptoRow, standIns := [], harness := (true, "4b70eb22f5a02e1d0de126ae3cbc2f2086a16d4441aa3705b2e54cffb6660a32"), looks := true }, kinds := [], alts := [], laidByText := true, laidKinds := [.data, .data, .data, .sentinel, .sentinel], laidTests := true, laidLooks := .later }
def FnSortUpgradeUptoCardSaid : Prop := Claim7.holds Tryz.pinned (.plain (OpenSpec.upto fnSortUpgradeSpec)) fnSortUpgradeUptoCard

/-- THE SECOND FORM's CARD OF 'laws.FnVersion'. -/
def fnVersionUptoCard : Claim7 := { stood := { row := fnVersionUptoRow, standIns := [], harness := (true, "4b70eb22f5a02e1d0de126ae3cbc2f2086a16d4441aa3705b2e54cffb6660a32"), looks := true }, kinds := [], alts := [], laidByText := true, laidKinds := [.data, .data, .data, .sentinel, .sentinel], laidTests := true, laidLooks := .later }
def FnVersionUptoCardSaid : Prop := Claim7.holds Tryz.pinned (.plain (OpenSpec.upto fnVersionSpec)) fnVersionUptoCard

/-- THE SECOND FORM's CARD OF 'laws.FnIdentLess'. -/
def fnIdentLessUptoCard : Claim7 := { stood := { row := fnIdentLessUptoRow, standIns := [], harness := (true, "4b70eb22f5a02e1d0de126ae3cbc2f2086a16d4441aa3705b2e54cffb6660a32"), looks := true }, kinds := [], alts := [], laidByText := true, laidKinds := [.data, .data, .data, .sentinel, .sentinel], laidTests := true, laidLooks := .later }
def FnIdentLessUptoCardSaid : Prop := Claim7.holds Tryz.pinned (.plain (OpenSpec.upto fnIdentLessSpec)) fnIdentLessUptoCard

/-- THE SECOND FORM's CARD OF 'laws.FnIdentText'. -/
def fnIdentTextUptoCard : Claim7 := { stood := { row := fnIdentTextUptoRow, standIns := [], harness := (true, "4b70eb22f5a02e1d0de126ae3cbc2f2086a16d4441aa3705b2e54cffb6660a32"), looks := true }, kinds := [], alts := [], laidByText := true, laidKinds := [.data, .data, .data, .sentinel, .sentinel], laidTests := true, laidLooks := .later }
def FnIdentTextUptoCardSaid : Prop := Claim7.holds Tryz.pinned (.plain (OpenSpec.upto fnIdentTextSpec)) fnIdentTextUptoCard

/-- THE SECOND FORM's CARD OF 'laws.FnBlanks'. -/
def fnBlanksUptoCard : Claim7 := { stood := { row := fnBlanksUptoRow, standIns := [], harness := (true, "4b70eb22f5a02e1d0de126ae3cbc2f2086a16d4441aa3705b2e54cffb6660a32"), looks := true }, kinds := [], alts := [], laidByText := true, laidKinds := [.data, .data, .data, .sentinel, .sentinel], laidTests := true, laidLooks := .later }
def FnBlanksUptoCardSaid : Prop := Claim7.holds Tryz.pinned (.plain (OpenSpec.upto fnBlanksSpec)) fnBlanksUptoCard

/-- THE SECOND FORM's CARD OF 'laws.FnCaret'. -/
def fnCaretUptoCard : Claim7 := { stood := { row := fnCaretUptoRow, standIns := [], harness := (true, "4b70eb22f5a02e1d0de126ae3cbc2f2086a16d4441aa3705b2e54cffb6660a32"), looks := true }, kinds := [], alts := [], laidByText := true, laidKinds := [.data, .data, .data, .sentinel, .sentinel], laidTests := true, laidLooks := .later }
def FnCaretUptoCardSaid : Prop := Claim7.holds Tryz.pinned (.plain (OpenSpec.upto fnCaretSpec)) fnCaretUptoCard

/-- THE SECOND FORM's CARD OF 'laws.FnConstraint'. -/
def fnConstraintUptoCard : Claim7 := { stood := { row := fnConstraintUptoRow, standIns := [], harness := (true, "4b70eb22f5a02e1d0de126ae3cbc2f2086a16d4441aa3705b2e54cffb6660a32"), looks := true }, kinds := [], alts := [], laidByText := true, laidKinds := [.data, .data, .data, .sentinel, .sentinel], laidTests := true, laidLooks := .later }
def FnConstraintUptoCardSaid : Prop := Claim7.holds Tryz.pinned (.plain (OpenSpec.upto fnConstraintSpec)) fnConstraintUptoCard

/-- THE SECOND FORM's CARD OF 'laws.FnTextBack'. -/
def fnTextBackUptoCard : Claim7 := { stood := { row := fnTextBackUptoRow, standIns := [], harness := (true, "4b70eb22f5a02e1d0de126ae3cbc2f2086a16d4441aa3705b2e54cffb6660a32"), looks := true }, kinds := [], alts := [], laidByText := true, laidKinds := [.data, .data, .data, .sentinel, .sentinel], laidTests := true, laidLooks := .later }
def FnTextBackUptoCardSaid : Prop := Claim7.holds Tryz.pinned (.plain (OpenSpec.upto fnTextBackSpec)) fnTextBackUptoCard

/-- THE SECOND FORM's CARD OF 'laws.FnIntersect'. -/
def fnIntersectUptoCard : Claim7 := { stood := { row := fnIntersectUptoRow, standIns := [], harness := (true, "4b70eb22f5a02e1d0de126ae3cbc2f2086a16d4441aa3705b2e54cffb6660a32"), looks := true }, kinds := [], alts := [], laidByText := true, laidKinds := [.data, .data, .data, .sentinel, .sentinel], laidTests := true, laidLooks := .later }
def FnIntersectUptoCardSaid : Prop := Claim7.holds Tryz.pinned (.plain (OpenSpec.upto fnIntersectSpec)) fnIntersectUptoCard

/-- THE SECOND FORM's CARD OF 'laws.FnIntersectSet'. -/
def fnIntersectSetUptoCard : Claim7 := { stood := { row := fnIntersectSetUptoRow, standIns := [], harness := (true, "4b70eb22f5a02e1d0de126ae3cbc2f2086a16d4441aa3705b2e54cffb6660a32"), looks := true }, kinds := [], alts := [], laidByText := true, laidKinds := [.data, .data, .data, .sentinel, .sentinel], laidTests := true, laidLooks := .later }
def FnIntersectSetUptoCardSaid : Prop := Claim7.holds Tryz.pinned (.plain (OpenSpec.upto fnIntersectSetSpec)) fnIntersectSetUptoCard

/-- THE SECOND FORM's CARD OF 'laws.FnMatchesAny'. -/
def fnMatchesAnyUptoCard : Claim7 := { stood := { row := fnMatchesAnyUptoRow, standIns := [], harness := (true, "4b70eb22f5a02e1d0de126ae3cbc2f2086a16d4441aa3705b2e54cffb6660a32"), looks := true }, kinds := [], alts := [], laidByText := true, laidKinds := [.data, .data, .data, .sentinel, .sentinel], laidTests := true, laidLooks := .later }
def FnMatchesAnyUptoCardSaid : Prop := Claim7.holds Tryz.pinned (.plain (OpenSpec.upto fnMatchesAnySpec)) fnMatchesAnyUptoCard

/-- THE SECOND FORM's CARD OF 'laws.FnIntersectAny'. -/
def fnIntersectAnyUptoCard : Claim7 := { stood := { row := fnIntersectAnyUptoRow, standIns := [], harness := (true, "4b70eb22f5a02e1d0de126ae3cbc2f2086a16d4441aa3705b2e54cffb6660a32"), looks := true }, kinds := [], alts := [], laidByText := true, laidKinds := [.data, .data, .data, .sentinel, .sentinel], laidTests := true, laidLooks := .later }
def FnIntersectAnyUptoCardSaid : Prop := Claim7.holds Tryz.pinned (.plain (OpenSpec.upto fnIntersectAnySpec)) fnIntersectAnyUptoCard
end Rows
end Go.Proofs.YtgoeiflddikihaaGreatDoor
