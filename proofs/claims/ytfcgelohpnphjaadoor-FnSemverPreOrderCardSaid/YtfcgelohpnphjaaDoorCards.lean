/-
  DERIVED. GIVEN WITH THE SEED: THE CARDS: each row of YtfcgelohpnphjaaDoorRows.lean that lists a variable, with what it lists TIED to the program's text (the seventh form; the later family's looks); each row that meets fmt, with fmt's text TOLD by the authors' own Lean function (tested against real Go, not proved from fmt's source: count such statements apart). THE CARD IS WHAT COUNTS. Prove the row's statement (the work); the ties are given (YtfcgelohpnphjaaDoorTie.lean); close each card by the builder's one call (the guide's Derived/Test/ToyasCard.lean, 'card_holds'). Laid BY PROGRAM, IN A SANDBOX (cutbox-door.mjs). By AI agents, Wed Nov 11 2026. No macro, syntax, notation, axiom, sorry.
-/
import Derived.Test.YtfcgelohpnphjaaDoorRows
import GoSem.ClaimSeven
namespace Go.Proofs.YtfcgelohpnphjaaDoor
namespace Rows

/-- THE TIED CARD OF 'laws.FnSemverMetaKind'. -/
def fnSemverMetaKindCard : Claim7 := { stood := { row := fnSemverMetaKindRow, standIns := [], harness := (true, "4852e1f810937b80d6efb751aae4947f0e1f63ee5ce5facedca98792226ef304"), looks := true }, kinds := [], alts := [], laidByText := true, laidKinds := [.sentinel, .sentinel, .sentinel, .sentinel, .sentinel, .sentinel, .sentinel, .sentinel, .sentinel], laidTests := true, laidLooks := .later }
def FnSemverMetaKindCardSaid : Prop := Claim7.holds Tryd.pinned (.plain (OpenSpec.ofChange fnSemverMetaKindSpec)) fnSemverMetaKindCard

/-- THE TIED CARD OF 'laws.FnSemverKindsChecks'. -/
def fnSemverKindsChecksCard : Claim7 := { stood := { row := fnSemverKindsChecksRow, standIns := [], harness := (true, "4852e1f810937b80d6efb751aae4947f0e1f63ee5ce5facedca98792226ef304"), looks := true }, kinds := [], alts := [], laidByText := true, laidKinds := [.sentinel, .sentinel, .sentinel, .sentinel, .sentinel, .sentinel, .sentinel, .sentinel, .sentinel], laidTests := true, laidLooks := .later }
def FnSemverKindsChecksCardSaid : Prop := Claim7.holds Tryd.pinned (.plain (OpenSpec.ofChange fnSemverKindsChecksSpec)) fnSemverKindsChecksCard

/-- THE TIED CARD OF 'laws.FnSemverSetMeta'. -/
def fnSemverSetMetaCard : Claim7 := { stood := { row := fnSemverSetMetaRow, standIns := [], harness := (true, "4852e1f810937b80d6efb751aae4947f0e1f63ee5ce5facedca98792226ef304"), looks := true }, kinds := [], alts := [], laidByText := true, laidKinds := [.data, .data, .data, .sentinel], laidTests := true, laidLooks := .later }
def FnSemverSetMetaCardSaid : Prop := Claim7.holds Tryd.pinned (.plain (OpenSpec.ofChange fnSemverSetMetaSpec)) fnSemverSetMetaCard

/-- THE TIED CARD OF 'laws.FnSemverPreOrder'. -/
def fnSemverPreOrderCard : Claim7 := { stood := { row := fnSemverPreOrderRow, standIns := [], harness := (true, "4852e1f810937b80d6efb751aae4947f0e1f63ee5ce5facedca98792226ef304"), looks := true }, kinds := [], alts := [], laidByText := true, laidKinds := [.data, .data, .data, .sentinel, .sentinel], laidTests := true, laidLooks := .later }
def FnSemverPreOrderCardSaid : Prop := Claim7.holds Tryd.pinned (.plain (OpenSpec.ofChange fnSemverPreOrderSpec)) fnSemverPreOrderCard

/-- THE TIED CARD OF 'laws.FnSemverPreFirst'. -/
def fnSemverPreFirstCard : Claim7 := { stood := { row := fnSemverPreFirstRow, standIns := [], harness := (true, "4852e1f810937b80d6efb751aae4947f0e1f63ee5ce5facedca98792226ef304"), looks := true }, kinds := [], alts := [], laidByText := true, laidKinds := [.data, .data, .data, .sentinel, .sentinel], laidTests := true, laidLooks := .later }
def FnSemverPreFirstCardSaid : Prop := Claim7.holds Tryd.pinned (.plain (OpenSpec.ofChange fnSemverPreFirstSpec)) fnSemverPreFirstCard

/-- THE TIED CARD OF 'laws.FnSemverStrictNumbers'. -/
def fnSemverStrictNumbersCard : Claim7 := { stood := { row := fnSemverStrictNumbersRow, standIns := [], harness := (true, "4852e1f810937b80d6efb751aae4947f0e1f63ee5ce5facedca98792226ef304"), looks := true }, kinds := [], alts := [], laidByText := true, laidKinds := [.data, .data, .data, .sentinel, .sentinel, .sentinel, .sentinel, .sentinel, .sentinel, .sentinel, .sentinel, .sentinel], laidTests := true, laidLooks := .later }
def FnSemverStrictNumbersCardSaid : Prop := Claim7.holds Tryd.pinned (.plain (OpenSpec.ofChange fnSemverStrictNumbersSpec)) fnSemverStrictNumbersCard

/-- THE TIED CARD OF 'laws.FnSemverBelowHolds'. -/
def fnSemverBelowHoldsCard : Claim7 := { stood := { row := fnSemverBelowHoldsRow, standIns := [], harness := (true, "4852e1f810937b80d6efb751aae4947f0e1f63ee5ce5facedca98792226ef304"), looks := true }, kinds := [], alts := [], laidByText := true, laidKinds := [.data, .data, .data, .sentinel, .sentinel], laidTests := true, laidLooks := .later }
def FnSemverBelowHoldsCardSaid : Prop := Claim7.holds Tryd.pinned (.plain (OpenSpec.ofChange fnSemverBelowHoldsSpec)) fnSemverBelowHoldsCard

/-- THE TIED CARD OF 'laws.FnSemverBelowCompares'. -/
def fnSemverBelowComparesCard : Claim7 := { stood := { row := fnSemverBelowComparesRow, standIns := [], harness := (true, "4852e1f810937b80d6efb751aae4947f0e1f63ee5ce5facedca98792226ef304"), looks := true }, kinds := [], alts := [], laidByText := true, laidKinds := [.data, .data, .data, .sentinel, .sentinel], laidTests := true, laidLooks := .later }
def FnSemverBelowComparesCardSaid : Prop := Claim7.holds Tryd.pinned (.plain (OpenSpec.ofChange fnSemverBelowComparesSpec)) fnSemverBelowComparesCard

/-- THE TIED CARD OF 'laws.FnSemverIncMajorLeast'. -/
def fnSemverIncMajorLeastCard : Claim7 := { stood := { row := fnSemverIncMajorLeastRow, standIns := [], harness := (true, "4852e1f810937b80d6efb751aae4947f0e1f63ee5ce5facedca98792226ef304"), looks := true }, kinds := [], alts := [], laidByText := true, laidKinds := [.data, .data, .data, .sentinel, .sentinel], laidTests := true, laidLooks := .later }
def FnSemverIncMajorLeastCardSaid : Prop := Claim7.holds Tryd.pinned (.plain (OpenSpec.ofChange fnSemverIncMajorLeastSpec)) fnSemverIncMajorLeastCard

/-- THE TIED CARD OF 'laws.FnSemverAboveInterval'. -/
def fnSemverAboveIntervalCard : Claim7 := { stood := { row := fnSemverAboveIntervalRow, standIns := [], harness := (true, "4852e1f810937b80d6efb751aae4947f0e1f63ee5ce5facedca98792226ef304"), looks := true }, kinds := [], alts := [], laidByText := true, laidKinds := [.data, .data, .data, .sentinel, .sentinel], laidTests := true, laidLooks := .later }
def FnSemverAboveIntervalCardSaid : Prop := Claim7.holds Tryd.pinned (.plain (OpenSpec.ofChange fnSemverAboveIntervalSpec)) fnSemverAboveIntervalCard

/-- THE TIED CARD OF 'laws.FnSemverCompareTexts'. -/
def fnSemverCompareTextsCard : Claim7 := { stood := { row := fnSemverCompareTextsRow, standIns := [], harness := (true, "4852e1f810937b80d6efb751aae4947f0e1f63ee5ce5facedca98792226ef304"), looks := true }, kinds := [], alts := [], laidByText := true, laidKinds := [.data, .data, .data, .sentinel, .sentinel, .sentinel, .sentinel, .sentinel, .sentinel, .sentinel, .sentinel, .sentinel], laidTests := true, laidLooks := .later }
def FnSemverCompareTextsCardSaid : Prop := Claim7.holds Tryd.pinned (.plain (OpenSpec.ofChange fnSemverCompareTextsSpec)) fnSemverCompareTextsCard

/-- THE TIED CARD OF 'laws.FnSemverTermUp'. -/
def fnSemverTermUpCard : Claim7 := { stood := { row := fnSemverTermUpRow, standIns := [], harness := (true, "4852e1f810937b80d6efb751aae4947f0e1f63ee5ce5facedca98792226ef304"), looks := true }, kinds := [], alts := [], laidByText := true, laidKinds := [.data, .data, .data, .sentinel, .sentinel], laidTests := true, laidLooks := .later }
def FnSemverTermUpCardSaid : Prop := Claim7.holds Tryd.pinned (.plain (OpenSpec.ofChange fnSemverTermUpSpec)) fnSemverTermUpCard

/-- THE TIED CARD OF 'laws.FnSemverCross'. -/
def fnSemverCrossCard : Claim7 := { stood := { row := fnSemverCrossRow, standIns := [], harness := (true, "4852e1f810937b80d6efb751aae4947f0e1f63ee5ce5facedca98792226ef304"), looks := true }, kinds := [], alts := [], laidByText := true, laidKinds := [.data, .data, .data, .sentinel, .sentinel], laidTests := true, laidLooks := .later }
def FnSemverCrossCardSaid : Prop := Claim7.holds Tryd.pinned (.plain (OpenSpec.ofChange fnSemverCrossSpec)) fnSemverCrossCard

/-- THE TIED CARD OF 'laws.FnSemverTermsBoth'. -/
def fnSemverTermsBothCard : Claim7 := { stood := { row := fnSemverTermsBothRow, standIns := [], harness := (true, "4852e1f810937b80d6efb751aae4947f0e1f63ee5ce5facedca98792226ef304"), looks := true }, kinds := [], alts := [], laidByText := true, laidKinds := [.data, .data, .data, .sentinel, .sentinel], laidTests := true, laidLooks := .later }
def FnSemverTermsBothCardSaid : Prop := Claim7.holds Tryd.pinned (.plain (OpenSpec.ofChange fnSemverTermsBothSpec)) fnSemverTermsBothCard

/-- THE TIED CARD OF 'laws.FnSemverTermsHold'. -/
def fnSemverTermsHoldCard : Claim7 := { stood := { row := fnSemverTermsHoldRow, standIns := [], harness := (true, "4852e1f810937b80d6efb751aae4947f0e1f63ee5ce5facedca98792226ef304"), looks := true }, kinds := [], alts := [], laidByText := true, laidKinds := [.data, .data, .data, .sentinel, .sentinel], laidTests := true, laidLooks := .later }
def FnSemverTermsHoldCardSaid : Prop := Claim7.holds Tryd.pinned (.plain (OpenSpec.ofChange fnSemverTermsHoldSpec)) fnSemverTermsHoldCard

/-- THE TIED CARD OF 'laws.FnSemverTermUpgrade'. -/
def fnSemverTermUpgradeCard : Claim7 := { stood := { row := fnSemverTermUpgradeRow, standIns := [], harness := (true, "4852e1f810937b80d6efb751aae4947f0e1f63ee5ce5facedca98792226ef304"), looks := true }, kinds := [], alts := [], laidByText := true, laidKinds := [.data, .data, .data, .sentinel, .sentinel], laidTests := true, laidLooks := .later }
def FnSemverTermUpgradeCardSaid : Prop := Claim7.holds Tryd.pinned (.plain (OpenSpec.ofChange fnSemverTermUpgradeSpec)) fnSemverTermUpgradeCard

/-- THE SECOND FORM's CARD OF 'laws.FnSemverMetaKind'. -/
def fnSemverMetaKindUptoCard : Claim7 := { stood := { row := fnSemverMetaKindUptoRow, standIns := [], harness := (true, "4852e1f810937b80d6efb751aae4947f0e1f63ee5ce5facedca98792226ef304"), looks := true }, kinds := [], alts := [], laidByText := true, laidKinds := [.sentinel, .sentinel, .sentinel, .sentinel, .sentinel, .sentinel, .sentinel, .sentinel, .sentinel], laidTests := true, laidLooks := .later }
def FnSemverMetaKindUptoCardSaid : Prop := Claim7.holds Tryd.pinned (.plain (OpenSpec.upto fnSemverMetaKindSpec)) fnSemverMetaKindUptoCard

/-- THE SECOND FORM's CARD OF 'laws.FnSemverKindsChecks'. -/
def fnSemverKindsChecksUptoCard : Claim7 := { stood := { row := fnSemverKindsChecksUptoRow, standIns := [], harness := (true, "4852e1f810937b80d6efb751aae4947f0e1f63ee5ce5facedca98792226ef304"), looks := true }, kinds := [], alts := [], laidByText := true, laidKinds := [.sentinel, .sentinel, .sentinel, .sentinel, .sentinel, .sentinel, .sentinel, .sentinel, .sentinel], laidTests := true, laidLooks := .later }
def FnSemverKindsChecksUptoCardSaid : Prop := Claim7.holds Tryd.pinned (.plain (OpenSpec.upto fnSemverKindsChecksSpec)) fnSemverKindsChecksUptoCard

/-- THE SECOND FORM's CARD OF 'laws.FnSemverSetMeta'. -/
def fnSemverSetMetaUptoCard : Claim7 := { stood := { row := fnSemverSetMetaUptoRow, standIns := [], harness := (true, "4852e1f810937b80d6efb751aae4947f0e1f63ee5ce5facedca98792226ef304"), looks := true }, kinds := [], alts := [], laidByText := true, laidKinds := [.data, .data, .data, .sentinel], laidTests := true, laidLooks := .later }
def FnSemverSetMetaUptoCardSaid : Prop := Claim7.holds Tryd.pinned (.plain (OpenSpec.upto fnSemverSetMetaSpec)) fnSemverSetMetaUptoCard

/-- THE SECOND FORM's CARD OF 'laws.FnSemverPreOrder'. -/
def fnSemverPreOrderUptoCard : Claim7 := { stood := { row := fnSemverPreOrderUptoRow, standIns := [], harness := (true, "4852e1f810937b80d6efb751aae4947f0e1f63ee5ce5facedca98792226ef304"), looks := true }, kinds := [], alts := [], laidByText := true, laidKinds := [.data, .data, .data, .sentinel, .sentinel], laidTests := true, laidLooks := .later }
def FnSemverPreOrderUptoCardSaid : Prop := Claim7.holds Tryd.pinned (.plain (OpenSpec.upto fnSemverPreOrderSpec)) fnSemverPreOrderUptoCard

/-- THE SECOND FORM's CARD OF 'laws.FnSemverPreFirst'. -/
def fnSemverPreFirstUptoCard : Claim7 := { stood := { row := fnSemverPreFirstUptoRow, standIns := [], harness := (true, "4852e1f810937b80d6efb751aae4947f0e1f63ee5ce5facedca98792226ef304"), looks := true }, kinds := [], alts := [], laidByText := true, laidKinds := [.data, .data, .data, .sentinel, .sentinel], laidTests := true, laidLooks := .later }
def FnSemverPreFirstUptoCardSaid : Prop := Claim7.holds Tryd.pinned (.plain (OpenSpec.upto fnSemverPreFirstSpec)) fnSemverPreFirstUptoCard

/-- THE SECOND FORM's CARD OF 'laws.FnSemverStrictNumbers'. -/
def fnSemverStrictNumbersUptoCard : Claim7 := { stood := { row := fnSemverStrictNumbersUptoRow, standIns := [], harness := (true, "4852e1f810937b80d6efb751aae4947f0e1f63ee5ce5facedca98792226ef304"), looks := true }, kinds := [], alts := [], laidByText := true, laidKinds := [.data, .data, .data, .sentinel, .sentinel, .sentinel, .sentinel, .sentinel, .sentinel, .sentinel, .sentinel, .sentinel], laidTests := true, laidLooks := .later }
def FnSemverStrictNumbersUptoCardSaid : Prop := Claim7.holds Tryd.pinned (.plain (OpenSpec.upto fnSemverStrictNumbersSpec)) fnSemverStrictNumbersUptoCard

/-- THE SECOND FORM's CARD OF 'laws.FnSemverBelowHolds'. -/
def fnSemverBelowHoldsUptoCard : Claim7 := { stood := { row := fnSemverBelowHoldsUptoRow, standIns := [], harness := (true, "4852e1f810937b80d6efb751aae4947f0e1f63ee5ce5facedca98792226ef304"), looks := true }, kinds := [], alts := [], laidByText := true, laidKinds := [.data, .data, .data, .sentinel, .sentinel], laidTests := true, laidLooks := .later }
def FnSemverBelowHoldsUptoCardSaid : Prop := Claim7.holds Tryd.pinned (.plain (OpenSpec.upto fnSemverBelowHoldsSpec)) fnSemverBelowHoldsUptoCard

/-- THE SECOND FORM's CARD OF 'laws.FnSemverBelowCompares'. -/
def fnSemverBelowComparesUptoCard : Claim7 := { stood := { row := fnSemverBelowComparesUptoRow, standIns := [], harness := (true, "4852e1f810937b80d6efb751aae4947f0e1f63ee5ce5facedca98792226ef304"), looks := true }, kinds := [], alts := [], laidByText := true, laidKinds := [.data, .data, .data, .sentinel, .sentinel], laidTests := true, laidLooks := .later }
def FnSemverBelowComparesUptoCardSaid : Prop := Claim7.holds Tryd.pinned (.plain (OpenSpec.upto fnSemverBelowComparesSpec)) fnSemverBelowComparesUptoCard

/-- THE SECOND FORM's CARD OF 'laws.FnSemverIncMajorLeast'. -/
def fnSemverIncMajorLeastUptoCard : Claim7 := { stood := { row := fnSemverIncMajorLeastUptoRow, standIns := [], harness := (true, "4852e1f810937b80d6efb751aae4947f0e1f63ee5ce5facedca98792226ef304"), looks := true }, kinds := [], alts := [], laidByText := true, laidKinds := [.data, .data, .data, .sentinel, .sentinel], laidTests := true, laidLooks := .later }
def FnSemverIncMajorLeastUptoCardSaid : Prop := Claim7.holds Tryd.pinned (.plain (OpenSpec.upto fnSemverIncMajorLeastSpec)) fnSemverIncMajorLeastUptoCard

/-- THE SECOND FORM's CARD OF 'laws.FnSemverAboveInterval'. -/
def fnSemverAboveIntervalUptoCard : Claim7 := { stood := { row := fnSemverAboveIntervalUptoRow, standIns := [], harness := (true, "4852e1f810937b80d6efb751aae4947f0e1f63ee5ce5facedca98792226ef304"), looks := true }, kinds := [], alts := [], laidByText := true, laidKinds := [.data, .data, .data, .sentinel, .sentinel], laidTests := true, laidLooks := .later }
def FnSemverAboveIntervalUptoCardSaid : Prop := Claim7.holds Tryd.pinned (.plain (OpenSpec.upto fnSemverAboveIntervalSpec)) fnSemverAboveIntervalUptoCard

/-- THE SECOND FORM's CARD OF 'laws.FnSemverCompareTexts'. -/
def fnSemverCompareTextsUptoCard : Claim7 := { stood := { row := fnSemverCompareTextsUptoRow, standIns := [], harness := (true, "4852e1f810937b80d6efb751aae4947f0e1f63ee5ce5facedca98792226ef304"), looks := true }, kinds := [], alts := [], laidByText := true, laidKinds := [.data, .data, .data, .sentinel, .sentinel, .sentinel, .sentinel, .sentinel, .sentinel, .sentinel, .sentinel, .sentinel], laidTests := true, laidLooks := .later }
def FnSemverCompareTextsUptoCardSaid : Prop := Claim7.holds Tryd.pinned (.plain (OpenSpec.upto fnSemverCompareTextsSpec)) fnSemverCompareTextsUptoCard

/-- THE SECOND FORM's CARD OF 'laws.FnSemverTermUp'. -/
def fnSemverTermUpUptoCard : Claim7 := { stood := { row := fnSemverTermUpUptoRow, standIns := [], harness := (true, "4852e1f810937b80d6efb751aae4947f0e1f63ee5ce5facedca98792226ef304"), looks := true }, kinds := [], alts := [], laidByText := true, laidKinds := [.data, .data, .data, .sentinel, .sentinel], laidTests := true, laidLooks := .later }
def FnSemverTermUpUptoCardSaid : Prop := Claim7.holds Tryd.pinned (.plain (OpenSpec.upto fnSemverTermUpSpec)) fnSemverTermUpUptoCard

/-- THE SECOND FORM's CARD OF 'laws.FnSemverCross'. -/
def fnSemverCrossUptoCard : Claim7 := { stood := { row := fnSemverCrossUptoRow, standIns := [], harness := (true, "4852e1f810937b80d6efb751aae4947f0e1f63ee5ce5facedca98792226ef304"), looks := true }, kinds := [], alts := [], laidByText := true, laidKinds := [.data, .data, .data, .sentinel, .sentinel], laidTests := true, laidLooks := .later }
def FnSemverCrossUptoCardSaid : Prop := Claim7.holds Tryd.pinned (.plain (OpenSpec.upto fnSemverCrossSpec)) fnSemverCrossUptoCard

/-- THE SECOND FORM's CARD OF 'laws.FnSemverTermsBoth'. -/
def fnSemverTermsBothUptoCard : Claim7 := { stood := { row := fnSemverTermsBothUptoRow, standIns := [], harness := (true, "4852e1f810937b80d6efb751aae4947f0e1f63ee5ce5facedca98792226ef304"), looks := true }, kinds := [], alts := [], laidByText := true, laidKinds := [.data, .data, .data, .sentinel, .sentinel], laidTests := true, laidLooks := .later }
def FnSemverTermsBothUptoCardSaid : Prop := Claim7.holds Tryd.pinned (.plain (OpenSpec.upto fnSemverTermsBothSpec)) fnSemverTermsBothUptoCard

/-- THE SECOND FORM's CARD OF 'laws.FnSemverTermsHold'. -/
def fnSemverTermsHoldUptoCard : Claim7 := { stood := { row := fnSemverTermsHoldUptoRow, standIns := [], harness := (true, "4852e1f810937b80d6efb751aae4947f0e1f63ee5ce5facedca98792226ef304"), looks := true }, kinds := [], alts := [], laidByText := true, laidKinds := [.data, .data, .data, .sentinel, .sentinel], laidTests := true, laidLooks := .later }
def FnSemverTermsHoldUptoCardSaid : Prop := Claim7.holds Tryd.pinned (.plain (OpenSpec.upto fnSemverTermsHoldSpec)) fnSemverTermsHoldUptoCard

/-- THE SECOND FORM's CARD OF 'laws.FnSemverTermUpgrade'. -/
def fnSemverTermUpgradeUptoCard : Claim7 := { stood := { row := fnSemverTermUpgradeUptoRow, standIns := [], harness := (true, "4852e1f810937b80d6efb751aae4947f0e1f63ee5ce5facedca98792226ef304"), looks := true }, kinds := [], alts := [], laidByText := true, laidKinds := [.data, .data, .data, .sentinel, .sentinel], laidTests := true, laidLooks := .later }
def FnSemverTermUpgradeUptoCardSaid : Prop := Claim7.holds Tryd.pinned (.plain (OpenSpec.upto fnSemverTermUpgradeSpec)) fnSemverTermUpgradeUptoCard
end Rows
end Go.Proofs.YtfcgelohpnphjaaDoor
