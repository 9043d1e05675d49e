/-
  DERIVED. GIVEN WITH THE SEED: THE CARDS: each row of YtopaileliohpdaaDoorRows.lean that lists a variable, with what it lists TIED to the program's text (the seventh form; the later family's looks); each row that meets fmt, with fmt's text TOLD by the authors' own Lean function (tested against real Go, not proved from fmt's source: count such statements apart). THE CARD IS WHAT COUNTS. Prove the row's statement (the work); the ties are given (YtopaileliohpdaaDoorTie.lean); close each card by the builder's one call (the guide's Derived/Test/ToyasCard.lean, 'card_holds'). Laid BY PROGRAM, IN A SANDBOX (cutbox-door.mjs). By AI agents, Wed Nov 11 2026. No macro, syntax, notation, axiom, sorry.
-/
import Derived.Test.YtopaileliohpdaaDoorRows
import GoSem.ClaimSeven
namespace Go.Proofs.YtopaileliohpdaaDoor
namespace Rows

/-- THE TIED CARD OF 'laws.FnSemverSetMeta'. -/
def fnSemverSetMetaCard : Claim7 := { stood := { row := fnSemverSetMetaRow, standIns := [], harness := (true, "2fed516011b7c9a1edbc5720c6d6b9f643cdbc98163deea41bc82ea86346a786"), looks := true }, kinds := [], alts := [], laidByText := true, laidKinds := [.data, .data, .data, .sentinel], laidTests := true, laidLooks := .later }
def FnSemverSetMetaCardSaid : Prop := Claim7.holds Tryd.pinned (.plain (OpenSpec.ofChange fnSemverSetMetaSpec)) fnSemverSetMetaCard

/-- THE TIED CARD OF 'laws.FnSemverPreFirst'. -/
def fnSemverPreFirstCard : Claim7 := { stood := { row := fnSemverPreFirstRow, standIns := [], harness := (true, "2fed516011b7c9a1edbc5720c6d6b9f643cdbc98163deea41bc82ea86346a786"), looks := true }, kinds := [], alts := [], laidByText := true, laidKinds := [.data, .data, .data, .sentinel, .sentinel], laidTests := true, laidLooks := .later }
def FnSemverPreFirstCardSaid : Prop := Claim7.holds Tryd.pinned (.plain (OpenSpec.ofChange fnSemverPreFirstSpec)) fnSemverPreFirstCard

/-- THE TIED CARD OF 'laws.FnSemverIncMajorLeast'. -/
def fnSemverIncMajorLeastCard : Claim7 := { stood := { row := fnSemverIncMajorLeastRow, standIns := [], harness := (true, "2fed516011b7c9a1edbc5720c6d6b9f643cdbc98163deea41bc82ea86346a786"), looks := true }, kinds := [], alts := [], laidByText := true, laidKinds := [.data, .data, .data, .sentinel, .sentinel], laidTests := true, laidLooks := .later }
def FnSemverIncMajorLeastCardSaid : Prop := Claim7.holds Tryd.pinned (.plain (OpenSpec.ofChange fnSemverIncMajorLeastSpec)) fnSemverIncMajorLeastCard

/-- THE TIED CARD OF 'laws.FnSemverBelowHolds'. -/
def fnSemverBelowHoldsCard : Claim7 := { stood := { row := fnSemverBelowHoldsRow, standIns := [], harness := (true, "2fed516011b7c9a1edbc5720c6d6b9f643cdbc98163deea41bc82ea86346a786"), looks := true }, kinds := [], alts := [], laidByText := true, laidKinds := [.data, .data, .data, .sentinel, .sentinel], laidTests := true, laidLooks := .later }
def FnSemverBelowHoldsCardSaid : Prop := Claim7.holds Tryd.pinned (.plain (OpenSpec.ofChange fnSemverBelowHoldsSpec)) fnSemverBelowHoldsCard

/-- THE TIED CARD OF 'laws.FnSemverBelowCompares'. -/
def fnSemverBelowComparesCard : Claim7 := { stood := { row := fnSemverBelowComparesRow, standIns := [], harness := (true, "2fed516011b7c9a1edbc5720c6d6b9f643cdbc98163deea41bc82ea86346a786"), looks := true }, kinds := [], alts := [], laidByText := true, laidKinds := [.data, .data, .data, .sentinel, .sentinel], laidTests := true, laidLooks := .later }
def FnSemverBelowComparesCardSaid : Prop := Claim7.holds Tryd.pinned (.plain (OpenSpec.ofChange fnSemverBelowComparesSpec)) fnSemverBelowComparesCard

/-- THE TIED CARD OF 'laws.FnSemverAboveInterval'. -/
def fnSemverAboveIntervalCard : Claim7 := { stood := { row := fnSemverAboveIntervalRow, standIns := [], harness := (true, "2fed516011b7c9a1edbc5720c6d6b9f643cdbc98163deea41bc82ea86346a786"), looks := true }, kinds := [], alts := [], laidByText := true, laidKinds := [.data, .data, .data, .sentinel, .sentinel], laidTests := true, laidLooks := .later }
def FnSemverAboveIntervalCardSaid : Prop := Claim7.holds Tryd.pinned (.plain (OpenSpec.ofChange fnSemverAboveIntervalSpec)) fnSemverAboveIntervalCard

/-- THE TIED CARD OF 'laws.FnSemverStrictNumbers'. -/
def fnSemverStrictNumbersCard : Claim7 := { stood := { row := fnSemverStrictNumbersRow, standIns := [], harness := (true, "2fed516011b7c9a1edbc5720c6d6b9f643cdbc98163deea41bc82ea86346a786"), looks := true }, kinds := [], alts := [], laidByText := true, laidKinds := [.data, .data, .data, .sentinel, .sentinel, .sentinel, .sentinel, .sentinel, .sentinel, .sentinel, .sentinel, .sentinel], laidTests := true, laidLooks := .later }
def FnSemverStrictNumbersCardSaid : Prop := Claim7.holds Tryd.pinned (.plain (OpenSpec.ofChange fnSemverStrictNumbersSpec)) fnSemverStrictNumbersCard

/-- THE TIED CARD OF 'laws.FnSemverCompareTexts'. -/
def fnSemverCompareTextsCard : Claim7 := { stood := { row := fnSemverCompareTextsRow, standIns := [], harness := (true, "2fed516011b7c9a1edbc5720c6d6b9f643cdbc98163deea41bc82ea86346a786"), looks := true }, kinds := [], alts := [], laidByText := true, laidKinds := [.data, .data, .data, .sentinel, .sentinel, .sentinel, .sentinel, .sentinel, .sentinel, .sentinel, .sentinel, .sentinel], laidTests := true, laidLooks := .later }
def FnSemverCompareTextsCardSaid : Prop := Claim7.holds Tryd.pinned (.plain (OpenSpec.ofChange fnSemverCompareTextsSpec)) fnSemverCompareTextsCard

/-- THE SECOND FORM's CARD OF 'laws.FnSemverSetMeta'. -/
def fnSemverSetMetaUptoCard : Claim7 := { stood := { row := fnSemverSetMetaUptoRow, standIns := [], harness := (true, "2fed516011b7c9a1edbc5720c6d6b9f643cdbc98163deea41bc82ea86346a786"), looks := true }, kinds := [], alts := [], laidByText := true, laidKinds := [.data, .data, .data, .sentinel], laidTests := true, laidLooks := .later }
def FnSemverSetMetaUptoCardSaid : Prop := Claim7.holds Tryd.pinned (.plain (OpenSpec.upto fnSemverSetMetaSpec)) fnSemverSetMetaUptoCard

/-- THE SECOND FORM's CARD OF 'laws.FnSemverPreFirst'. -/
def fnSemverPreFirstUptoCard : Claim7 := { stood := { row := fnSemverPreFirstUptoRow, standIns := [], harness := (true, "2fed516011b7c9a1edbc5720c6d6b9f643cdbc98163deea41bc82ea86346a786"), looks := true }, kinds := [], alts := [], laidByText := true, laidKinds := [.data, .data, .data, .sentinel, .sentinel], laidTests := true, laidLooks := .later }
def FnSemverPreFirstUptoCardSaid : Prop := Claim7.holds Tryd.pinned (.plain (OpenSpec.upto fnSemverPreFirstSpec)) fnSemverPreFirstUptoCard

/-- THE SECOND FORM's CARD OF 'laws.FnSemverIncMajorLeast'. -/
def fnSemverIncMajorLeastUptoCard : Claim7 := { stood := { row := fnSemverIncMajorLeastUptoRow, standIns := [], harness := (true, "2fed516011b7c9a1edbc5720c6d6b9f643cdbc98163deea41bc82ea86346a786"), looks := true }, kinds := [], alts := [], laidByText := true, laidKinds := [.data, .data, .data, .sentinel, .sentinel], laidTests := true, laidLooks := .later }
def FnSemverIncMajorLeastUptoCardSaid : Prop := Claim7.holds Tryd.pinned (.plain (OpenSpec.upto fnSemverIncMajorLeastSpec)) fnSemverIncMajorLeastUptoCard

/-- THE SECOND FORM's CARD OF 'laws.FnSemverBelowHolds'. -/
def fnSemverBelowHoldsUptoCard : Claim7 := { stood := { row := fnSemverBelowHoldsUptoRow, standIns := [], harness := (true, "2fed516011b7c9a1edbc5720c6d6b9f643cdbc98163deea41bc82ea86346a786"), looks := true }, kinds := [], alts := [], laidByText := true, laidKinds := [.data, .data, .data, .sentinel, .sentinel], laidTests := true, laidLooks := .later }
def FnSemverBelowHoldsUptoCardSaid : Prop := Claim7.holds Tryd.pinned (.plain (OpenSpec.upto fnSemverBelowHoldsSpec)) fnSemverBelowHoldsUptoCard

/-- THE SECOND FORM's CARD OF 'laws.FnSemverBelowCompares'. -/
def fnSemverBelowComparesUptoCard : Claim7 := { stood := { row := fnSemverBelowComparesUptoRow, standIns := [], harness := (true, "2fed516011b7c9a1edbc5720c6d6b9f643cdbc98163deea41bc82ea86346a786"), looks := true }, kinds := [], alts := [], laidByText := true, laidKinds := [.data, .data, .data, .sentinel, .sentinel], laidTests := true, laidLooks := .later }
def FnSemverBelowComparesUptoCardSaid : Prop := Claim7.holds Tryd.pinned (.plain (OpenSpec.upto fnSemverBelowComparesSpec)) fnSemverBelowComparesUptoCard

/-- THE SECOND FORM's CARD OF 'laws.FnSemverAboveInterval'. -/
def fnSemverAboveIntervalUptoCard : Claim7 := { stood := { row := fnSemverAboveIntervalUptoRow, standIns := [], harness := (true, "2fed516011b7c9a1edbc5720c6d6b9f643cdbc98163deea41bc82ea86346a786"), looks := true }, kinds := [], alts := [], laidByText := true, laidKinds := [.data, .data, .data, .sentinel, .sentinel], laidTests := true, laidLooks := .later }
def FnSemverAboveIntervalUptoCardSaid : Prop := Claim7.holds Tryd.pinned (.plain (OpenSpec.upto fnSemverAboveIntervalSpec)) fnSemverAboveIntervalUptoCard

/-- THE SECOND FORM's CARD OF 'laws.FnSemverStrictNumbers'. -/
def fnSemverStrictNumbersUptoCard : Claim7 := { stood := { row := fnSemverStrictNumbersUptoRow, standIns := [], harness := (true, "2fed516011b7c9a1edbc5720c6d6b9f643cdbc98163deea41bc82ea86346a786"), looks := true }, kinds := [], alts := [], laidByText := true, laidKinds := [.data, .data, .data, .sentinel, .sentinel, .sentinel, .sentinel, .sentinel, .sentinel, .sentinel, .sentinel, .sentinel], laidTests := true, laidLooks := .later }
def FnSemverStrictNumbersUptoCardSaid : Prop := Claim7.holds Tryd.pinned (.plain (OpenSpec.upto fnSemverStrictNumbersSpec)) fnSemverStrictNumbersUptoCard

/-- THE SECOND FORM's CARD OF 'laws.FnSemverCompareTexts'. -/
def fnSemverCompareTextsUptoCard : Claim7 := { stood := { row := fnSemverCompareTextsUptoRow, standIns := [], harness := (true, "2fed516011b7c9a1edbc5720c6d6b9f643cdbc98163deea41bc82ea86346a786"), looks := true }, kinds := [], alts := [], laidByText := true, laidKinds := [.data, .data, .data, .sentinel, .sentinel, .sentinel, .sentinel, .sentinel, .sentinel, .sentinel, .sentinel, .sentinel], laidTests := true, laidLooks := .later }
def FnSemverCompareTextsUptoCardSaid : Prop := Claim7.holds Tryd.pinned (.plain (OpenSpec.upto fnSemverCompareTextsSpec)) fnSemverCompareTextsUptoCard
end Rows
end Go.Proofs.YtopaileliohpdaaDoor
