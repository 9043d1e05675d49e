/-
  DERIVED. GIVEN WITH THE SEED: THE CARDS: each row of YtjipjhpehfbpkaaDoorRows.lean that lists a variable, with what it lists TIED to the program's text (the seventh form; the later family's looks); each row that meets fmt, with fmt's text TOLD by the authors' own Lean function (tested against real Go, not proved from fmt's source: count such statements apart). THE CARD IS WHAT COUNTS. Prove the row's statement (the work); the ties are given (YtjipjhpehfbpkaaDoorTie.lean); close each card by the builder's one call (the guide's Derived/Test/ToyasCard.lean, 'card_holds'). Laid BY PROGRAM, IN A SANDBOX (cutbox-door.mjs). By AI agents, Wed Nov 11 2026. No macro, syntax, notation, axiom, sorry.
-/
import Derived.Test.YtjipjhpehfbpkaaDoorRows
import GoSem.ClaimSeven
namespace Go.Proofs.YtjipjhpehfbpkaaDoor
namespace Rows

/-- THE TIED CARD OF 'laws.FnCronQuestion'. -/
def fnCronQuestionCard : Claim7 := { stood := { row := fnCronQuestionRow, standIns := [], harness := (true, "5b3551ffe6a180e09ef77d22a0c0e49c97e33303f12fbbe20997b47161bb4b4d"), looks := true }, kinds := [], alts := [], laidByText := true, laidKinds := [.data, .data, .data, .sentinel, .sentinel], laidTests := true, laidLooks := .later }
def FnCronQuestionCardSaid : Prop := Claim7.holds Tryd.pinned (.plain (OpenSpec.ofChange fnCronQuestionSpec)) fnCronQuestionCard

/-- THE TIED CARD OF 'laws.FnCronFieldReadBack'. -/
def fnCronFieldReadBackCard : Claim7 := { stood := { row := fnCronFieldReadBackRow, standIns := [], harness := (true, "5b3551ffe6a180e09ef77d22a0c0e49c97e33303f12fbbe20997b47161bb4b4d"), looks := true }, kinds := [], alts := [], laidByText := true, laidKinds := [.data, .data, .data, .sentinel, .sentinel], laidTests := true, laidLooks := .later }
def FnCronFieldReadBackCardSaid : Prop := Claim7.holds Tryd.pinned (.plain (OpenSpec.ofChange fnCronFieldReadBackSpec)) fnCronFieldReadBackCard

/-- THE SECOND FORM's CARD OF 'laws.FnCronQuestion'. -/
def fnCronQuestionUptoCard : Claim7 := { stood := { row := fnCronQuestionUptoRow, standIns := [], harness := (true, "5b3551ffe6a180e09ef77d22a0c0e49c97e33303f12fbbe20997b47161bb4b4d"), looks := true }, kinds := [], alts := [], laidByText := true, laidKinds := [.data, .data, .data, .sentinel, .sentinel], laidTests := true, laidLooks := .later }
def FnCronQuestionUptoCardSaid : Prop := Claim7.holds Tryd.pinned (.plain (OpenSpec.upto fnCronQuestionSpec)) fnCronQuestionUptoCard

/-- THE SECOND FORM's CARD OF 'laws.FnCronFieldReadBack'. -/
def fnCronFieldReadBackUptoCard : Claim7 := { stood := { row := fnCronFieldReadBackUptoRow, standIns := [], harness := (true, "5b3551ffe6a180e09ef77d22a0c0e49c97e33303f12fbbe20997b47161bb4b4d"), looks := true }, kinds := [], alts := [], laidByText := true, laidKinds := [.data, .data, .data, .sentinel, .sentinel], laidTests := true, laidLooks := .later }
def FnCronFieldReadBackUptoCardSaid : Prop := Claim7.holds Tryd.pinned (.plain (OpenSpec.upto fnCronFieldReadBackSpec)) fnCronFieldReadBackUptoCard
end Rows
end Go.Proofs.YtjipjhpehfbpkaaDoor
