/-
  DERIVED. GIVEN WITH THE SEED: THE CARDS: each row of YtkjnajkbkaikaaaDoorRows.lean that lists a variable, with what it lists TIED to the program's text (the seventh form; the later family's looks); each row that meets fmt, with fmt's text TOLD by the authors' own Lean function (tested against real Go, not proved from fmt's source: count such statements apart). THE CARD IS WHAT COUNTS. Prove the row's statement (the work); the ties are given (YtkjnajkbkaikaaaDoorTie.lean); close each card by the builder's one call (the guide's Derived/Test/ToyasCard.lean, 'card_holds'). Laid BY PROGRAM, IN A SANDBOX (cutbox-door.mjs). By AI agents, Wed Nov 11 2026. No macro, syntax, notation, axiom, sorry.
-/
import Derived.Test.YtkjnajkbkaikaaaDoorRows
import GoSem.ClaimSeven
namespace Go.Proofs.YtkjnajkbkaikaaaDoor
namespace Rows

/-- THE TIED CARD OF 'laws.FnCronNumberJoined'. -/
def fnCronNumberJoinedCard : Claim7 := { stood := { row := fnCronNumberJoinedRow, standIns := [], harness := (true, "7ce123cd528116fb39505d20b1f6cffa34bc0706fa140c163627e759ea7b0f6e"), looks := true }, kinds := [], alts := [], laidByText := true, laidKinds := [.data, .data, .data, .sentinel, .sentinel], laidTests := true, laidLooks := .later }
def FnCronNumberJoinedCardSaid : Prop := Claim7.holds Tryd.pinned (.plain (OpenSpec.ofChange fnCronNumberJoinedSpec)) fnCronNumberJoinedCard

/-- THE TIED CARD OF 'laws.FnCronRangeTurned'. -/
def fnCronRangeTurnedCard : Claim7 := { stood := { row := fnCronRangeTurnedRow, standIns := [], harness := (true, "7ce123cd528116fb39505d20b1f6cffa34bc0706fa140c163627e759ea7b0f6e"), looks := true }, kinds := [], alts := [], laidByText := true, laidKinds := [.data, .data, .data, .sentinel, .sentinel], laidTests := true, laidLooks := .later }
def FnCronRangeTurnedCardSaid : Prop := Claim7.holds Tryd.pinned (.plain (OpenSpec.ofChange fnCronRangeTurnedSpec)) fnCronRangeTurnedCard

/-- THE TIED CARD OF 'laws.FnCronFieldRuns'. -/
def fnCronFieldRunsCard : Claim7 := { stood := { row := fnCronFieldRunsRow, standIns := [], harness := (true, "7ce123cd528116fb39505d20b1f6cffa34bc0706fa140c163627e759ea7b0f6e"), looks := true }, kinds := [], alts := [], laidByText := true, laidKinds := [.data, .data, .data, .sentinel, .sentinel], laidTests := true, laidLooks := .later }
def FnCronFieldRunsCardSaid : Prop := Claim7.holds Tryd.pinned (.plain (OpenSpec.ofChange fnCronFieldRunsSpec)) fnCronFieldRunsCard

/-- THE TIED CARD OF 'laws.FnCronQuestion'. -/
def fnCronQuestionCard : Claim7 := { stood := { row := fnCronQuestionRow, standIns := [], harness := (true, "7ce123cd528116fb39505d20b1f6cffa34bc0706fa140c163627e759ea7b0f6e"), looks := true }, kinds := [], alts := [], laidByText := true, laidKinds := [.data, .data, .data, .sentinel, .sentinel], laidTests := true, laidLooks := .later }
def FnCronQuestionCardSaid : Prop := Claim7.holds Tryd.pinned (.plain (OpenSpec.ofChange fnCronQuestionSpec)) fnCronQuestionCard

/-- THE TIED CARD OF 'laws.FnCronFieldReadBack'. -/
def fnCronFieldReadBackCard : Claim7 := { stood := { row := fnCronFieldReadBackRow, standIns := [], harness := (true, "7ce123cd528116fb39505d20b1f6cffa34bc0706fa140c163627e759ea7b0f6e"), looks := true }, kinds := [], alts := [], laidByText := true, laidKinds := [.data, .data, .data, .sentinel, .sentinel], laidTests := true, laidLooks := .later }
def FnCronFieldReadBackCardSaid : Prop := Claim7.holds Tryd.pinned (.plain (OpenSpec.ofChange fnCronFieldReadBackSpec)) fnCronFieldReadBackCard

/-- THE TIED CARD OF 'laws.FnCronNames'. -/
def fnCronNamesCard : Claim7 := { stood := { row := fnCronNamesRow, standIns := [], harness := (true, "7ce123cd528116fb39505d20b1f6cffa34bc0706fa140c163627e759ea7b0f6e"), looks := true }, kinds := [], alts := [], laidByText := true, laidKinds := [.data, .data, .data, .sentinel, .sentinel], laidTests := true, laidLooks := .later }
def FnCronNamesCardSaid : Prop := Claim7.holds Tryd.pinned (.plain (OpenSpec.ofChange fnCronNamesSpec)) fnCronNamesCard

/-- THE SECOND FORM's CARD OF 'laws.FnCronNumberJoined'. -/
def fnCronNumberJoinedUptoCard : Claim7 := { stood := { row := fnCronNumberJoinedUptoRow, standIns := [], harness := (true, "7ce123cd528116fb39505d20b1f6cffa34bc0706fa140c163627e759ea7b0f6e"), looks := true }, kinds := [], alts := [], laidByText := true, laidKinds := [.data, .data, .data, .sentinel, .sentinel], laidTests := true, laidLooks := .later }
def FnCronNumberJoinedUptoCardSaid : Prop := Claim7.holds Tryd.pinned (.plain (OpenSpec.upto fnCronNumberJoinedSpec)) fnCronNumberJoinedUptoCard

/-- THE SECOND FORM's CARD OF 'laws.FnCronRangeTurned'. -/
def fnCronRangeTurnedUptoCard : Claim7 := { stood := { row := fnCronRangeTurnedUptoRow, standIns := [], harness := (true, "7ce123cd528116fb39505d20b1f6cffa34bc0706fa140c163627e759ea7b0f6e"), looks := true }, kinds := [], alts := [], laidByText := true, laidKinds := [.data, .data, .data, .sentinel, .sentinel], laidTests := true, laidLooks := .later }
def FnCronRangeTurnedUptoCardSaid : Prop := Claim7.holds Tryd.pinned (.plain (OpenSpec.upto fnCronRangeTurnedSpec)) fnCronRangeTurnedUptoCard

/-- THE SECOND FORM's CARD OF 'laws.FnCronFieldRuns'. -/
def fnCronFieldRunsUptoCard : Claim7 := { stood := { row := fnCronFieldRunsUptoRow, standIns := [], harness := (true, "7ce123cd528116fb39505d20b1f6cffa34bc0706fa140c163627e759ea7b0f6e"), looks := true }, kinds := [], alts := [], laidByText := true, laidKinds := [.data, .data, .data, .sentinel, .sentinel], laidTests := true, laidLooks := .later }
def FnCronFieldRunsUptoCardSaid : Prop := Claim7.holds Tryd.pinned (.plain (OpenSpec.upto fnCronFieldRunsSpec)) fnCronFieldRunsUptoCard

/-- THE SECOND FORM's CARD OF 'laws.FnCronQuestion'. -/
def fnCronQuestionUptoCard : Claim7 := { stood := { row := fnCronQuestionUptoRow, standIns := [], harness := (true, "7ce123cd528116fb39505d20b1f6cffa34bc0706fa140c163627e759ea7b0f6e"), looks := true }, kinds := [], alts := [], laidByText := true, laidKinds := [.data, .data, .data, .sentinel, .sentinel], laidTests := true, laidLooks := .later }
def FnCronQuestionUptoCardSaid : Prop := Claim7.holds Tryd.pinned (.plain (OpenSpec.upto fnCronQuestionSpec)) fnCronQuestionUptoCard

/-- THE SECOND FORM's CARD OF 'laws.FnCronFieldReadBack'. -/
def fnCronFieldReadBackUptoCard : Claim7 := { stood := { row := fnCronFieldReadBackUptoRow, standIns := [], harness := (true, "7ce123cd528116fb39505d20b1f6cffa34bc0706fa140c163627e759ea7b0f6e"), looks := true }, kinds := [], alts := [], laidByText := true, laidKinds := [.data, .data, .data, .sentinel, .sentinel], laidTests := true, laidLooks := .later }
def FnCronFieldReadBackUptoCardSaid : Prop := Claim7.holds Tryd.pinned (.plain (OpenSpec.upto fnCronFieldReadBackSpec)) fnCronFieldReadBackUptoCard

/-- THE SECOND FORM's CARD OF 'laws.FnCronNames'. -/
def fnCronNamesUptoCard : Claim7 := { stood := { row := fnCronNamesUptoRow, standIns := [], harness := (true, "7ce123cd528116fb39505d20b1f6cffa34bc0706fa140c163627e759ea7b0f6e"), looks := true }, kinds := [], alts := [], laidByText := true, laidKinds := [.data, .data, .data, .sentinel, .sentinel], laidTests := true, laidLooks := .later }
def FnCronNamesUptoCardSaid : Prop := Claim7.holds Tryd.pinned (.plain (OpenSpec.upto fnCronNamesSpec)) fnCronNamesUptoCard
end Rows
end Go.Proofs.YtkjnajkbkaikaaaDoor
