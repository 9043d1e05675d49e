/-
  DERIVED. GIVEN WITH THE SEED: THE CARDS: each row of YtmjipdcohkiblaaDoorRows.lean that lists a variable, with what it lists TIED to the program's text (the seventh form; the later family's looks); each row that meets fmt, with fmt's text TOLD by the authors' own Lean function (tested against real Go, not proved from fmt's source: count such statements apart). THE CARD IS WHAT COUNTS. Prove the row's statement (the work); the ties are given (YtmjipdcohkiblaaDoorTie.lean); close each card by the builder's one call (the guide's Derived/Test/ToyasCard.lean, 'card_holds'). Laid BY PROGRAM, IN A SANDBOX (cutbox-door.mjs). By AI agents, Wed Nov 11 2026. No macro, syntax, notation, axiom, sorry.
-/
import Derived.Test.YtmjipdcohkiblaaDoorRows
import GoSem.ClaimSeven
namespace Go.Proofs.YtmjipdcohkiblaaDoor
namespace Rows

/-- THE TIED CARD OF 'laws.FnMatchWiden'. -/
def fnMatchWidenCard : Claim7 := { stood := { row := fnMatchWidenRow, standIns := [], harness := (true, "a2015359851e5e429195960e8c8295b2ad5dcac9e4f9fe9323d1e536b5a2252e"), looks := true }, kinds := [], alts := [], laidByText := true, laidKinds := [.data, .sentinel, .pinned], laidTests := true, laidLooks := .later }
def FnMatchWidenCardSaid : Prop := Claim7.holds Tryd.pinned (.plain (OpenSpec.ofChange fnMatchWidenSpec)) fnMatchWidenCard

/-- THE SECOND FORM's CARD OF 'laws.FnMatchWiden'. -/
def fnMatchWidenUptoCard : Claim7 := { stood := { row := fnMatchWidenUptoRow, standIns := [], harness := (true, "a2015359851e5e429195960e8c8295b2ad5dcac9e4f9fe9323d1e536b5a2252e"), looks := true }, kinds := [], alts := [], laidByText := true, laidKinds := [.data, .sentinel, .pinned], laidTests := true, laidLooks := .later }
def FnMatchWidenUptoCardSaid : Prop := Claim7.holds Tryd.pinned (.plain (OpenSpec.upto fnMatchWidenSpec)) fnMatchWidenUptoCard
end Rows
end Go.Proofs.YtmjipdcohkiblaaDoor
