/-
  DERIVED. GIVEN WITH THE SEED: THE CARDS: each row of YtnkdpgcfaelpkaaDoorRows.lean that lists a variable, with what it lists TIED to the program's text (the seventh form; the later family's looks); each row that meets fmt, with fmt's text TOLD by the authors' own Lean function (tested against real Go, not proved from fmt's source: count such statements apart). THE CARD IS WHAT COUNTS. Prove the row's statement (the work); the ties are given (YtnkdpgcfaelpkaaDoorTie.lean); close each card by the builder's one call (the guide's Derived/Test/ToyasCard.lean, 'card_holds'). Laid BY PROGRAM, IN A SANDBOX (cutbox-door.mjs). By AI agents, Wed Nov 11 2026. No macro, syntax, notation, axiom, sorry.
-/
import Derived.Test.YtnkdpgcfaelpkaaDoorRows
import GoSem.ClaimSeven
namespace Go.Proofs.YtnkdpgcfaelpkaaDoor
namespace Rows

/-- THE TIED CARD OF 'laws.FnSemverTermUpgrade'. -/
def fnSemverTermUpgradeCard : Claim7 := { stood := { row := fnSemverTermUpgradeRow, standIns := [], harness := (true, "6c21aeddb9c3fcc9353702a7ab50fb90f49b97317b48504bfbc2260496a00a12"), looks := true }, kinds := [], alts := [], laidByText := true, laidKinds := [.data, .data, .data, .sentinel, .sentinel], laidTests := true, laidLooks := .later }
def FnSemverTermUpgradeCardSaid : Prop := Claim7.holds Tryd.pinned (.plain (OpenSpec.ofChange fnSemverTermUpgradeSpec)) fnSemverTermUpgradeCard

/-- THE TIED CARD OF 'laws.FnSemverCross'. -/
def fnSemverCrossCard : Claim7 := { stood := { row := fnSemverCrossRow, standIns := [], harness := (true, "6c21aeddb9c3fcc9353702a7ab50fb90f49b97317b48504bfbc2260496a00a12"), looks := true }, kinds := [], alts := [], laidByText := true, laidKinds := [.data, .data, .data, .sentinel, .sentinel], laidTests := true, laidLooks := .later }
def FnSemverCrossCardSaid : Prop := Claim7.holds Tryd.pinned (.plain (OpenSpec.ofChange fnSemverCrossSpec)) fnSemverCrossCard

/-- THE SECOND FORM's CARD OF 'laws.FnSemverTermUpgrade'. -/
def fnSemverTermUpgradeUptoCard : Claim7 := { stood := { row := fnSemverTermUpgradeUptoRow, standIns := [], harness := (true, "6c21aeddb9c3fcc9353702a7ab50fb90f49b97317b48504bfbc2260496a00a12"), looks := true }, kinds := [], alts := [], laidByText := true, laidKinds := [.data, .data, .data, .sentinel, .sentinel], laidTests := true, laidLooks := .later }
def FnSemverTermUpgradeUptoCardSaid : Prop := Claim7.holds Tryd.pinned (.plain (OpenSpec.upto fnSemverTermUpgradeSpec)) fnSemverTermUpgradeUptoCard

/-- THE SECOND FORM's CARD OF 'laws.FnSemverCross'. -/
def fnSemverCrossUptoCard : Claim7 := { stood := { row := fnSemverCrossUptoRow, standIns := [], harness := (true, "6c21aeddb9c3fcc9353702a7ab50fb90f49b97317b48504bfbc2260496a00a12"), looks := true }, kinds := [], alts := [], laidByText := true, laidKinds := [.data, .data, .data, .sentinel, .sentinel], laidTests := true, laidLooks := .later }
def FnSemverCrossUptoCardSaid : Prop := Claim7.holds Tryd.pinned (.plain (OpenSpec.upto fnSemverCrossSpec)) fnSemverCrossUptoCard
end Rows
end Go.Proofs.YtnkdpgcfaelpkaaDoor
