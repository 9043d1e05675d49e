/-
  DERIVED. GIVEN WITH THE SEED: THE CARDS: each row of YtagmdhinbkponaaDoorRows.lean that lists a variable, with what it lists TIED to the program's text (the seventh form; the later family's looks); each row that meets fmt, with fmt's text TOLD by the authors' own Lean function (tested against real Go, not proved from fmt's source: count such statements apart). THE CARD IS WHAT COUNTS. Prove the row's statement (the work); the ties are given (YtagmdhinbkponaaDoorTie.lean); close each card by the builder's one call (the guide's Derived/Test/ToyasCard.lean, 'card_holds'). Laid BY PROGRAM, IN A SANDBOX (cutbox-door.mjs). By AI agents, Wed Nov 11 2026. No macro, syntax, notation, axiom, sorry.
-/
import Derived.Test.YtagmdhinbkponaaDoorRows
import GoSem.ClaimSeven
namespace Go.Proofs.YtagmdhinbkponaaDoor
namespace Rows

/-- THE TIED CARD OF 'laws.FnSemverTermUp'. -/
def fnSemverTermUpCard : Claim7 := { stood := { row := fnSemverTermUpRow, standIns := [], harness := (true, "3547047f81fd9bea7f4a515c487abe3b418c2c90cf64f7129e167bfe847cbfaf"), looks := true }, kinds := [], alts := [], laidByText := true, laidKinds := [.data, .data, .data, .sentinel, .sentinel], laidTests := true, laidLooks := .later }
def FnSemverTermUpCardSaid : Prop := Claim7.holds Tryd.pinned (.plain (OpenSpec.ofChange fnSemverTermUpSpec)) fnSemverTermUpCard

/-- THE TIED CARD OF 'laws.FnSemverTermUpgrade'. -/
def fnSemverTermUpgradeCard : Claim7 := { stood := { row := fnSemverTermUpgradeRow, standIns := [], harness := (true, "3547047f81fd9bea7f4a515c487abe3b418c2c90cf64f7129e167bfe847cbfaf"), looks := true }, kinds := [], alts := [], laidByText := true, laidKinds := [.data, .data, .data, .sentinel, .sentinel], laidTests := true, laidLooks := .later }
def FnSemverTermUpgradeCardSaid : Prop := Claim7.holds Tryd.pinned (.plain (OpenSpec.ofChange fnSemverTermUpgradeSpec)) fnSemverTermUpgradeCard

/-- THE TIED CARD OF 'laws.FnSemverTermsHold'. -/
def fnSemverTermsHoldCard : Claim7 := { stood := { row := fnSemverTermsHoldRow, standIns := [], harness := (true, "3547047f81fd9bea7f4a515c487abe3b418c2c90cf64f7129e167bfe847cbfaf"), looks := true }, kinds := [], alts := [], laidByText := true, laidKinds := [.data, .data, .data, .sentinel, .sentinel], laidTests := true, laidLooks := .later }
def FnSemverTermsHoldCardSaid : Prop := Claim7.holds Tryd.pinned (.plain (OpenSpec.ofChange fnSemverTermsHoldSpec)) fnSemverTermsHoldCard

/-- THE TIED CARD OF 'laws.FnSemverTermsBoth'. -/
def fnSemverTermsBothCard : Claim7 := { stood := { row := fnSemverTermsBothRow, standIns := [], harness := (true, "3547047f81fd9bea7f4a515c487abe3b418c2c90cf64f7129e167bfe847cbfaf"), looks := true }, kinds := [], alts := [], laidByText := true, laidKinds := [.data, .data, .data, .sentinel, .sentinel], laidTests := true, laidLooks := .later }
def FnSemverTermsBothCardSaid : Prop := Claim7.holds Tryd.pinned (.plain (OpenSpec.ofChange fnSemverTermsBothSpec)) fnSemverTermsBothCard

/-- THE TIED CARD OF 'laws.FnSemverCross'. -/
def fnSemverCrossCard : Claim7 := { stood := { row := fnSemverCrossRow, standIns := [], harness := (true, "3547047f81fd9bea7f4a515c487abe3b418c2c90cf64f7129e167bfe847cbfaf"), looks := true }, kinds := [], alts := [], laidByText := true, laidKinds := [.data, .data, .data, .sentinel, .sentinel], laidTests := true, laidLooks := .later }
def FnSemverCrossCardSaid : Prop := Claim7.holds Tryd.pinned (.plain (OpenSpec.ofChange fnSemverCrossSpec)) fnSemverCrossCard

/-- THE SECOND FORM's CARD OF 'laws.FnSemverTermUp'. -/
def fnSemverTermUpUptoCard : Claim7 := { stood := { row := fnSemverTermUpUptoRow, standIns := [], harness := (true, "3547047f81fd9bea7f4a515c487abe3b418c2c90cf64f7129e167bfe847cbfaf"), looks := true }, kinds := [], alts := [], laidByText := true, laidKinds := [.data, .data, .data, .sentinel, .sentinel], laidTests := true, laidLooks := .later }
def FnSemverTermUpUptoCardSaid : Prop := Claim7.holds Tryd.pinned (.plain (OpenSpec.upto fnSemverTermUpSpec)) fnSemverTermUpUptoCard

/-- THE SECOND FORM's CARD OF 'laws.FnSemverTermUpgrade'. -/
def fnSemverTermUpgradeUptoCard : Claim7 := { stood := { row := fnSemverTermUpgradeUptoRow, standIns := [], harness := (true, "3547047f81fd9bea7f4a515c487abe3b418c2c90cf64f7129e167bfe847cbfaf"), looks := true }, kinds := [], alts := [], laidByText := true, laidKinds := [.data, .data, .data, .sentinel, .sentinel], laidTests := true, laidLooks := .later }
def FnSemverTermUpgradeUptoCardSaid : Prop := Claim7.holds Tryd.pinned (.plain (OpenSpec.upto fnSemverTermUpgradeSpec)) fnSemverTermUpgradeUptoCard

/-- THE SECOND FORM's CARD OF 'laws.FnSemverTermsHold'. -/
def fnSemverTermsHoldUptoCard : Claim7 := { stood := { row := fnSemverTermsHoldUptoRow, standIns := [], harness := (true, "3547047f81fd9bea7f4a515c487abe3b418c2c90cf64f7129e167bfe847cbfaf"), looks := true }, kinds := [], alts := [], laidByText := true, laidKinds := [.data, .data, .data, .sentinel, .sentinel], laidTests := true, laidLooks := .later }
def FnSemverTermsHoldUptoCardSaid : Prop := Claim7.holds Tryd.pinned (.plain (OpenSpec.upto fnSemverTermsHoldSpec)) fnSemverTermsHoldUptoCard

/-- THE SECOND FORM's CARD OF 'laws.FnSemverTermsBoth'. -/
def fnSemverTermsBothUptoCard : Claim7 := { stood := { row := fnSemverTermsBothUptoRow, standIns := [], harness := (true, "3547047f81fd9bea7f4a515c487abe3b418c2c90cf64f7129e167bfe847cbfaf"), looks := true }, kinds := [], alts := [], laidByText := true, laidKinds := [.data, .data, .data, .sentinel, .sentinel], laidTests := true, laidLooks := .later }
def FnSemverTermsBothUptoCardSaid : Prop := Claim7.holds Tryd.pinned (.plain (OpenSpec.upto fnSemverTermsBothSpec)) fnSemverTermsBothUptoCard

/-- THE SECOND FORM's CARD OF 'laws.FnSemverCross'. -/
def fnSemverCrossUptoCard : Claim7 := { stood := { row := fnSemverCrossUptoRow, standIns := [], harness := (true, "3547047f81fd9bea7f4a515c487abe3b418c2c90cf64f7129e167bfe847cbfaf"), looks := true }, kinds := [], alts := [], laidByText := true, laidKinds := [.data, .data, .data, .sentinel, .sentinel], laidTests := true, laidLooks := .later }
def FnSemverCrossUptoCardSaid : Prop := Claim7.holds Tryd.pinned (.plain (OpenSpec.upto fnSemverCrossSpec)) fnSemverCrossUptoCard
end Rows
end Go.Proofs.YtagmdhinbkponaaDoor
