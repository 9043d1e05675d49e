/-
  DERIVED. GIVEN WITH THE SEED: THE CARDS: each row of YtkmdijnhepkamaaDoorRows.lean that lists a variable, with what it lists TIED to the program's text (the seventh form; the later family's looks); each row that meets fmt, with fmt's text TOLD by the authors' own Lean function (tested against real Go, not proved from fmt's source: count such statements apart). THE CARD IS WHAT COUNTS. Prove the row's statement (the work); the ties are given (YtkmdijnhepkamaaDoorTie.lean); close each card by the builder's one call (the guide's Derived/Test/ToyasCard.lean, 'card_holds'). Laid BY PROGRAM, IN A SANDBOX (cutbox-door.mjs). By AI agents, Wed Nov 11 2026. No macro, syntax, notation, axiom, sorry.
-/
import Derived.Test.YtkmdijnhepkamaaDoorRows
import GoSem.ClaimSeven
namespace Go.Proofs.YtkmdijnhepkamaaDoor
namespace Rows

/-- THE TIED CARD OF 'laws.FnAlgorithmSet'. -/
def fnAlgorithmSetCard : Claim7 := { stood := { row := fnAlgorithmSetRow, standIns := [], harness := (true, "2882beed1f34d9ce073beb52d6b2f29d23d24bd6da5cb269d635e3189430591f"), looks := true }, kinds := [], alts := [], laidByText := true, laidKinds := [.sentinel, .sentinel, .sentinel, .sentinel, .sentinel, .sentinel, .sentinel, .sentinel, .sentinel, .sentinel], laidTests := true, laidLooks := .later }
def FnAlgorithmSetCardSaid : Prop := Claim7.holds Tryd.pinned (.plain (OpenSpec.ofChange fnAlgorithmSetSpec)) fnAlgorithmSetCard

/-- THE TIED CARD OF 'laws.FnSemverMetaKind'. -/
def fnSemverMetaKindCard : Claim7 := { stood := { row := fnSemverMetaKindRow, standIns := [], harness := (true, "2882beed1f34d9ce073beb52d6b2f29d23d24bd6da5cb269d635e3189430591f"), looks := true }, kinds := [], alts := [], laidByText := true, laidKinds := [.sentinel, .sentinel, .sentinel, .sentinel, .sentinel, .sentinel, .sentinel, .sentinel, .sentinel], laidTests := true, laidLooks := .later }
def FnSemverMetaKindCardSaid : Prop := Claim7.holds Tryd.pinned (.plain (OpenSpec.ofChange fnSemverMetaKindSpec)) fnSemverMetaKindCard

/-- THE TIED CARD OF 'laws.FnSemverKindsChecks'. -/
def fnSemverKindsChecksCard : Claim7 := { stood := { row := fnSemverKindsChecksRow, standIns := [], harness := (true, "2882beed1f34d9ce073beb52d6b2f29d23d24bd6da5cb269d635e3189430591f"), looks := true }, kinds := [], alts := [], laidByText := true, laidKinds := [.sentinel, .sentinel, .sentinel, .sentinel, .sentinel, .sentinel, .sentinel, .sentinel, .sentinel], laidTests := true, laidLooks := .later }
def FnSemverKindsChecksCardSaid : Prop := Claim7.holds Tryd.pinned (.plain (OpenSpec.ofChange fnSemverKindsChecksSpec)) fnSemverKindsChecksCard

/-- THE TIED CARD OF 'laws.FnSemverSetMeta'. -/
def fnSemverSetMetaCard : Claim7 := { stood := { row := fnSemverSetMetaRow, standIns := [], harness := (true, "2882beed1f34d9ce073beb52d6b2f29d23d24bd6da5cb269d635e3189430591f"), looks := true }, kinds := [], alts := [], laidByText := true, laidKinds := [.data, .data, .data, .sentinel], laidTests := true, laidLooks := .later }
def FnSemverSetMetaCardSaid : Prop := Claim7.holds Tryd.pinned (.plain (OpenSpec.ofChange fnSemverSetMetaSpec)) fnSemverSetMetaCard

/-- THE TIED CARD OF 'laws.FnCronDescriptor'. -/
def fnCronDescriptorCard : Claim7 := { stood := { row := fnCronDescriptorRow, standIns := [], harness := (true, "2882beed1f34d9ce073beb52d6b2f29d23d24bd6da5cb269d635e3189430591f"), looks := true }, kinds := [], alts := [], laidByText := true, laidKinds := [.sentinel], laidTests := true, laidLooks := .later }
def FnCronDescriptorCardSaid : Prop := Claim7.holds Tryd.pinned (.plain (OpenSpec.ofChange fnCronDescriptorSpec)) fnCronDescriptorCard

/-- THE TIED CARD OF 'laws.FnCronNumberJoined'. -/
def fnCronNumberJoinedCard : Claim7 := { stood := { row := fnCronNumberJoinedRow, standIns := [], harness := (true, "2882beed1f34d9ce073beb52d6b2f29d23d24bd6da5cb269d635e3189430591f"), looks := true }, kinds := [], alts := [], laidByText := true, laidKinds := [.data, .data, .data, .sentinel, .sentinel], laidTests := true, laidLooks := .later }
def FnCronNumberJoinedCardSaid : Prop := Claim7.holds Tryd.pinned (.plain (OpenSpec.ofChange fnCronNumberJoinedSpec)) fnCronNumberJoinedCard

/-- THE SECOND FORM's CARD OF 'laws.FnAlgorithmSet'. -/
def fnAlgorithmSetUptoCard : Claim7 := { stood := { row := fnAlgorithmSetUptoRow, standIns := [], harness := (true, "2882beed1f34d9ce073beb52d6b2f29d23d24bd6da5cb269d635e3189430591f"), looks := true }, kinds := [], alts := [], laidByText := true, laidKinds := [.sentinel, .sentinel, .sentinel, .sentinel, .sentinel, .sentinel, .sentinel, .sentinel, .sentinel, .sentinel], laidTests := true, laidLooks := .later }
def FnAlgorithmSetUptoCardSaid : Prop := Claim7.holds Tryd.pinned (.plain (OpenSpec.upto fnAlgorithmSetSpec)) fnAlgorithmSetUptoCard

/-- THE SECOND FORM's CARD OF 'laws.FnSemverMetaKind'. -/
def fnSemverMetaKindUptoCard : Claim7 := { stood := { row := fnSemverMetaKindUptoRow, standIns := [], harness := (true, "2882beed1f34d9ce073beb52d6b2f29d23d24bd6da5cb269d635e3189430591f"), looks := true }, kinds := [], alts := [], laidByText := true, laidKinds := [.sentinel, .sentinel, .sentinel, .sentinel, .sentinel, .sentinel, .sentinel, .sentinel, .sentinel], laidTests := true, laidLooks := .later }
def FnSemverMetaKindUptoCardSaid : Prop := Claim7.holds Tryd.pinned (.plain (OpenSpec.upto fnSemverMetaKindSpec)) fnSemverMetaKindUptoCard

/-- THE SECOND FORM's CARD OF 'laws.FnSemverKindsChecks'. -/
def fnSemverKindsChecksUptoCard : Claim7 := { stood := { row := fnSemverKindsChecksUptoRow, standIns := [], harness := (true, "2882beed1f34d9ce073beb52d6b2f29d23d24bd6da5cb269d635e3189430591f"), looks := true }, kinds := [], alts := [], laidByText := true, laidKinds := [.sentinel, .sentinel, .sentinel, .sentinel, .sentinel, .sentinel, .sentinel, .sentinel, .sentinel], laidTests := true, laidLooks := .later }
def FnSemverKindsChecksUptoCardSaid : Prop := Claim7.holds Tryd.pinned (.plain (OpenSpec.upto fnSemverKindsChecksSpec)) fnSemverKindsChecksUptoCard

/-- THE SECOND FORM's CARD OF 'laws.FnSemverSetMeta'. -/
def fnSemverSetMetaUptoCard : Claim7 := { stood := { row := fnSemverSetMetaUptoRow, standIns := [], harness := (true, "2882beed1f34d9ce073beb52d6b2f29d23d24bd6da5cb269d635e3189430591f"), looks := true }, kinds := [], alts := [], laidByText := true, laidKinds := [.data, .data, .data, .sentinel], laidTests := true, laidLooks := .later }
def FnSemverSetMetaUptoCardSaid : Prop := Claim7.holds Tryd.pinned (.plain (OpenSpec.upto fnSemverSetMetaSpec)) fnSemverSetMetaUptoCard

/-- THE SECOND FORM's CARD OF 'laws.FnCronDescriptor'. -/
def fnCronDescriptorUptoCard : Claim7 := { stood := { row := fnCronDescriptorUptoRow, standIns := [], harness := (true, "2882beed1f34d9ce073beb52d6b2f29d23d24bd6da5cb269d635e3189430591f"), looks := true }, kinds := [], alts := [], laidByText := true, laidKinds := [.sentinel], laidTests := true, laidLooks := .later }
def FnCronDescriptorUptoCardSaid : Prop := Claim7.holds Tryd.pinned (.plain (OpenSpec.upto fnCronDescriptorSpec)) fnCronDescriptorUptoCard

/-- THE SECOND FORM's CARD OF 'laws.FnCronNumberJoined'. -/
def fnCronNumberJoinedUptoCard : Claim7 := { stood := { row := fnCronNumberJoinedUptoRow, standIns := [], harness := (true, "2882beed1f34d9ce073beb52d6b2f29d23d24bd6da5cb269d635e3189430591f"), looks := true }, kinds := [], alts := [], laidByText := true, laidKinds := [.data, .data, .data, .sentinel, .sentinel], laidTests := true, laidLooks := .later }
def FnCronNumberJoinedUptoCardSaid : Prop := Claim7.holds Tryd.pinned (.plain (OpenSpec.upto fnCronNumberJoinedSpec)) fnCronNumberJoinedUptoCard
end Rows
end Go.Proofs.YtkmdijnhepkamaaDoor
