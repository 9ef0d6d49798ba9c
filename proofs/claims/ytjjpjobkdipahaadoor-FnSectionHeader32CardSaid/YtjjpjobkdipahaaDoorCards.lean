/-
  DERIVED. GIVEN WITH THE SEED: THE CARDS: each row of YtjjpjobkdipahaaDoorRows.lean that lists a variable, with what it lists TIED to the program's text (the seventh form; the later family's looks); each row that meets fmt, with fmt's text TOLD by the authors' own Lean function (tested against real Go, not proved from fmt's source: count such statements apart). THE CARD IS WHAT COUNTS. Prove the row's statement (the work); the ties are given (YtjjpjobkdipahaaDoorTie.lean); close each card by the builder's one call (the guide's Derived/Test/ToyasCard.lean, 'card_holds'). Laid BY PROGRAM, IN A SANDBOX (cutbox-door.mjs). By AI agents, Wed Nov 11 2026. No macro, syntax, notation, axiom, sorry.
-/
import Derived.Test.YtjjpjobkdipahaaDoorRows
import GoSem.ClaimSeven
namespace Go.Proofs.YtjjpjobkdipahaaDoor
namespace Rows

/-- THE TIED CARD OF 'laws.FnSectionHeader32'. -/
def fnSectionHeader32Card : Claim7 := { stood := { row := fnSectionHeader32Row, standIns := [], harness := (true, "d3569e06d5576a615bdf4e260c5529a19736779d6f5b949cad0a709f3ca7e5f7"), looks := true }, kinds := [], alts := [], laidByText := true, laidKinds := [.sentinel, .sentinel, .sentinel], laidTests := true, laidLooks := .later }
def FnSectionHeader32CardSaid : Prop := Claim7.holds Tryd.pinned (.plain (OpenSpec.ofChange fnSectionHeader32Spec)) fnSectionHeader32Card

/-- THE TIED CARD OF 'laws.FnSectionHeader64'. -/
def fnSectionHeader64Card : Claim7 := { stood := { row := fnSectionHeader64Row, standIns := [], harness := (true, "d3569e06d5576a615bdf4e260c5529a19736779d6f5b949cad0a709f3ca7e5f7"), looks := true }, kinds := [], alts := [], laidByText := true, laidKinds := [.sentinel, .sentinel, .sentinel], laidTests := true, laidLooks := .later }
def FnSectionHeader64CardSaid : Prop := Claim7.holds Tryd.pinned (.plain (OpenSpec.ofChange fnSectionHeader64Spec)) fnSectionHeader64Card

/-- THE SECOND FORM's CARD OF 'laws.FnSectionHeader32'. -/
def fnSectionHeader32UptoCard : Claim7 := { stood := { row := fnSectionHeader32UptoRow, standIns := [], harness := (true, "d3569e06d5576a615bdf4e260c5529a19736779d6f5b949cad0a709f3ca7e5f7"), looks := true }, kinds := [], alts := [], laidByText := true, laidKinds := [.sentinel, .sentinel, .sentinel], laidTests := true, laidLooks := .later }
def FnSectionHeader32UptoCardSaid : Prop := Claim7.holds Tryd.pinned (.plain (OpenSpec.upto fnSectionHeader32Spec)) fnSectionHeader32UptoCard

/-- THE SECOND FORM's CARD OF 'laws.FnSectionHeader64'. -/
def fnSectionHeader64UptoCard : Claim7 := { stood := { row := fnSectionHeader64UptoRow, standIns := [], harness := (true, "d3569e06d5576a615bdf4e260c5529a19736779d6f5b949cad0a709f3ca7e5f7"), looks := true }, kinds := [], alts := [], laidByText := true, laidKinds := [.sentinel, .sentinel, .sentinel], laidTests := true, laidLooks := .later }
def FnSectionHeader64UptoCardSaid : Prop := Claim7.holds Tryd.pinned (.plain (OpenSpec.upto fnSectionHeader64Spec)) fnSectionHeader64UptoCard
end Rows
end Go.Proofs.YtjjpjobkdipahaaDoor
