/-
  DERIVED. GIVEN WITH THE SEED: THE CARDS: each row of YtpnnomoiapcojaaDoorRows.lean that lists a variable, with what it lists TIED to the program's text (the seventh form; the later family's looks); each row that meets fmt, with fmt's text TOLD by the authors' own Lean function (tested against real Go, not proved from fmt's source: count such statements apart). THE CARD IS WHAT COUNTS. Prove the row's statement (the work); the ties are given (YtpnnomoiapcojaaDoorTie.lean); close each card by the builder's one call (the guide's Derived/Test/ToyasCard.lean, 'card_holds'). Laid BY PROGRAM, IN A SANDBOX (cutbox-door.mjs). By AI agents, Wed Nov 11 2026. No macro, syntax, notation, axiom, sorry.
-/
import Derived.Test.YtpnnomoiapcojaaDoorRows
import GoSem.ClaimSeven
namespace Go.Proofs.YtpnnomoiapcojaaDoor
namespace Rows

/-- THE TIED CARD OF 'laws.FnSymEnt32'. -/
def fnSymEnt32Card : Claim7 := { stood := { row := fnSymEnt32Row, standIns := [], harness := (true, "973e51bd9bd234ab2117bc4b64c15b211e230da68e3f10da7ffebb5d833b780f"), looks := true }, kinds := [], alts := [], laidByText := true, laidKinds := [.sentinel, .sentinel, .sentinel], laidTests := true, laidLooks := .later }
def FnSymEnt32CardSaid : Prop := Claim7.holds Tryd.pinned (.plain (OpenSpec.ofChange fnSymEnt32Spec)) fnSymEnt32Card

/-- THE TIED CARD OF 'laws.FnSymEnt64'. -/
def fnSymEnt64Card : Claim7 := { stood := { row := fnSymEnt64Row, standIns := [], harness := (true, "973e51bd9bd234ab2117bc4b64c15b211e230da68e3f10da7ffebb5d833b780f"), looks := true }, kinds := [], alts := [], laidByText := true, laidKinds := [.sentinel, .sentinel, .sentinel], laidTests := true, laidLooks := .later }
def FnSymEnt64CardSaid : Prop := Claim7.holds Tryd.pinned (.plain (OpenSpec.ofChange fnSymEnt64Spec)) fnSymEnt64Card

/-- THE TIED CARD OF 'laws.FnFileHeader64'. -/
def fnFileHeader64Card : Claim7 := { stood := { row := fnFileHeader64Row, standIns := [], harness := (true, "973e51bd9bd234ab2117bc4b64c15b211e230da68e3f10da7ffebb5d833b780f"), looks := true }, kinds := [], alts := [], laidByText := true, laidKinds := [.sentinel, .sentinel, .sentinel], laidTests := true, laidLooks := .later }
def FnFileHeader64CardSaid : Prop := Claim7.holds Tryd.pinned (.plain (OpenSpec.ofChange fnFileHeader64Spec)) fnFileHeader64Card

/-- THE TIED CARD OF 'laws.FnLoaderSymbol32'. -/
def fnLoaderSymbol32Card : Claim7 := { stood := { row := fnLoaderSymbol32Row, standIns := [], harness := (true, "973e51bd9bd234ab2117bc4b64c15b211e230da68e3f10da7ffebb5d833b780f"), looks := true }, kinds := [], alts := [], laidByText := true, laidKinds := [.sentinel, .sentinel, .sentinel], laidTests := true, laidLooks := .later }
def FnLoaderSymbol32CardSaid : Prop := Claim7.holds Tryd.pinned (.plain (OpenSpec.ofChange fnLoaderSymbol32Spec)) fnLoaderSymbol32Card

/-- THE TIED CARD OF 'laws.FnLoaderSymbol64'. -/
def fnLoaderSymbol64Card : Claim7 := { stood := { row := fnLoaderSymbol64Row, standIns := [], harness := (true, "973e51bd9bd234ab2117bc4b64c15b211e230da68e3f10da7ffebb5d833b780f"), looks := true }, kinds := [], alts := [], laidByText := true, laidKinds := [.sentinel, .sentinel, .sentinel], laidTests := true, laidLooks := .later }
def FnLoaderSymbol64CardSaid : Prop := Claim7.holds Tryd.pinned (.plain (OpenSpec.ofChange fnLoaderSymbol64Spec)) fnLoaderSymbol64Card

/-- THE TIED CARD OF 'laws.FnLoaderHeader64'. -/
def fnLoaderHeader64Card : Claim7 := { stood := { row := fnLoaderHeader64Row, standIns := [], harness := (true, "973e51bd9bd234ab2117bc4b64c15b211e230da68e3f10da7ffebb5d833b780f"), looks := true }, kinds := [], alts := [], laidByText := true, laidKinds := [.sentinel, .sentinel, .sentinel], laidTests := true, laidLooks := .later }
def FnLoaderHeader64CardSaid : Prop := Claim7.holds Tryd.pinned (.plain (OpenSpec.ofChange fnLoaderHeader64Spec)) fnLoaderHeader64Card

/-- THE TIED CARD OF 'laws.FnSectionHeader32'. -/
def fnSectionHeader32Card : Claim7 := { stood := { row := fnSectionHeader32Row, standIns := [], harness := (true, "973e51bd9bd234ab2117bc4b64c15b211e230da68e3f10da7ffebb5d833b780f"), looks := true }, kinds := [], alts := [], laidByText := true, laidKinds := [.sentinel, .sentinel, .sentinel], laidTests := true, laidLooks := .later }
def FnSectionHeader32CardSaid : Prop := Claim7.holds Tryd.pinned (.plain (OpenSpec.ofChange fnSectionHeader32Spec)) fnSectionHeader32Card

/-- THE TIED CARD OF 'laws.FnSectionHeader64'. -/
def fnSectionHeader64Card : Claim7 := { stood := { row := fnSectionHeader64Row, standIns := [], harness := (true, "973e51bd9bd234ab2117bc4b64c15b211e230da68e3f10da7ffebb5d833b780f"), looks := true }, kinds := [], alts := [], laidByText := true, laidKinds := [.sentinel, .sentinel, .sentinel], laidTests := true, laidLooks := .later }
def FnSectionHeader64CardSaid : Prop := Claim7.holds Tryd.pinned (.plain (OpenSpec.ofChange fnSectionHeader64Spec)) fnSectionHeader64Card

/-- THE SECOND FORM's CARD OF 'laws.FnSymEnt32'. -/
def fnSymEnt32UptoCard : Claim7 := { stood := { row := fnSymEnt32UptoRow, standIns := [], harness := (true, "973e51bd9bd234ab2117bc4b64c15b211e230da68e3f10da7ffebb5d833b780f"), looks := true }, kinds := [], alts := [], laidByText := true, laidKinds := [.sentinel, .sentinel, .sentinel], laidTests := true, laidLooks := .later }
def FnSymEnt32UptoCardSaid : Prop := Claim7.holds Tryd.pinned (.plain (OpenSpec.upto fnSymEnt32Spec)) fnSymEnt32UptoCard

/-- THE SECOND FORM's CARD OF 'laws.FnSymEnt64'. -/
def fnSymEnt64UptoCard : Claim7 := { stood := { row := fnSymEnt64UptoRow, standIns := [], harness := (true, "973e51bd9bd234ab2117bc4b64c15b211e230da68e3f10da7ffebb5d833b780f"), looks := true }, kinds := [], alts := [], laidByText := true, laidKinds := [.sentinel, .sentinel, .sentinel], laidTests := true, laidLooks := .later }
def FnSymEnt64UptoCardSaid : Prop := Claim7.holds Tryd.pinned (.plain (OpenSpec.upto fnSymEnt64Spec)) fnSymEnt64UptoCard

/-- THE SECOND FORM's CARD OF 'laws.FnFileHeader64'. -/
def fnFileHeader64UptoCard : Claim7 := { stood := { row := fnFileHeader64UptoRow, standIns := [], harness := (true, "973e51bd9bd234ab2117bc4b64c15b211e230da68e3f10da7ffebb5d833b780f"), looks := true }, kinds := [], alts := [], laidByText := true, laidKinds := [.sentinel, .sentinel, .sentinel], laidTests := true, laidLooks := .later }
def FnFileHeader64UptoCardSaid : Prop := Claim7.holds Tryd.pinned (.plain (OpenSpec.upto fnFileHeader64Spec)) fnFileHeader64UptoCard

/-- THE SECOND FORM's CARD OF 'laws.FnLoaderSymbol32'. -/
def fnLoaderSymbol32UptoCard : Claim7 := { stood := { row := fnLoaderSymbol32UptoRow, standIns := [], harness := (true, "973e51bd9bd234ab2117bc4b64c15b211e230da68e3f10da7ffebb5d833b780f"), looks := true }, kinds := [], alts := [], laidByText := true, laidKinds := [.sentinel, .sentinel, .sentinel], laidTests := true, laidLooks := .later }
def FnLoaderSymbol32UptoCardSaid : Prop := Claim7.holds Tryd.pinned (.plain (OpenSpec.upto fnLoaderSymbol32Spec)) fnLoaderSymbol32UptoCard

/-- THE SECOND FORM's CARD OF 'laws.FnLoaderSymbol64'. -/
def fnLoaderSymbol64UptoCard : Claim7 := { stood := { row := fnLoaderSymbol64UptoRow, standIns := [], harness := (true, "973e51bd9bd234ab2117bc4b64c15b211e230da68e3f10da7ffebb5d833b780f"), looks := true }, kinds := [], alts := [], laidByText := true, laidKinds := [.sentinel, .sentinel, .sentinel], laidTests := true, laidLooks := .later }
def FnLoaderSymbol64UptoCardSaid : Prop := Claim7.holds Tryd.pinned (.plain (OpenSpec.upto fnLoaderSymbol64Spec)) fnLoaderSymbol64UptoCard

/-- THE SECOND FORM's CARD OF 'laws.FnLoaderHeader64'. -/
def fnLoaderHeader64UptoCard : Claim7 := { stood := { row := fnLoaderHeader64UptoRow, standIns := [], harness := (true, "973e51bd9bd234ab2117bc4b64c15b211e230da68e3f10da7ffebb5d833b780f"), looks := true }, kinds := [], alts := [], laidByText := true, laidKinds := [.sentinel, .sentinel, .sentinel], laidTests := true, laidLooks := .later }
def FnLoaderHeader64UptoCardSaid : Prop := Claim7.holds Tryd.pinned (.plain (OpenSpec.upto fnLoaderHeader64Spec)) fnLoaderHeader64UptoCard

/-- THE SECOND FORM's CARD OF 'laws.FnSectionHeader32'. -/
def fnSectionHeader32UptoCard : Claim7 := { stood := { row := fnSectionHeader32UptoRow, standIns := [], harness := (true, "973e51bd9bd234ab2117bc4b64c15b211e230da68e3f10da7ffebb5d833b780f"), looks := true }, kinds := [], alts := [], laidByText := true, laidKinds := [.sentinel, .sentinel, .sentinel], laidTests := true, laidLooks := .later }
def FnSectionHeader32UptoCardSaid : Prop := Claim7.holds Tryd.pinned (.plain (OpenSpec.upto fnSectionHeader32Spec)) fnSectionHeader32UptoCard

/-- THE SECOND FORM's CARD OF 'laws.FnSectionHeader64'. -/
def fnSectionHeader64UptoCard : Claim7 := { stood := { row := fnSectionHeader64UptoRow, standIns := [], harness := (true, "973e51bd9bd234ab2117bc4b64c15b211e230da68e3f10da7ffebb5d833b780f"), looks := true }, kinds := [], alts := [], laidByText := true, laidKinds := [.sentinel, .sentinel, .sentinel], laidTests := true, laidLooks := .later }
def FnSectionHeader64UptoCardSaid : Prop := Claim7.holds Tryd.pinned (.plain (OpenSpec.upto fnSectionHeader64Spec)) fnSectionHeader64UptoCard
end Rows
end Go.Proofs.YtpnnomoiapcojaaDoor
