/-
  DERIVED. GIVEN WITH THE SEED: THE CARDS: each row of YtngnocfmagmpmaaDoorRows.lean that lists a variable, with what it lists TIED to the program's text (the seventh form; the later family's looks); each row that meets fmt, with fmt's text TOLD by the authors' own Lean function (tested against real Go, not proved from fmt's source: count such statements apart). THE CARD IS WHAT COUNTS. Prove the row's statement (the work); the ties are given (YtngnocfmagmpmaaDoorTie.lean); close each card by the builder's one call (the guide's Derived/Test/ToyasCard.lean, 'card_holds'). Laid BY PROGRAM, IN A SANDBOX (cutbox-door.mjs). By AI agents, Wed Nov 11 2026. No macro, syntax, notation, axiom, sorry.
-/
import Derived.Test.YtngnocfmagmpmaaDoorRows
import GoSem.ClaimSeven
namespace Go.Proofs.YtngnocfmagmpmaaDoor
namespace Rows

/-- THE TIED CARD OF 'laws.FnReloc32'. -/
def fnReloc32Card : Claim7 := { stood := { row := fnReloc32Row, standIns := [], harness := (true, "84eb41fac098cef65b33bad50873b25bc52af3c45e6f0ed12e479936ff90ad54"), looks := true }, kinds := [], alts := [], laidByText := true, laidKinds := [.sentinel, .sentinel, .sentinel], laidTests := true, laidLooks := .later }
def FnReloc32CardSaid : Prop := Claim7.holds Tryd.pinned (.plain (OpenSpec.ofChange fnReloc32Spec)) fnReloc32Card

/-- THE TIED CARD OF 'laws.FnAuxFcn32'. -/
def fnAuxFcn32Card : Claim7 := { stood := { row := fnAuxFcn32Row, standIns := [], harness := (true, "84eb41fac098cef65b33bad50873b25bc52af3c45e6f0ed12e479936ff90ad54"), looks := true }, kinds := [], alts := [], laidByText := true, laidKinds := [.sentinel, .sentinel, .sentinel], laidTests := true, laidLooks := .later }
def FnAuxFcn32CardSaid : Prop := Claim7.holds Tryd.pinned (.plain (OpenSpec.ofChange fnAuxFcn32Spec)) fnAuxFcn32Card

/-- THE TIED CARD OF 'laws.FnAuxCSect32'. -/
def fnAuxCSect32Card : Claim7 := { stood := { row := fnAuxCSect32Row, standIns := [], harness := (true, "84eb41fac098cef65b33bad50873b25bc52af3c45e6f0ed12e479936ff90ad54"), looks := true }, kinds := [], alts := [], laidByText := true, laidKinds := [.sentinel, .sentinel, .sentinel], laidTests := true, laidLooks := .later }
def FnAuxCSect32CardSaid : Prop := Claim7.holds Tryd.pinned (.plain (OpenSpec.ofChange fnAuxCSect32Spec)) fnAuxCSect32Card

/-- THE TIED CARD OF 'laws.FnFileHeader32'. -/
def fnFileHeader32Card : Claim7 := { stood := { row := fnFileHeader32Row, standIns := [], harness := (true, "84eb41fac098cef65b33bad50873b25bc52af3c45e6f0ed12e479936ff90ad54"), looks := true }, kinds := [], alts := [], laidByText := true, laidKinds := [.sentinel, .sentinel, .sentinel], laidTests := true, laidLooks := .later }
def FnFileHeader32CardSaid : Prop := Claim7.holds Tryd.pinned (.plain (OpenSpec.ofChange fnFileHeader32Spec)) fnFileHeader32Card

/-- THE TIED CARD OF 'laws.FnAuxCSect64'. -/
def fnAuxCSect64Card : Claim7 := { stood := { row := fnAuxCSect64Row, standIns := [], harness := (true, "84eb41fac098cef65b33bad50873b25bc52af3c45e6f0ed12e479936ff90ad54"), looks := true }, kinds := [], alts := [], laidByText := true, laidKinds := [.sentinel, .sentinel, .sentinel], laidTests := true, laidLooks := .later }
def FnAuxCSect64CardSaid : Prop := Claim7.holds Tryd.pinned (.plain (OpenSpec.ofChange fnAuxCSect64Spec)) fnAuxCSect64Card

/-- THE TIED CARD OF 'laws.FnLoaderHeader32'. -/
def fnLoaderHeader32Card : Claim7 := { stood := { row := fnLoaderHeader32Row, standIns := [], harness := (true, "84eb41fac098cef65b33bad50873b25bc52af3c45e6f0ed12e479936ff90ad54"), looks := true }, kinds := [], alts := [], laidByText := true, laidKinds := [.sentinel, .sentinel, .sentinel], laidTests := true, laidLooks := .later }
def FnLoaderHeader32CardSaid : Prop := Claim7.holds Tryd.pinned (.plain (OpenSpec.ofChange fnLoaderHeader32Spec)) fnLoaderHeader32Card

/-- THE TIED CARD OF 'laws.FnReloc64'. -/
def fnReloc64Card : Claim7 := { stood := { row := fnReloc64Row, standIns := [], harness := (true, "84eb41fac098cef65b33bad50873b25bc52af3c45e6f0ed12e479936ff90ad54"), looks := true }, kinds := [], alts := [], laidByText := true, laidKinds := [.sentinel, .sentinel, .sentinel], laidTests := true, laidLooks := .later }
def FnReloc64CardSaid : Prop := Claim7.holds Tryd.pinned (.plain (OpenSpec.ofChange fnReloc64Spec)) fnReloc64Card

/-- THE TIED CARD OF 'laws.FnAuxFcn64'. -/
def fnAuxFcn64Card : Claim7 := { stood := { row := fnAuxFcn64Row, standIns := [], harness := (true, "84eb41fac098cef65b33bad50873b25bc52af3c45e6f0ed12e479936ff90ad54"), looks := true }, kinds := [], alts := [], laidByText := true, laidKinds := [.sentinel, .sentinel, .sentinel], laidTests := true, laidLooks := .later }
def FnAuxFcn64CardSaid : Prop := Claim7.holds Tryd.pinned (.plain (OpenSpec.ofChange fnAuxFcn64Spec)) fnAuxFcn64Card

/-- THE SECOND FORM's CARD OF 'laws.FnReloc32'. -/
def fnReloc32UptoCard : Claim7 := { stood := { row := fnReloc32UptoRow, standIns := [], harness := (true, "84eb41fac098cef65b33bad50873b25bc52af3c45e6f0ed12e479936ff90ad54"), looks := true }, kinds := [], alts := [], laidByText := true, laidKinds := [.sentinel, .sentinel, .sentinel], laidTests := true, laidLooks := .later }
def FnReloc32UptoCardSaid : Prop := Claim7.holds Tryd.pinned (.plain (OpenSpec.upto fnReloc32Spec)) fnReloc32UptoCard

/-- THE SECOND FORM's CARD OF 'laws.FnAuxFcn32'. -/
def fnAuxFcn32UptoCard : Claim7 := { stood := { row := fnAuxFcn32UptoRow, standIns := [], harness := (true, "84eb41fac098cef65b33bad50873b25bc52af3c45e6f0ed12e479936ff90ad54"), looks := true }, kinds := [], alts := [], laidByText := true, laidKinds := [.sentinel, .sentinel, .sentinel], laidTests := true, laidLooks := .later }
def FnAuxFcn32UptoCardSaid : Prop := Claim7.holds Tryd.pinned (.plain (OpenSpec.upto fnAuxFcn32Spec)) fnAuxFcn32UptoCard

/-- THE SECOND FORM's CARD OF 'laws.FnAuxCSect32'. -/
def fnAuxCSect32UptoCard : Claim7 := { stood := { row := fnAuxCSect32UptoRow, standIns := [], harness := (true, "84eb41fac098cef65b33bad50873b25bc52af3c45e6f0ed12e479936ff90ad54"), looks := true }, kinds := [], alts := [], laidByText := true, laidKinds := [.sentinel, .sentinel, .sentinel], laidTests := true, laidLooks := .later }
def FnAuxCSect32UptoCardSaid : Prop := Claim7.holds Tryd.pinned (.plain (OpenSpec.upto fnAuxCSect32Spec)) fnAuxCSect32UptoCard

/-- THE SECOND FORM's CARD OF 'laws.FnFileHeader32'. -/
def fnFileHeader32UptoCard : Claim7 := { stood := { row := fnFileHeader32UptoRow, standIns := [], harness := (true, "84eb41fac098cef65b33bad50873b25bc52af3c45e6f0ed12e479936ff90ad54"), looks := true }, kinds := [], alts := [], laidByText := true, laidKinds := [.sentinel, .sentinel, .sentinel], laidTests := true, laidLooks := .later }
def FnFileHeader32UptoCardSaid : Prop := Claim7.holds Tryd.pinned (.plain (OpenSpec.upto fnFileHeader32Spec)) fnFileHeader32UptoCard

/-- THE SECOND FORM's CARD OF 'laws.FnAuxCSect64'. -/
def fnAuxCSect64UptoCard : Claim7 := { stood := { row := fnAuxCSect64UptoRow, standIns := [], harness := (true, "84eb41fac098cef65b33bad50873b25bc52af3c45e6f0ed12e479936ff90ad54"), looks := true }, kinds := [], alts := [], laidByText := true, laidKinds := [.sentinel, .sentinel, .sentinel], laidTests := true, laidLooks := .later }
def FnAuxCSect64UptoCardSaid : Prop := Claim7.holds Tryd.pinned (.plain (OpenSpec.upto fnAuxCSect64Spec)) fnAuxCSect64UptoCard

/-- THE SECOND FORM's CARD OF 'laws.FnLoaderHeader32'. -/
def fnLoaderHeader32UptoCard : Claim7 := { stood := { row := fnLoaderHeader32UptoRow, standIns := [], harness := (true, "84eb41fac098cef65b33bad50873b25bc52af3c45e6f0ed12e479936ff90ad54"), looks := true }, kinds := [], alts := [], laidByText := true, laidKinds := [.sentinel, .sentinel, .sentinel], laidTests := true, laidLooks := .later }
def FnLoaderHeader32UptoCardSaid : Prop := Claim7.holds Tryd.pinned (.plain (OpenSpec.upto fnLoaderHeader32Spec)) fnLoaderHeader32UptoCard

/-- THE SECOND FORM's CARD OF 'laws.FnReloc64'. -/
def fnReloc64UptoCard : Claim7 := { stood := { row := fnReloc64UptoRow, standIns := [], harness := (true, "84eb41fac098cef65b33bad50873b25bc52af3c45e6f0ed12e479936ff90ad54"), looks := true }, kinds := [], alts := [], laidByText := true, laidKinds := [.sentinel, .sentinel, .sentinel], laidTests := true, laidLooks := .later }
def FnReloc64UptoCardSaid : Prop := Claim7.holds Tryd.pinned (.plain (OpenSpec.upto fnReloc64Spec)) fnReloc64UptoCard

/-- THE SECOND FORM's CARD OF 'laws.FnAuxFcn64'. -/
def fnAuxFcn64UptoCard : Claim7 := { stood := { row := fnAuxFcn64UptoRow, standIns := [], harness := (true, "84eb41fac098cef65b33bad50873b25bc52af3c45e6f0ed12e479936ff90ad54"), looks := true }, kinds := [], alts := [], laidByText := true, laidKinds := [.sentinel, .sentinel, .sentinel], laidTests := true, laidLooks := .later }
def FnAuxFcn64UptoCardSaid : Prop := Claim7.holds Tryd.pinned (.plain (OpenSpec.upto fnAuxFcn64Spec)) fnAuxFcn64UptoCard
end Rows
end Go.Proofs.YtngnocfmagmpmaaDoor
