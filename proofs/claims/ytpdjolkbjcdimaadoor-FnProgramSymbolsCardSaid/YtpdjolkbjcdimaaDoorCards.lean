/-
  DERIVED. GIVEN WITH THE SEED: THE CARDS: each row of YtpdjolkbjcdimaaDoorRows.lean that lists a variable, with what it lists TIED to the program's text (the seventh form; the later family's looks); each row that meets fmt, with fmt's text TOLD by the authors' own Lean function (tested against real Go, not proved from fmt's source: count such statements apart). THE CARD IS WHAT COUNTS. Prove the row's statement (the work); the ties are given (YtpdjolkbjcdimaaDoorTie.lean); close each card by the builder's one call (the guide's Derived/Test/ToyasCard.lean, 'card_holds'). Laid BY PROGRAM, IN A SANDBOX (cutbox-door.mjs). By AI agents, Wed Nov 11 2026. No macro, syntax, notation, axiom, sorry.
-/
import Derived.Test.YtpdjolkbjcdimaaDoorRows
import GoSem.ClaimSeven
namespace Go.Proofs.YtpdjolkbjcdimaaDoor
namespace Rows

/-- THE TIED CARD OF 'laws.FnProg'. -/
def fnProgCard : Claim7 := { stood := { row := fnProgRow, standIns := [], harness := (true, "a7d7a2d28777bafa2b666738f7ddca5fb0ada268cc30f795400d99335039699e"), looks := true }, kinds := [], alts := [], laidByText := true, laidKinds := [.sentinel, .sentinel, .sentinel], laidTests := true, laidLooks := .later }
def FnProgCardSaid : Prop := Claim7.holds Tryd.pinned (.plain (OpenSpec.ofChange fnProgSpec)) fnProgCard

/-- THE TIED CARD OF 'laws.FnProgram'. -/
def fnProgramCard : Claim7 := { stood := { row := fnProgramRow, standIns := [], harness := (true, "a7d7a2d28777bafa2b666738f7ddca5fb0ada268cc30f795400d99335039699e"), looks := true }, kinds := [], alts := [], laidByText := true, laidKinds := [.sentinel, .sentinel, .sentinel], laidTests := true, laidLooks := .later }
def FnProgramCardSaid : Prop := Claim7.holds Tryd.pinned (.plain (OpenSpec.ofChange fnProgramSpec)) fnProgramCard

/-- THE TIED CARD OF 'laws.FnProgramSymbols'. -/
def fnProgramSymbolsCard : Claim7 := { stood := { row := fnProgramSymbolsRow, standIns := [], harness := (true, "a7d7a2d28777bafa2b666738f7ddca5fb0ada268cc30f795400d99335039699e"), looks := true }, kinds := [], alts := [], laidByText := true, laidKinds := [.sentinel, .sentinel, .sentinel, .sentinel], laidTests := true, laidLooks := .later }
def FnProgramSymbolsCardSaid : Prop := Claim7.holds Tryd.pinned (.plain (OpenSpec.ofChange fnProgramSymbolsSpec)) fnProgramSymbolsCard

/-- THE SECOND FORM's CARD OF 'laws.FnProg'. -/
def fnProgUptoCard : Claim7 := { stood := { row := fnProgUptoRow, standIns := [], harness := (true, "a7d7a2d28777bafa2b666738f7ddca5fb0ada268cc30f795400d99335039699e"), looks := true }, kinds := [], alts := [], laidByText := true, laidKinds := [.sentinel, .sentinel, .sentinel], laidTests := true, laidLooks := .later }
def FnProgUptoCardSaid : Prop := Claim7.holds Tryd.pinned (.plain (OpenSpec.upto fnProgSpec)) fnProgUptoCard

/-- THE SECOND FORM's CARD OF 'laws.FnProgram'. -/
def fnProgramUptoCard : Claim7 := { stood := { row := fnProgramUptoRow, standIns := [], harness := (true, "a7d7a2d28777bafa2b666738f7ddca5fb0ada268cc30f795400d99335039699e"), looks := true }, kinds := [], alts := [], laidByText := true, laidKinds := [.sentinel, .sentinel, .sentinel], laidTests := true, laidLooks := .later }
def FnProgramUptoCardSaid : Prop := Claim7.holds Tryd.pinned (.plain (OpenSpec.upto fnProgramSpec)) fnProgramUptoCard

/-- THE SECOND FORM's CARD OF 'laws.FnProgramSymbols'. -/
def fnProgramSymbolsUptoCard : Claim7 := { stood := { row := fnProgramSymbolsUptoRow, standIns := [], harness := (true, "a7d7a2d28777bafa2b666738f7ddca5fb0ada268cc30f795400d99335039699e"), looks := true }, kinds := [], alts := [], laidByText := true, laidKinds := [.sentinel, .sentinel, .sentinel, .sentinel], laidTests := true, laidLooks := .later }
def FnProgramSymbolsUptoCardSaid : Prop := Claim7.holds Tryd.pinned (.plain (OpenSpec.upto fnProgramSymbolsSpec)) fnProgramSymbolsUptoCard
end Rows
end Go.Proofs.YtpdjolkbjcdimaaDoor
