/-
  DERIVED. GIVEN WITH THE SEED: THE CARDS: each row of YtdjilplpbaackaaDoorRows.lean that lists a variable, with what it lists TIED to the program's text (the seventh form; the later family's looks); each row that meets fmt, with fmt's text TOLD by the authors' own Lean function (tested against real Go, not proved from fmt's source: count such statements apart). THE CARD IS WHAT COUNTS. Prove the row's statement (the work); the ties are given (YtdjilplpbaackaaDoorTie.lean); close each card by the builder's one call (the guide's Derived/Test/ToyasCard.lean, 'card_holds'). Laid BY PROGRAM, IN A SANDBOX (cutbox-door.mjs). By AI agents, Wed Nov 11 2026. No macro, syntax, notation, axiom, sorry.
-/
import Derived.Test.YtdjilplpbaackaaDoorRows
import GoSem.ClaimSeven
namespace Go.Proofs.YtdjilplpbaackaaDoor
namespace Rows

/-- THE TIED CARD OF 'laws.FnSymbols'. -/
def fnSymbolsCard : Claim7 := { stood := { row := fnSymbolsRow, standIns := [], harness := (true, "8bcdec333fd406b6dc1bed759c4e0228f65f79dc27b4caca4a251624b860347a"), looks := true }, kinds := [], alts := [], laidByText := true, laidKinds := [.handle, .sentinel, .sentinel], laidTests := true, laidLooks := .later }
def FnSymbolsCardSaid : Prop := Claim7.holds Tryd.pinned (.plain (OpenSpec.ofChange fnSymbolsSpec)) fnSymbolsCard

/-- THE TIED CARD OF 'laws.FnSymbolsBack'. -/
def fnSymbolsBackCard : Claim7 := { stood := { row := fnSymbolsBackRow, standIns := [], harness := (true, "8bcdec333fd406b6dc1bed759c4e0228f65f79dc27b4caca4a251624b860347a"), looks := true }, kinds := [], alts := [], laidByText := true, laidKinds := [.handle, .sentinel, .sentinel], laidTests := true, laidLooks := .later }
def FnSymbolsBackCardSaid : Prop := Claim7.holds Tryd.pinned (.plain (OpenSpec.ofChange fnSymbolsBackSpec)) fnSymbolsBackCard

/-- THE SECOND FORM's CARD OF 'laws.FnSymbols'. -/
def fnSymbolsUptoCard : Claim7 := { stood := { row := fnSymbolsUptoRow, standIns := [], harness := (true, "8bcdec333fd406b6dc1bed759c4e0228f65f79dc27b4caca4a251624b860347a"), looks := true }, kinds := [], alts := [], laidByText := true, laidKinds := [.handle, .sentinel, .sentinel], laidTests := true, laidLooks := .later }
def FnSymbolsUptoCardSaid : Prop := Claim7.holds Tryd.pinned (.plain (OpenSpec.upto fnSymbolsSpec)) fnSymbolsUptoCard

/-- THE SECOND FORM's CARD OF 'laws.FnSymbolsBack'. -/
def fnSymbolsBackUptoCard : Claim7 := { stood := { row := fnSymbolsBackUptoRow, standIns := [], harness := (true, "8bcdec333fd406b6dc1bed759c4e0228f65f79dc27b4caca4a251624b860347a"), looks := true }, kinds := [], alts := [], laidByText := true, laidKinds := [.handle, .sentinel, .sentinel], laidTests := true, laidLooks := .later }
def FnSymbolsBackUptoCardSaid : Prop := Claim7.holds Tryd.pinned (.plain (OpenSpec.upto fnSymbolsBackSpec)) fnSymbolsBackUptoCard
end Rows
end Go.Proofs.YtdjilplpbaackaaDoor
