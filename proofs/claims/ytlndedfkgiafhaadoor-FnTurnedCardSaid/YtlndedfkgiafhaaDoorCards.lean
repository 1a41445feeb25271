/-
  DERIVED. GIVEN WITH THE SEED: THE CARDS: each row of YtlndedfkgiafhaaDoorRows.lean that lists a variable, with what it lists TIED to the program's text (the seventh form; the later family's looks); each row that meets fmt, with fmt's text TOLD by the authors' own Lean function (tested against real Go, not proved from fmt's source: count such statements apart). THE CARD IS WHAT COUNTS. Prove the row's statement (the work); the ties are given (YtlndedfkgiafhaaDoorTie.lean); close each card by the builder's one call (the guide's Derived/Test/ToyasCard.lean, 'card_holds'). Laid BY PROGRAM, IN A SANDBOX (cutbox-door.mjs). By AI agents, Wed Nov 11 2026. No macro, syntax, notation, axiom, sorry.
-/
import Derived.Test.YtlndedfkgiafhaaDoorRows
import GoSem.ClaimSeven
namespace Go.Proofs.YtlndedfkgiafhaaDoor
namespace Rows

/-- THE TIED CARD OF 'laws.FnAny'. -/
def fnAnyCard : Claim7 := { stood := { row := fnAnyRow, standIns := [], harness := (true, "8dca24ed153038d7d2a7eb61084e58c6b5cf1db266900fd01df6c9024b4ff038"), looks := true }, kinds := [], alts := [], laidByText := true, laidKinds := [.sentinel, .sentinel, .sentinel], laidTests := true, laidLooks := .later }
def FnAnyCardSaid : Prop := Claim7.holds Tryd.pinned (.plain (OpenSpec.ofChange fnAnySpec)) fnAnyCard

/-- THE TIED CARD OF 'laws.FnCut'. -/
def fnCutCard : Claim7 := { stood := { row := fnCutRow, standIns := [], harness := (true, "8dca24ed153038d7d2a7eb61084e58c6b5cf1db266900fd01df6c9024b4ff038"), looks := true }, kinds := [], alts := [], laidByText := true, laidKinds := [.sentinel, .sentinel, .sentinel], laidTests := true, laidLooks := .later }
def FnCutCardSaid : Prop := Claim7.holds Tryd.pinned (.plain (OpenSpec.ofChange fnCutSpec)) fnCutCard

/-- THE TIED CARD OF 'laws.FnField'. -/
def fnFieldCard : Claim7 := { stood := { row := fnFieldRow, standIns := [], harness := (true, "8dca24ed153038d7d2a7eb61084e58c6b5cf1db266900fd01df6c9024b4ff038"), looks := true }, kinds := [], alts := [], laidByText := true, laidKinds := [.sentinel, .sentinel, .sentinel], laidTests := true, laidLooks := .later }
def FnFieldCardSaid : Prop := Claim7.holds Tryd.pinned (.plain (OpenSpec.ofChange fnFieldSpec)) fnFieldCard

/-- THE TIED CARD OF 'laws.FnTurned'. -/
def fnTurnedCard : Claim7 := { stood := { row := fnTurnedRow, standIns := [], harness := (true, "8dca24ed153038d7d2a7eb61084e58c6b5cf1db266900fd01df6c9024b4ff038"), looks := true }, kinds := [], alts := [], laidByText := true, laidKinds := [.sentinel, .sentinel, .sentinel], laidTests := true, laidLooks := .later }
def FnTurnedCardSaid : Prop := Claim7.holds Tryd.pinned (.plain (OpenSpec.ofChange fnTurnedSpec)) fnTurnedCard

/-- THE SECOND FORM's CARD OF 'laws.FnAny'. -/
def fnAnyUptoCard : Claim7 := { stood := { row := fnAnyUptoRow, standIns := [], harness := (true, "8dca24ed153038d7d2a7eb61084e58c6b5cf1db266900fd01df6c9024b4ff038"), looks := true }, kinds := [], alts := [], laidByText := true, laidKinds := [.sentinel, .sentinel, .sentinel], laidTests := true, laidLooks := .later }
def FnAnyUptoCardSaid : Prop := Claim7.holds Tryd.pinned (.plain (OpenSpec.upto fnAnySpec)) fnAnyUptoCard

/-- THE SECOND FORM's CARD OF 'laws.FnCut'. -/
def fnCutUptoCard : Claim7 := { stood := { row := fnCutUptoRow, standIns := [], harness := (true, "8dca24ed153038d7d2a7eb61084e58c6b5cf1db266900fd01df6c9024b4ff038"), looks := true }, kinds := [], alts := [], laidByText := true, laidKinds := [.sentinel, .sentinel, .sentinel], laidTests := true, laidLooks := .later }
def FnCutUptoCardSaid : Prop := Claim7.holds Tryd.pinned (.plain (OpenSpec.upto fnCutSpec)) fnCutUptoCard

/-- THE SECOND FORM's CARD OF 'laws.FnField'. -/
def fnFieldUptoCard : Claim7 := { stood := { row := fnFieldUptoRow, standIns := [], harness := (true, "8dca24ed153038d7d2a7eb61084e58c6b5cf1db266900fd01df6c9024b4ff038"), looks := true }, kinds := [], alts := [], laidByText := true, laidKinds := [.sentinel, .sentinel, .sentinel], laidTests := true, laidLooks := .later }
def FnFieldUptoCardSaid : Prop := Claim7.holds Tryd.pinned (.plain (OpenSpec.upto fnFieldSpec)) fnFieldUptoCard

/-- THE SECOND FORM's CARD OF 'laws.FnTurned'. -/
def fnTurnedUptoCard : Claim7 := { stood := { row := fnTurnedUptoRow, standIns := [], harness := (true, "8dca24ed153038d7d2a7eb61084e58c6b5cf1db266900fd01df6c9024b4ff038"), looks := true }, kinds := [], alts := [], laidByText := true, laidKinds := [.sentinel, .sentinel, .sentinel], laidTests := true, laidLooks := .later }
def FnTurnedUptoCardSaid : Prop := Claim7.holds Tryd.pinned (.plain (OpenSpec.upto fnTurnedSpec)) fnTurnedUptoCard
end Rows
end Go.Proofs.YtlndedfkgiafhaaDoor
