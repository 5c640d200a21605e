/-
  DERIVED. GIVEN WITH THE SEED: THE CARDS: each row of YbulkajrsDoorRows.lean that lists a variable, with what it lists TIED to the program's text (the seventh form; the later family's looks); each row that meets fmt, with fmt's text TOLD by the authors' own Lean function (tested against real Go, not proved from fmt's source: count such statements apart). THE CARD IS WHAT COUNTS. Prove the row's statement (the work); the ties are given (YbulkajrsDoorTie.lean); close each card by the builder's one call (the guide's Derived/Test/ToyasCard.lean, 'card_holds'). Laid BY PROGRAM, IN A SANDBOX (cutbox-door.mjs). By AI agents, Wed Nov 11 2026. No macro, syntax, notation, axiom, sorry.
-/
import Derived.Test.YbulkajrsDoorRows
import GoSem.ClaimSeven
namespace Go.Proofs.YbulkajrsDoor
namespace Rows

/-- THE TIED CARD OF 'ample-wheel.LawS1773AFirst'. -/
def lawS1773AFirstCard : Claim7 := { stood := { row := lawS1773AFirstRow, standIns := [], harness := (true, "126fdb9c9e7623b3cf9bdfb70f19e4291fa8499df3f404a4cae168dd2dfa3a88"), looks := false }, kinds := [], alts := [], laidByText := true, laidKinds := [.data, .data], laidTests := true, laidLooks := .later }
def LawS1773AFirstCardSaid : Prop := Claim7.holds Ybad.pinned (.plain (OpenSpec.ofChange lawS1773AFirstSpec)) lawS1773AFirstCard

/-- THE TIED CARD OF 'ample-wheel.LawS1773AHolds'. -/
def lawS1773AHoldsCard : Claim7 := { stood := { row := lawS1773AHoldsRow, standIns := [], harness := (true, "126fdb9c9e7623b3cf9bdfb70f19e4291fa8499df3f404a4cae168dd2dfa3a88"), looks := false }, kinds := [], alts := [], laidByText := true, laidKinds := [.data, .data], laidTests := true, laidLooks := .later }
def LawS1773AHoldsCardSaid : Prop := Claim7.holds Ybad.pinned (.plain (OpenSpec.ofChange lawS1773AHoldsSpec)) lawS1773AHoldsCard

/-- THE TIED CARD OF 'ample-wheel.LawS1773BUnlinkAll'. -/
def lawS1773BUnlinkAllCard : Claim7 := { stood := { row := lawS1773BUnlinkAllRow, standIns := [], harness := (true, "126fdb9c9e7623b3cf9bdfb70f19e4291fa8499df3f404a4cae168dd2dfa3a88"), looks := false }, kinds := [], alts := [], laidByText := true, laidKinds := [.data, .data], laidTests := true, laidLooks := .later }
def LawS1773BUnlinkAllCardSaid : Prop := Claim7.holds Ybad.pinned (.plain (OpenSpec.ofChange lawS1773BUnlinkAllSpec)) lawS1773BUnlinkAllCard

/-- THE TIED CARD OF 'ample-wheel.LawS1773BReAdd'. -/
def lawS1773BReAddCard : Claim7 := { stood := { row := lawS1773BReAddRow, standIns := [], harness := (true, "126fdb9c9e7623b3cf9bdfb70f19e4291fa8499df3f404a4cae168dd2dfa3a88"), looks := false }, kinds := [], alts := [], laidByText := true, laidKinds := [.data, .data], laidTests := true, laidLooks := .later }
def LawS1773BReAddCardSaid : Prop := Claim7.holds Ybad.pinned (.plain (OpenSpec.ofChange lawS1773BReAddSpec)) lawS1773BReAddCard
end Rows
end Go.Proofs.YbulkajrsDoor
