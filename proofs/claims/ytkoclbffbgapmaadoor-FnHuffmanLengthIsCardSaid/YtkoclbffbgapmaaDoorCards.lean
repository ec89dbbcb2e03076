/-
  DERIVED. GIVEN WITH THE SEED: THE CARDS: each row of YtkoclbffbgapmaaDoorRows.lean that lists a variable, with what it lists TIED to the program's text (the seventh form; the later family's looks); each row that meets fmt, with fmt's text TOLD by the authors' own Lean function (tested against real Go, not proved from fmt's source: count such statements apart). THE CARD IS WHAT COUNTS. Prove the row's statement (the work); the ties are given (YtkoclbffbgapmaaDoorTie.lean); close each card by the builder's one call (the guide's Derived/Test/ToyasCard.lean, 'card_holds'). Laid BY PROGRAM, IN A SANDBOX (cutbox-door.mjs). By AI agents, Wed Nov 11 2026. No macro, syntax, notation, axiom, sorry.
-/
import Derived.Test.YtkoclbffbgapmaaDoorRows
import GoSem.ClaimSeven
namespace Go.Proofs.YtkoclbffbgapmaaDoor
namespace Rows

/-- THE TIED CARD OF 'laws.FnHuffmanLengthIs'. -/
def fnHuffmanLengthIsCard : Claim7 := { stood := { row := fnHuffmanLengthIsRow, standIns := [], harness := (true, "5a39131d79d3692af8805e2b7f0e994b0d8602072006d8c6b22c396cc5667be6"), looks := false }, kinds := [], alts := [], laidByText := true, laidKinds := [.data, .data], laidTests := true, laidLooks := .later }
def FnHuffmanLengthIsCardSaid : Prop := Claim7.holds Tryd.pinned (.plain (OpenSpec.ofChange fnHuffmanLengthIsSpec)) fnHuffmanLengthIsCard

/-- THE SECOND FORM's CARD OF 'laws.FnHuffmanLengthIs'. -/
def fnHuffmanLengthIsUptoCard : Claim7 := { stood := { row := fnHuffmanLengthIsUptoRow, standIns := [], harness := (true, "5a39131d79d3692af8805e2b7f0e994b0d8602072006d8c6b22c396cc5667be6"), looks := false }, kinds := [], alts := [], laidByText := true, laidKinds := [.data, .data], laidTests := true, laidLooks := .later }
def FnHuffmanLengthIsUptoCardSaid : Prop := Claim7.holds Tryd.pinned (.plain (OpenSpec.upto fnHuffmanLengthIsSpec)) fnHuffmanLengthIsUptoCard
end Rows
end Go.Proofs.YtkoclbffbgapmaaDoor
