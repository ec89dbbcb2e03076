/-
  DERIVED. GIVEN WITH THE SEED: THE CARDS: each row of YtnemkaiaieomfaaDoorRows.lean that lists a variable, with what it lists TIED to the program's text (the seventh form; the later family's looks); each row that meets fmt, with fmt's text TOLD by the authors' own Lean function (tested against real Go, not proved from fmt's source: count such statements apart). THE CARD IS WHAT COUNTS. Prove the row's statement (the work); the ties are given (YtnemkaiaieomfaaDoorTie.lean); close each card by the builder's one call (the guide's Derived/Test/ToyasCard.lean, 'card_holds'). Laid BY PROGRAM, IN A SANDBOX (cutbox-door.mjs). By AI agents, Wed Nov 11 2026. No macro, syntax, notation, axiom, sorry.
-/
import Derived.Test.YtnemkaiaieomfaaDoorRows
import GoSem.ClaimSeven
namespace Go.Proofs.YtnemkaiaieomfaaDoor
namespace Rows

/-- THE TIED CARD OF 'laws.FnHuffmanJoin'. -/
def fnHuffmanJoinCard : Claim7 := { stood := { row := fnHuffmanJoinRow, standIns := [], harness := (true, "6403307a994124c72a1a3d3917d9bd9e2de6ce6022722f432c7f07181d554aa5"), looks := true }, kinds := [], alts := [], laidByText := true, laidKinds := [.data, .data], laidTests := true, laidLooks := .later }
def FnHuffmanJoinCardSaid : Prop := Claim7.holds Tryd.pinned (.plain (OpenSpec.ofChange fnHuffmanJoinSpec)) fnHuffmanJoinCard

/-- THE TIED CARD OF 'laws.FnHuffmanBack'. -/
def fnHuffmanBackCard : Claim7 := { stood := { row := fnHuffmanBackRow, standIns := [], harness := (true, "6403307a994124c72a1a3d3917d9bd9e2de6ce6022722f432c7f07181d554aa5"), looks := true }, kinds := [], alts := [], laidByText := true, laidKinds := [.sentinel, .sentinel, .sentinel, .data, .data], laidTests := true, laidLooks := .later }
def FnHuffmanBackCardSaid : Prop := Claim7.holds Tryd.pinned (.plain (OpenSpec.ofChange fnHuffmanBackSpec)) fnHuffmanBackCard

/-- THE TIED CARD OF 'laws.FnHuffmanForth'. -/
def fnHuffmanForthCard : Claim7 := { stood := { row := fnHuffmanForthRow, standIns := [], harness := (true, "6403307a994124c72a1a3d3917d9bd9e2de6ce6022722f432c7f07181d554aa5"), looks := true }, kinds := [], alts := [], laidByText := true, laidKinds := [.sentinel, .sentinel, .sentinel, .data, .data], laidTests := true, laidLooks := .later }
def FnHuffmanForthCardSaid : Prop := Claim7.holds Tryd.pinned (.plain (OpenSpec.ofChange fnHuffmanForthSpec)) fnHuffmanForthCard

/-- THE TIED CARD OF 'laws.FnHuffmanWriteIs'. -/
def fnHuffmanWriteIsCard : Claim7 := { stood := { row := fnHuffmanWriteIsRow, standIns := [], harness := (true, "6403307a994124c72a1a3d3917d9bd9e2de6ce6022722f432c7f07181d554aa5"), looks := true }, kinds := [], alts := [], laidByText := true, laidKinds := [.sentinel, .sentinel, .sentinel, .data, .data], laidTests := true, laidLooks := .later }
def FnHuffmanWriteIsCardSaid : Prop := Claim7.holds Tryd.pinned (.plain (OpenSpec.ofChange fnHuffmanWriteIsSpec)) fnHuffmanWriteIsCard

/-- THE SECOND FORM's CARD OF 'laws.FnHuffmanJoin'. -/
def fnHuffmanJoinUptoCard : Claim7 := { stood := { row := fnHuffmanJoinUptoRow, standIns := [], harness := (true, "6403307a994124c72a1a3d3917d9bd9e2de6ce6022722f432c7f07181d554aa5"), looks := true }, kinds := [], alts := [], laidByText := true, laidKinds := [.data, .data], laidTests := true, laidLooks := .later }
def FnHuffmanJoinUptoCardSaid : Prop := Claim7.holds Tryd.pinned (.plain (OpenSpec.upto fnHuffmanJoinSpec)) fnHuffmanJoinUptoCard

/-- THE SECOND FORM's CARD OF 'laws.FnHuffmanBack'. -/
def fnHuffmanBackUptoCard : Claim7 := { stood := { row := fnHuffmanBackUptoRow, standIns := [], harness := (true, "6403307a994124c72a1a3d3917d9bd9e2de6ce6022722f432c7f07181d554aa5"), looks := true }, kinds := [], alts := [], laidByText := true, laidKinds := [.sentinel, .sentinel, .sentinel, .data, .data], laidTests := true, laidLooks := .later }
def FnHuffmanBackUptoCardSaid : Prop := Claim7.holds Tryd.pinned (.plain (OpenSpec.upto fnHuffmanBackSpec)) fnHuffmanBackUptoCard

/-- THE SECOND FORM's CARD OF 'laws.FnHuffmanForth'. -/
def fnHuffmanForthUptoCard : Claim7 := { stood := { row := fnHuffmanForthUptoRow, standIns := [], harness := (true, "6403307a994124c72a1a3d3917d9bd9e2de6ce6022722f432c7f07181d554aa5"), looks := true }, kinds := [], alts := [], laidByText := true, laidKinds := [.sentinel, .sentinel, .sentinel, .data, .data], laidTests := true, laidLooks := .later }
def FnHuffmanForthUptoCardSaid : Prop := Claim7.holds Tryd.pinned (.plain (OpenSpec.upto fnHuffmanForthSpec)) fnHuffmanForthUptoCard

/-- THE SECOND FORM's CARD OF 'laws.FnHuffmanWriteIs'. -/
def fnHuffmanWriteIsUptoCard : Claim7 := { stood := { row := fnHuffmanWriteIsUptoRow, standIns := [], harness := (true, "6403307a994124c72a1a3d3917d9bd9e2de6ce6022722f432c7f07181d554aa5"), looks := true }, kinds := [], alts := [], laidByText := true, laidKinds := [.sentinel, .sentinel, .sentinel, .data, .data], laidTests := true, laidLooks := .later }
def FnHuffmanWriteIsUptoCardSaid : Prop := Claim7.holds Tryd.pinned (.plain (OpenSpec.upto fnHuffmanWriteIsSpec)) fnHuffmanWriteIsUptoCard
end Rows
end Go.Proofs.YtnemkaiaieomfaaDoor
