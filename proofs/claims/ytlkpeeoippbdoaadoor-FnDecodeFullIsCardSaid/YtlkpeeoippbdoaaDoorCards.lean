/-
  DERIVED. GIVEN WITH THE SEED: THE CARDS: each row of YtlkpeeoippbdoaaDoorRows.lean that lists a variable, with what it lists TIED to the program's text (the seventh form; the later family's looks); each row that meets fmt, with fmt's text TOLD by the authors' own Lean function (tested against real Go, not proved from fmt's source: count such statements apart). THE CARD IS WHAT COUNTS. Prove the row's statement (the work); the ties are given (YtlkpeeoippbdoaaDoorTie.lean); close each card by the builder's one call (the guide's Derived/Test/ToyasCard.lean, 'card_holds'). Laid BY PROGRAM, IN A SANDBOX (cutbox-door.mjs). By AI agents, Wed Nov 11 2026. No macro, syntax, notation, axiom, sorry.
-/
import Derived.Test.YtlkpeeoippbdoaaDoorRows
import GoSem.ClaimSeven
namespace Go.Proofs.YtlkpeeoippbdoaaDoor
namespace Rows

/-- THE TIED CARD OF 'laws.FnDecodeCuts'. -/
def fnDecodeCutsCard : Claim7 := { stood := { row := fnDecodeCutsRow, standIns := [], harness := (true, "70f8a71ae4c0d83ce7cfe803fade9852158fe3110bf0f7daff1ba23a780417b7"), looks := true }, kinds := [], alts := [], laidByText := true, laidKinds := [.sentinel, .sentinel, .sentinel, .sentinel, .data, .data], laidTests := true, laidLooks := .later }
def FnDecodeCutsCardSaid : Prop := Claim7.holds Tryd.pinned (.plain (OpenSpec.ofChange fnDecodeCutsSpec)) fnDecodeCutsCard

/-- THE TIED CARD OF 'laws.FnDecodeFullIs'. -/
def fnDecodeFullIsCard : Claim7 := { stood := { row := fnDecodeFullIsRow, standIns := [], harness := (true, "70f8a71ae4c0d83ce7cfe803fade9852158fe3110bf0f7daff1ba23a780417b7"), looks := true }, kinds := [], alts := [], laidByText := true, laidKinds := [.sentinel, .sentinel, .sentinel, .sentinel, .data, .data], laidTests := true, laidLooks := .later }
def FnDecodeFullIsCardSaid : Prop := Claim7.holds Tryd.pinned (.plain (OpenSpec.ofChange fnDecodeFullIsSpec)) fnDecodeFullIsCard

/-- THE TIED CARD OF 'laws.FnDecodeIndex'. -/
def fnDecodeIndexCard : Claim7 := { stood := { row := fnDecodeIndexRow, standIns := [], harness := (true, "70f8a71ae4c0d83ce7cfe803fade9852158fe3110bf0f7daff1ba23a780417b7"), looks := true }, kinds := [], alts := [], laidByText := true, laidKinds := [.sentinel, .sentinel, .sentinel, .sentinel, .data, .data], laidTests := true, laidLooks := .later }
def FnDecodeIndexCardSaid : Prop := Claim7.holds Tryd.pinned (.plain (OpenSpec.ofChange fnDecodeIndexSpec)) fnDecodeIndexCard

/-- THE TIED CARD OF 'laws.FnDecodeQuiet'. -/
def fnDecodeQuietCard : Claim7 := { stood := { row := fnDecodeQuietRow, standIns := [], harness := (true, "70f8a71ae4c0d83ce7cfe803fade9852158fe3110bf0f7daff1ba23a780417b7"), looks := true }, kinds := [], alts := [], laidByText := true, laidKinds := [.sentinel, .sentinel, .sentinel, .sentinel, .data, .data], laidTests := true, laidLooks := .later }
def FnDecodeQuietCardSaid : Prop := Claim7.holds Tryd.pinned (.plain (OpenSpec.ofChange fnDecodeQuietSpec)) fnDecodeQuietCard

/-- THE TIED CARD OF 'laws.FnDecodeTooLarge'. -/
def fnDecodeTooLargeCard : Claim7 := { stood := { row := fnDecodeTooLargeRow, standIns := [], harness := (true, "70f8a71ae4c0d83ce7cfe803fade9852158fe3110bf0f7daff1ba23a780417b7"), looks := true }, kinds := [], alts := [], laidByText := true, laidKinds := [.sentinel, .sentinel, .sentinel, .sentinel, .data, .data], laidTests := true, laidLooks := .later }
def FnDecodeTooLargeCardSaid : Prop := Claim7.holds Tryd.pinned (.plain (OpenSpec.ofChange fnDecodeTooLargeSpec)) fnDecodeTooLargeCard

/-- THE TIED CARD OF 'laws.FnDecodeHuffman'. -/
def fnDecodeHuffmanCard : Claim7 := { stood := { row := fnDecodeHuffmanRow, standIns := [], harness := (true, "70f8a71ae4c0d83ce7cfe803fade9852158fe3110bf0f7daff1ba23a780417b7"), looks := true }, kinds := [], alts := [], laidByText := true, laidKinds := [.sentinel, .sentinel, .sentinel, .sentinel, .data, .data], laidTests := true, laidLooks := .later }
def FnDecodeHuffmanCardSaid : Prop := Claim7.holds Tryd.pinned (.plain (OpenSpec.ofChange fnDecodeHuffmanSpec)) fnDecodeHuffmanCard

/-- THE SECOND FORM's CARD OF 'laws.FnDecodeCuts'. -/
def fnDecodeCutsUptoCard : Claim7 := { stood := { row := fnDecodeCutsUptoRow, standIns := [], harness := (true, "70f8a71ae4c0d83ce7cfe803fade9852158fe3110bf0f7daff1ba23a780417b7"), looks := true }, kinds := [], alts := [], laidByText := true, laidKinds := [.sentinel, .sentinel, .sentinel, .sentinel, .data, .data], laidTests := true, laidLooks := .later }
def FnDecodeCutsUptoCardSaid : Prop := Claim7.holds Tryd.pinned (.plain (OpenSpec.upto fnDecodeCutsSpec)) fnDecodeCutsUptoCard

/-- THE SECOND FORM's CARD OF 'laws.FnDecodeFullIs'. -/
def fnDecodeFullIsUptoCard : Claim7 := { stood := { row := fnDecodeFullIsUptoRow, standIns := [], harness := (true, "70f8a71ae4c0d83ce7cfe803fade9852158fe3110bf0f7daff1ba23a780417b7"), looks := true }, kinds := [], alts := [], laidByText := true, laidKinds := [.sentinel, .sentinel, .sentinel, .sentinel, .data, .data], laidTests := true, laidLooks := .later }
def FnDecodeFullIsUptoCardSaid : Prop := Claim7.holds Tryd.pinned (.plain (OpenSpec.upto fnDecodeFullIsSpec)) fnDecodeFullIsUptoCard

/-- THE SECOND FORM's CARD OF 'laws.FnDecodeIndex'. -/
def fnDecodeIndexUptoCard : Claim7 := { stood := { row := fnDecodeIndexUptoRow, standIns := [], harness := (true, "70f8a71ae4c0d83ce7cfe803fade9852158fe3110bf0f7daff1ba23a780417b7"), looks := true }, kinds := [], alts := [], laidByText := true, laidKinds := [.sentinel, .sentinel, .sentinel, .sentinel, .data, .data], laidTests := true, laidLooks := .later }
def FnDecodeIndexUptoCardSaid : Prop := Claim7.holds Tryd.pinned (.plain (OpenSpec.upto fnDecodeIndexSpec)) fnDecodeIndexUptoCard

/-- THE SECOND FORM's CARD OF 'laws.FnDecodeQuiet'. -/
def fnDecodeQuietUptoCard : Claim7 := { stood := { row := fnDecodeQuietUptoRow, standIns := [], harness := (true, "70f8a71ae4c0d83ce7cfe803fade9852158fe3110bf0f7daff1ba23a780417b7"), looks := true }, kinds := [], alts := [], laidByText := true, laidKinds := [.sentinel, .sentinel, .sentinel, .sentinel, .data, .data], laidTests := true, laidLooks := .later }
def FnDecodeQuietUptoCardSaid : Prop := Claim7.holds Tryd.pinned (.plain (OpenSpec.upto fnDecodeQuietSpec)) fnDecodeQuietUptoCard

/-- THE SECOND FORM's CARD OF 'laws.FnDecodeTooLarge'. -/
def fnDecodeTooLargeUptoCard : Claim7 := { stood := { row := fnDecodeTooLargeUptoRow, standIns := [], harness := (true, "70f8a71ae4c0d83ce7cfe803fade9852158fe3110bf0f7daff1ba23a780417b7"), looks := true }, kinds := [], alts := [], laidByText := true, laidKinds := [.sentinel, .sentinel, .sentinel, .sentinel, .data, .data], laidTests := true, laidLooks := .later }
def FnDecodeTooLargeUptoCardSaid : Prop := Claim7.holds Tryd.pinned (.plain (OpenSpec.upto fnDecodeTooLargeSpec)) fnDecodeTooLargeUptoCard

/-- THE SECOND FORM's CARD OF 'laws.FnDecodeHuffman'. -/
def fnDecodeHuffmanUptoCard : Claim7 := { stood := { row := fnDecodeHuffmanUptoRow, standIns := [], harness := (true, "70f8a71ae4c0d83ce7cfe803fade9852158fe3110bf0f7daff1ba23a780417b7"), looks := true }, kinds := [], alts := [], laidByText := true, laidKinds := [.sentinel, .sentinel, .sentinel, .sentinel, .data, .data], laidTests := true, laidLooks := .later }
def FnDecodeHuffmanUptoCardSaid : Prop := Claim7.holds Tryd.pinned (.plain (OpenSpec.upto fnDecodeHuffmanSpec)) fnDecodeHuffmanUptoCard
end Rows
end Go.Proofs.YtlkpeeoippbdoaaDoor
