/-
  DERIVED. GIVEN WITH THE SEED: THE CARDS: each row of YtjdmaflkafmmpaaDoorRows.lean that lists a variable, with what it lists TIED to the program's text (the seventh form; the later family's looks); each row that meets fmt, with fmt's text TOLD by the authors' own Lean function (tested against real Go, not proved from fmt's source: count such statements apart). THE CARD IS WHAT COUNTS. Prove the row's statement (the work); the ties are given (YtjdmaflkafmmpaaDoorTie.lean); close each card by the builder's one call (the guide's Derived/Test/ToyasCard.lean, 'card_holds'). Laid BY PROGRAM, IN A SANDBOX (cutbox-door.mjs). By AI agents, Wed Nov 11 2026. No macro, syntax, notation, axiom, sorry.
-/
import Derived.Test.YtjdmaflkafmmpaaDoorRows
import GoSem.ClaimSeven
namespace Go.Proofs.YtjdmaflkafmmpaaDoor
namespace Rows

/-- THE TIED CARD OF 'laws.FnEncodeTogether'. -/
def fnEncodeTogetherCard : Claim7 := { stood := { row := fnEncodeTogetherRow, standIns := [], harness := (true, "d299ab50fd32545031eb658f5edbb1bbb95709f9353e937923f1c658e7dcc82a"), looks := true }, kinds := [], alts := [], laidByText := true, laidKinds := [.sentinel, .sentinel, .sentinel, .sentinel, .sentinel, .data, .data], laidTests := true, laidLooks := .later }
def FnEncodeTogetherCardSaid : Prop := Claim7.holds Tryd.pinned (.plain (OpenSpec.ofChange fnEncodeTogetherSpec)) fnEncodeTogetherCard

/-- THE TIED CARD OF 'laws.FnEncodeOneWrite'. -/
def fnEncodeOneWriteCard : Claim7 := { stood := { row := fnEncodeOneWriteRow, standIns := [], harness := (true, "d299ab50fd32545031eb658f5edbb1bbb95709f9353e937923f1c658e7dcc82a"), looks := true }, kinds := [], alts := [], laidByText := true, laidKinds := [.sentinel, .sentinel, .sentinel, .data, .data], laidTests := true, laidLooks := .later }
def FnEncodeOneWriteCardSaid : Prop := Claim7.holds Tryd.pinned (.plain (OpenSpec.ofChange fnEncodeOneWriteSpec)) fnEncodeOneWriteCard

/-- THE TIED CARD OF 'laws.FnEncodeSizes'. -/
def fnEncodeSizesCard : Claim7 := { stood := { row := fnEncodeSizesRow, standIns := [], harness := (true, "d299ab50fd32545031eb658f5edbb1bbb95709f9353e937923f1c658e7dcc82a"), looks := true }, kinds := [], alts := [], laidByText := true, laidKinds := [.sentinel, .sentinel, .sentinel, .data, .data], laidTests := true, laidLooks := .later }
def FnEncodeSizesCardSaid : Prop := Claim7.holds Tryd.pinned (.plain (OpenSpec.ofChange fnEncodeSizesSpec)) fnEncodeSizesCard

/-- THE SECOND FORM's CARD OF 'laws.FnEncodeTogether'. -/
def fnEncodeTogetherUptoCard : Claim7 := { stood := { row := fnEncodeTogetherUptoRow, standIns := [], harness := (true, "d299ab50fd32545031eb658f5edbb1bbb95709f9353e937923f1c658e7dcc82a"), looks := true }, kinds := [], alts := [], laidByText := true, laidKinds := [.sentinel, .sentinel, .sentinel, .sentinel, .sentinel, .data, .data], laidTests := true, laidLooks := .later }
def FnEncodeTogetherUptoCardSaid : Prop := Claim7.holds Tryd.pinned (.plain (OpenSpec.upto fnEncodeTogetherSpec)) fnEncodeTogetherUptoCard

/-- THE SECOND FORM's CARD OF 'laws.FnEncodeOneWrite'. -/
def fnEncodeOneWriteUptoCard : Claim7 := { stood := { row := fnEncodeOneWriteUptoRow, standIns := [], harness := (true, "d299ab50fd32545031eb658f5edbb1bbb95709f9353e937923f1c658e7dcc82a"), looks := true }, kinds := [], alts := [], laidByText := true, laidKinds := [.sentinel, .sentinel, .sentinel, .data, .data], laidTests := true, laidLooks := .later }
def FnEncodeOneWriteUptoCardSaid : Prop := Claim7.holds Tryd.pinned (.plain (OpenSpec.upto fnEncodeOneWriteSpec)) fnEncodeOneWriteUptoCard

/-- THE SECOND FORM's CARD OF 'laws.FnEncodeSizes'. -/
def fnEncodeSizesUptoCard : Claim7 := { stood := { row := fnEncodeSizesUptoRow, standIns := [], harness := (true, "d299ab50fd32545031eb658f5edbb1bbb95709f9353e937923f1c658e7dcc82a"), looks := true }, kinds := [], alts := [], laidByText := true, laidKinds := [.sentinel, .sentinel, .sentinel, .data, .data], laidTests := true, laidLooks := .later }
def FnEncodeSizesUptoCardSaid : Prop := Claim7.holds Tryd.pinned (.plain (OpenSpec.upto fnEncodeSizesSpec)) fnEncodeSizesUptoCard
end Rows
end Go.Proofs.YtjdmaflkafmmpaaDoor
