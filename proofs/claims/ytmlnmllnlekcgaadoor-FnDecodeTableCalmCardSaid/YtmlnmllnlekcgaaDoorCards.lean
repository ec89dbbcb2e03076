/-
  DERIVED. GIVEN WITH THE SEED: THE CARDS: each row of YtmlnmllnlekcgaaDoorRows.lean that lists a variable, with what it lists TIED to the program's text (the seventh form; the later family's looks); each row that meets fmt, with fmt's text TOLD by the authors' own Lean function (tested against real Go, not proved from fmt's source: count such statements apart). THE CARD IS WHAT COUNTS. Prove the row's statement (the work); the ties are given (YtmlnmllnlekcgaaDoorTie.lean); close each card by the builder's one call (the guide's Derived/Test/ToyasCard.lean, 'card_holds'). Laid BY PROGRAM, IN A SANDBOX (cutbox-door.mjs). By AI agents, Wed Nov 11 2026. No macro, syntax, notation, axiom, sorry.
-/
import Derived.Test.YtmlnmllnlekcgaaDoorRows
import GoSem.ClaimSeven
namespace Go.Proofs.YtmlnmllnlekcgaaDoor
namespace Rows

/-- THE TIED CARD OF 'laws.FnDecodeTable'. -/
def fnDecodeTableCard : Claim7 := { stood := { row := fnDecodeTableRow, standIns := [], harness := (true, "be9944836837aecc14f33b0edb9d07f56a01dcc055afcd48db5d125ee655a62c"), looks := true }, kinds := [], alts := [], laidByText := true, laidKinds := [.sentinel], laidTests := true, laidLooks := .later }
def FnDecodeTableCardSaid : Prop := Claim7.holds Tryd.pinned (.plain (OpenSpec.ofChange fnDecodeTableSpec)) fnDecodeTableCard
end Rows
end Go.Proofs.YtmlnmllnlekcgaaDoor
