/-
  No cell of these rows narrows 'for every input' (looked for: loops, veiled, ifaces, maps, wideKeys, modest, calm, conditions, laid).
  DERIVED. THE GIVEN ROWS OF THIS SEAT. 2 by the template 'for every input the law returns true; each argument reads behind the call as it read before'; 0 by the template 'total and deterministic' (their statements: YtkoclbffbgapmaaTotals.lean).
  GIVEN WITH THE SEED: the statements are not yours to turn. If you find one false, say at which input.
  Laid BY PROGRAM, IN A SANDBOX (cutbox-rows.mjs): the forced cells as the released guide's own fill.sh prints them over the translation a094ad6a2143bd44… (all of the seat's roots in one cut). By AI agents, Wed Nov 11 2026. No macro, syntax, notation, axiom, sorry.
-/
import Derived.Test.YtkoclbffbgapmaaChecked
import GoSem.Claim
import GoSem.ClaimJoined
import GoSem.ClaimMapViews
import Derived.JoinedTies
import Derived.KernelRfl
namespace Go.Proofs.Ytkoclbffbgapmaa
/- THE CELL 'sum', in the pinned program and in every row, IS THE sha256 OF THE DUMP (.gsa) THAT YtkoclbffbgapmaaProg.lean LOADS. Nothing in Lean hashes anything: it is a label: what it is worth is what the hold of that sum in a sandbox is worth. -/
noncomputable def Try.pinned : Pinned := { name := "ytkoclbffbgapmaa", sum := "a094ad6a2143bd4484e03475698e8e001f1ff41dff338dd20f1b5b4236763d0b", checked := Try.checked }
namespace Rows
def none {H : Type} : Left H := { results := [], args := [] }

/-- 'laws.FnFieldPseudoIs': WHATEVER THE INPUT: true; the input reads as it did. -/
def fnFieldPseudoIsSpec : ChangeSpec := { name := "fnFieldPseudoIs", fn := fun _ => fun
  | [d] => { results := [.lit (.bool true)], args := [d] }
  | _ => none }
def fnFieldPseudoIsRow : OpenClaim := { program := "ytkoclbffbgapmaa", sum := "a094ad6a2143bd4484e03475698e8e001f1ff41dff338dd20f1b5b4236763d0b", func := "loop.example/pub-g03022/laws.FnFieldPseudoIs", spec := "fnFieldPseudoIs", apart := false }
def FnFieldPseudoIsSaid : Prop := fnFieldPseudoIsRow.holds Try.pinned (OpenSpec.ofChange fnFieldPseudoIsSpec)

/-- ITS FALSE NEIGHBOUR: 'it returns false'. Refute it at one input. -/
def fnFieldPseudoIsWrong : ChangeSpec := { name := "fnFieldPseudoIs", fn := fun _ => fun
  | [d] => { results := [.lit (.bool false)], args := [d] }
  | _ => none }
def FnFieldPseudoIsWrongFalsely : Prop := fnFieldPseudoIsRow.holds Try.pinned (OpenSpec.ofChange fnFieldPseudoIsWrong)

/-- 'laws.FnFieldSizeIs': WHATEVER THE INPUT: true; the input reads as it did. -/
def fnFieldSizeIsSpec : ChangeSpec := { name := "fnFieldSizeIs", fn := fun _ => fun
  | [d] => { results := [.lit (.bool true)], args := [d] }
  | _ => none }
def fnFieldSizeIsRow : OpenClaim := { program := "ytkoclbffbgapmaa", sum := "a094ad6a2143bd4484e03475698e8e001f1ff41dff338dd20f1b5b4236763d0b", func := "loop.example/pub-g03022/laws.FnFieldSizeIs", spec := "fnFieldSizeIs", apart := false }
def FnFieldSizeIsSaid : Prop := fnFieldSizeIsRow.holds Try.pinned (OpenSpec.ofChange fnFieldSizeIsSpec)

/-- ITS FALSE NEIGHBOUR: 'it returns false'. Refute it at one input. -/
def fnFieldSizeIsWrong : ChangeSpec := { name := "fnFieldSizeIs", fn := fun _ => fun
  | [d] => { results := [.lit (.bool false)], args := [d] }
  | _ => none }
def FnFieldSizeIsWrongFalsely : Prop := fnFieldSizeIsRow.holds Try.pinned (OpenSpec.ofChange fnFieldSizeIsWrong)

/- THE SECOND FORM. 'bulk': how many values and letters a reading holds, each counted each time it is reached (what is shared counts as often as it is met; a slice's spare places count too). A statement '..UptoSaid' is the law's where the arguments, and the package variables that the reading takes, are together of bulk at most 1048576: NARROWER than '..Said'. Prove '..Said' where nothing that the law and all that it calls make is longer than what came in: it says more and counts as full. Else prove '..UptoSaid'. A law counts once. -/
mutual
def uptoBulk {H : Type} : DataW H → Nat
  | .lit (.string bytes) => bytes.length + 1
  | .lit _ => 1
  | .nil => 1
  | .ptr d => uptoBulk d + 1
  | .slice elems spare => uptoBulkAll elems + uptoBulkAll spare + 1
  | .agg parts => uptoBulkAll parts + 1
  | .iface _ d => uptoBulk d + 1
  | .map entries => uptoBulkEntries entries + 1
  | .held _ => 1
def uptoBulkAll {H : Type} : List (DataW H) → Nat
  | [] => 0
  | d :: r => uptoBulk d + uptoBulkAll r
def uptoBulkEntries {H : Type} : List (Lit × DataW H) → Nat
  | [] => 0
  | x :: r => uptoBulkEntry x + uptoBulkEntries r
def uptoBulkEntry {H : Type} : Lit × DataW H → Nat
  | (.string bytes, d) => bytes.length + uptoBulk d + 1
  | (_, d) => uptoBulk d + 1
 end
def uptoSmall : (H : Type) → List (DataW H) → Bool := fun _ ds => decide (uptoBulkAll ds ≤ 1048576)
def OpenSpec.upto (s : _root_.Go.ChangeSpec) : _root_.Go.OpenSpec := { _root_.Go.OpenSpec.ofChange s with cond := some uptoSmall }

/-- 'laws.FnFieldPseudoIs', WHERE WHAT IT READS IS OF BULK AT MOST 1048576: true; the input reads as it did. -/
def fnFieldPseudoIsUptoRow : OpenClaim := { program := "ytkoclbffbgapmaa", sum := "a094ad6a2143bd4484e03475698e8e001f1ff41dff338dd20f1b5b4236763d0b", func := "loop.example/pub-g03022/laws.FnFieldPseudoIs", spec := "fnFieldPseudoIs", apart := false, narrowed := true }
def FnFieldPseudoIsUptoSaid : Prop := fnFieldPseudoIsUptoRow.holds Try.pinned (OpenSpec.upto fnFieldPseudoIsSpec)

/-- 'laws.FnFieldSizeIs', WHERE WHAT IT READS IS OF BULK AT MOST 1048576: true; the input reads as it did. -/
def fnFieldSizeIsUptoRow : OpenClaim := { program := "ytkoclbffbgapmaa", sum := "a094ad6a2143bd4484e03475698e8e001f1ff41dff338dd20f1b5b4236763d0b", func := "loop.example/pub-g03022/laws.FnFieldSizeIs", spec := "fnFieldSizeIs", apart := false, narrowed := true }
def FnFieldSizeIsUptoSaid : Prop := fnFieldSizeIsUptoRow.holds Try.pinned (OpenSpec.upto fnFieldSizeIsSpec)

end Rows
end Go.Proofs.Ytkoclbffbgapmaa
