/-
  NARROWER THAN 'FOR EVERY INPUT', by the rows' own cells (each row's printed sentence says how): FnDecodeTable: ifaces, laid.
  DERIVED. THE GIVEN ROWS OF THIS SEAT. 1 by the template 'for every input the law returns true; each argument reads behind the call as it read before'; 0 by the template 'total and deterministic' (their statements: YtmlnmllnlekcgaaDoorTotals.lean).
  GIVEN WITH THE SEED: the statements are not yours to turn. If you find one false, say at which input.
  Laid BY PROGRAM, IN A SANDBOX (cutbox-rows.mjs): the forced cells as the released guide's own fill.sh prints them over the translation 6b8390293b6d972a… (all of the seat's roots in one cut). By AI agents, Wed Nov 11 2026. No macro, syntax, notation, axiom, sorry.
-/
import Derived.Test.YtmlnmllnlekcgaaDoorChecked
import GoSem.Claim
import GoSem.ClaimJoined
import GoSem.ClaimMapViews
import Derived.JoinedTies
import Derived.KernelRfl
namespace Go.Proofs.YtmlnmllnlekcgaaDoor
/- THE CELL 'sum', in the pinned program and in every row, IS THE sha256 OF THE DUMP (.gsa) THAT YtmlnmllnlekcgaaDoorProg.lean LOADS. Nothing in Lean hashes anything: it is a label: what it is worth is what the hold of that sum in a sandbox is worth. -/
noncomputable def Tryd.pinned : Pinned := { name := "ytmlnmllnlekcgaadoor", sum := "6b8390293b6d972af92b0a8778408c5f6499952ffaccca578866fc3a7bdf089a", checked := Tryd.checked }
namespace Rows
def none {H : Type} : Left H := { results := [], args := [] }

/- WHAT THE LISTED PACKAGE-LEVEL VARIABLES READ AS WHEN THE CALL BEGINS. Each datum BY PROGRAM (the guide's laid-datum.mjs) off the statement by which the dump's own 'gosem.cut.vars' lays the variable. In a bare row this is a premise. The card (YtmlnmllnlekcgaaDoorCards.lean) ties it to the program's text. -/
def laid_loop_example_pub_g03022_pub_hpack_errNeedMore {H : Type} : DataW H := .iface "*errors.errorString" (.ptr (.agg [.lit (.string [110, 101, 101, 100, 32, 109, 111, 114, 101, 32, 100, 97, 116, 97])]))

/-- 'laws.FnDecodeTable': WHATEVER THE INPUT: true; the input reads as it did. -/
def fnDecodeTableSpec : ChangeSpec := { name := "fnDecodeTable", vars := ["loop.example/pub-g03022/spec.lengths", "loop.example/pub-g03022/pub/hpack.errNeedMore", "loop.example/pub-g03022/pub/hpack.ErrStringLength", "loop.example/pub-g03022/pub/hpack.ErrInvalidHuffman", "loop.example/pub-g03022/pub/hpack.huffmanCodes", "loop.example/pub-g03022/pub/hpack.huffmanCodeLen"], fn := fun _ => fun
  | [d1, d2, d3, g1, g2, g3, g4, g5, g6] => { results := [.lit (.bool true)], args := [d1, d2, d3], vars := [g1, g2, g3, g4, g5, g6] }
  | _ => none }
def fnDecodeTableRow : OpenClaim := { program := "ytmlnmllnlekcgaadoor", sum := "6b8390293b6d972af92b0a8778408c5f6499952ffaccca578866fc3a7bdf089a", func := "loop.example/pub-g03022/laws.FnDecodeTable", spec := "fnDecodeTable", unfollowed := true, recurses := true, named := ["loop.example/pub-g03022/spec.lengths", "loop.example/pub-g03022/pub/hpack.errNeedMore", "loop.example/pub-g03022/pub/hpack.ErrStringLength", "bytes.ErrTooLarge", "loop.example/pub-g03022/pub/hpack.ErrInvalidHuffman", "loop.example/pub-g03022/pub/hpack.huffmanCodes", "loop.example/pub-g03022/pub/hpack.huffmanCodeLen"], ifaces := true, plainKeys := false, apart := false, laid := [("loop.example/pub-g03022/pub/hpack.errNeedMore", laid_loop_example_pub_g03022_pub_hpack_errNeedMore)] }
def FnDecodeTableSaid : Prop := fnDecodeTableRow.holds Tryd.pinned (OpenSpec.ofChange fnDecodeTableSpec)

/-- ITS FALSE NEIGHBOUR: 'it returns false'. Refute it at one input. -/
def fnDecodeTableWrong : ChangeSpec := { name := "fnDecodeTable", vars := ["loop.example/pub-g03022/spec.lengths", "loop.example/pub-g03022/pub/hpack.errNeedMore", "loop.example/pub-g03022/pub/hpack.ErrStringLength", "loop.example/pub-g03022/pub/hpack.ErrInvalidHuffman", "loop.example/pub-g03022/pub/hpack.huffmanCodes", "loop.example/pub-g03022/pub/hpack.huffmanCodeLen"], fn := fun _ => fun
  | [d1, d2, d3, g1, g2, g3, g4, g5, g6] => { results := [.lit (.bool false)], args := [d1, d2, d3], vars := [g1, g2, g3, g4, g5, g6] }
  | _ => none }
def FnDecodeTableWrongFalsely : Prop := fnDecodeTableRow.holds Tryd.pinned (OpenSpec.ofChange fnDecodeTableWrong)

/- THE SECOND FORM. 'bulk': how many values and letters a reading holds, each counted each time it is reached (what is shared counts as often as it is met; a slice's spare places count too). A statement '..UptoSaid' is the law's where the arguments, and the package variables that the reading takes, are together of bulk at most 1048576: NARROWER than '..Said'. Prove '..Said' where nothing that the law and all that it calls make is longer than what came in: it says more and counts as full. Else prove '..UptoSaid'. A law counts once. -/
mutual
def uptoBulk {H : Type} : DataW H → Nat
  | .lit (.string bytes) => bytes.length + 1
  | .lit _ => 1
  | .nil => 1
  | .ptr d => uptoBulk d + 1
  | .slice elems spare => uptoBulkAll elems + uptoBulkAll spare + 1
  | .agg parts => uptoBulkAll parts + 1
  | .iface _ d => uptoBulk d + 1
  | .map entries => uptoBulkEntries entries + 1
  | .held _ => 1
def uptoBulkAll {H : Type} : List (DataW H) → Nat
  | [] => 0
  | d :: r => uptoBulk d + uptoBulkAll r
def uptoBulkEntries {H : Type} : List (Lit × DataW H) → Nat
  | [] => 0
  | x :: r => uptoBulkEntry x + uptoBulkEntries r
def uptoBulkEntry {H : Type} : Lit × DataW H → Nat
  | (.string bytes, d) => bytes.length + uptoBulk d + 1
  | (_, d) => uptoBulk d + 1
 end
def uptoSmall : (H : Type) → List (DataW H) → Bool := fun _ ds => decide (uptoBulkAll ds ≤ 1048576)
def OpenSpec.upto (s : _root_.Go.ChangeSpec) : _root_.Go.OpenSpec := { _root_.Go.OpenSpec.ofChange s with cond := some uptoSmall }

/-- 'laws.FnDecodeTable', WHERE WHAT IT READS IS OF BULK AT MOST 1048576: true; the input reads as it did. -/
def fnDecodeTableUptoRow : OpenClaim := { program := "ytmlnmllnlekcgaadoor", sum := "6b8390293b6d972af92b0a8778408c5f6499952ffaccca578866fc3a7bdf089a", func := "loop.example/pub-g03022/laws.FnDecodeTable", spec := "fnDecodeTable", unfollowed := true, recurses := true, named := ["loop.example/pub-g03022/spec.lengths", "loop.example/pub-g03022/pub/hpack.errNeedMore", "loop.example/pub-g03022/pub/hpack.ErrStringLength", "bytes.ErrTooLarge", "loop.example/pub-g03022/pub/hpack.ErrInvalidHuffman", "loop.example/pub-g03022/pub/hpack.huffmanCodes", "loop.example/pub-g03022/pub/hpack.huffmanCodeLen"], ifaces := true, plainKeys := false, apart := false, laid := [("loop.example/pub-g03022/pub/hpack.errNeedMore", laid_loop_example_pub_g03022_pub_hpack_errNeedMore)], narrowed := true }
def FnDecodeTableUptoSaid : Prop := fnDecodeTableUptoRow.holds Tryd.pinned (OpenSpec.upto fnDecodeTableSpec)

end Rows
end Go.Proofs.YtmlnmllnlekcgaaDoor
