/-
  NARROWER THAN 'FOR EVERY INPUT', by the rows' own cells (each row's printed sentence says how): FnDecodeTable: ifaces, calm, laid.
  DERIVED. THE GIVEN ROWS OF THIS SEAT. 1 by the template 'for every input the law returns true; each argument reads behind the call as it read before'; 0 by the template 'total and deterministic' (their statements: YtmlnmllnlekcgaaDoorTotals.lean).
  GIVEN WITH THE SEED: the statements are not yours to turn. If you find one false, say at which input.
  Laid BY PROGRAM, IN A SANDBOX (cutbox-rows.mjs): the forced cells as the released guide's own fill.sh prints them over the translation 6b8390293b6d972a… (all of the seat's roots in one cut). By AI agents, Wed Nov 11 2026. No macro, syntax, notation, axiom, sorry.
-/
import Derived.Test.YtmlnmllnlekcgaaDoorChecked
import GoSem.Claim
import GoSem.ClaimJoined
import GoSem.ClaimMapViews
import Derived.JoinedTies
import Derived.KernelRfl
namespace Go.Proofs.YtmlnmllnlekcgaaDoor
/- THE CELL 'sum', in the pinned program and in every row, IS THE sha256 OF THE DUMP (.gsa) THAT YtmlnmllnlekcgaaDoorProg.lean LOADS. Nothing in Lean hashes anything: it is a label: what it is worth is what the hold of that sum in a sandbox is worth. -/
noncomputable def Tryd.pinned : Pinned := { name := "ytmlnmllnlekcgaadoor", sum := "6b8390293b6d972af92b0a8778408c5f6499952ffaccca578866fc3a7bdf089a", checked := Tryd.checked }
namespace Rows
def none {H : Type} : Left H := { results := [], args := [] }

/- WHAT THE LISTED PACKAGE-LEVEL VARIABLES READ AS WHEN THE CALL BEGINS. Each datum BY PROGRAM (the guide's laid-datum.mjs) off the statement by which the dump's own 'gosem.cut.vars' lays the variable. In a bare row this is a premise. The card (YtmlnmllnlekcgaaDoorCards.lean) ties it to the program's text. -/
def laid_loop_example_pub_g03022_pub_hpack_errNeedMore {H : Type} : DataW H := .iface "*errors.errorString" (.ptr (.agg [.lit (.string [110, 101, 101, 100, 32, 109, 111, 114, 101, 32, 100, 97, 116, 97])]))

/-- 'laws.FnDecodeTable': WHATEVER THE INPUT: true; the input reads as it did. -/
def fnDecodeTableSpec : ChangeSpec := { name := "fnDecodeTable", vars := ["loop.example/pub-g03022/spec.lengths", "loop.example/pub-g03022/pub/hpack.errNeedMore", "loop.example/pub-g03022/pub/hpack.ErrStringLength", "loop.example/pub-g03022/pub/hpack.ErrInvalidHuffman", "loop.example/pub-g03022/pub/hpack.huffmanCodes", "loop.example/pub-g03022/pub/hpack.huffmanCodeLen"], fn := fun _ => fun
  | [d1, d2, d3, g1, g2, g3, g4, g5, g6] => { results := [.lit (.bool true)], args := [d1, d2, d3], vars := [g1, g2, g3, g4, g5, g6] }
  | _ => none }
def fnDecodeTableRow : OpenClaim := { program := "ytmlnmllnlekcgaadoor", sum := "6b8390293b6d972af92b0a8778408c5f6499952ffaccca578866fc3a7bdf089a", func := "loop.example/pub-g03022/laws.FnDecodeTable", spec := "fnDecodeTable", unfollowed := true, recurses := true, named := ["loop.example/pub-g03022/spec.lengths", "loop.example/pub-g03022/pub/hpack.errNeedMore", "loop.example/pub-g03022/pub/hpack.ErrStringLength", "bytes.ErrTooLarge", "loop.example/pub-g03022/pub/hpack.ErrInvalidHuffman", "loop.example/pub-g03022/pub/hpack.huffmanCodes", "loop.example/pub-g03022/pub/hpack.huffmanCodeLen"], ifaces := true, plainKeys := false, apart := false, calm := true, outside := [.timePasses], laid := [("loop.example/pub-g03022/pub/hpack.errNeedMore", laid_loop_example_pub_g03022_pub_hpack_errNeedMore)] }
def FnDecodeTableSaid : Prop := fnDecodeTableRow.holds Tryd.pinned (OpenSpec.ofChange fnDecodeTableSpec)

/-- ITS FALSE NEIGHBOUR: 'it returns false'. Refute it at one input. -/
def fnDecodeTableWrong : ChangeSpec := { name := "fnDecodeTable", vars := ["loop.example/pub-g03022/spec.lengths", "loop.example/pub-g03022/pub/hpack.errNeedMore", "loop.example/pub-g03022/pub/hpack.ErrStringLength", "loop.example/pub-g03022/pub/hpack.ErrInvalidHuffman", "loop.example/pub-g03022/pub/hpack.huffmanCodes", "loop.example/pub-g03022/pub/hpack.huffmanCodeLen"], fn := fun _ => fun
  | [d1, d2, d3, g1, g2, g3, g4, g5, g6] => { results := [.lit (.bool false)], args := [d1, d2, d3], vars := [g1, g2, g3, g4, g5, g6] }
  | _ => none }
def FnDecodeTableWrongFalsely : Prop := fnDecodeTableRow.holds Tryd.pinned (OpenSpec.ofChange fnDecodeTableWrong)

end Rows
end Go.Proofs.YtmlnmllnlekcgaaDoor
