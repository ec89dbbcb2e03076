/-
  Texts of this seat, one behind the other: LaidTabs. What each one shows stands at its head. No condition.
-/
import Derived.Test.YtjdmaflkafmmpaaDoorMe7
import Derived.Test.YtjdmaflkafmmpaaDoorCards
import Derived.Test.YtjdmaflkafmmpaaDoorTie
import Derived.ProofKit
import Derived.OpenShut
import Derived.LaidMore
import Derived.LaidHandle
import Derived.Deep.DeepHandedRow
import Derived.Deep.DeepWitnessRowRef
import Derived.Lib.LaidTab
import Derived.Stop.LaidErr
import Derived.Deep.DeepLaidRun
/-
  What the rows' lists give: the two tables of the Huffman code, as their contracts want them. No condition.
-/
namespace Go.Proofs.YtjdmaflkafmmpaaDoor
open Go.ChangeShapes Go.WideShapes Go.ChangeAt Go.RowKit

/-- A table's datum as values; a variable's cells laid. -/
def tabVals : DataW Unit → Array Value
  | .agg l => (l.map fun | .lit (.int k n) => Value.int k n | _ => .nilIface).toArray
  | _ => #[]
def laidTab (cs : Array Value) : Obj → Obj
  | .cells _ t frozen => .cells cs t frozen
  | o => o

theorem gLen : Tryd.prog.globalNamed "loop.example/pub-g03022/pub/hpack.huffmanCodeLen" = some 5 := by kernel_rfl
theorem gLenType : (Tryd.prog.globals[5]?).map (·.type) = some 144 := by kernel_rfl
theorem gCode : Tryd.prog.globalNamed "loop.example/pub-g03022/pub/hpack.huffmanCodes" = some 6 := by kernel_rfl
theorem gCodeType : (Tryd.prog.globals[6]?).map (·.type) = some 145 := by kernel_rfl
theorem cellsLen : Tryd.prog.cellsOf 144 = 256 := by kernel_rfl
theorem cellsCode : Tryd.prog.cellsOf 145 = 256 := by kernel_rfl
theorem cellsU8 : Tryd.prog.cellsOf 5 = 1 := by kernel_rfl
theorem cellsU32 : Tryd.prog.cellsOf 56 = 1 := by kernel_rfl
def lenInts : List Int := HP.lensL.map Int.ofNat
def codeInts : List Int := HP.codesL.map Int.ofNat
theorem laidLen : (Rows.laid_loop_example_pub_g03022_pub_hpack_huffmanCodeLen : DataW Unit) = Lib.tabData .u8 lenInts := by kernel_rfl
theorem laidCode : (Rows.laid_loop_example_pub_g03022_pub_hpack_huffmanCodes : DataW Unit) = Lib.tabData .u32 codeInts := by kernel_rfl
theorem lenInts_at : ∀ i, i < 256 → lenInts.getD i 0 = (HP.hlen i : Nat) := by decide +kernel
theorem codeInts_at : ∀ i, i < 256 → codeInts.getD i 0 = (HP.hcode i : Nat) := by decide +kernel
theorem lenInts_len : lenInts.length = 256 := by decide +kernel
theorem codeInts_len : codeInts.length = 256 := by decide +kernel

theorem lenTab_of_head {W : World} {r : List (String × DataW Unit)} (h : laidMet Tryd.prog (("loop.example/pub-g03022/pub/hpack.huffmanCodeLen", Lib.tabData .u8 lenInts) :: r) W) : LenTab W := fun i hi => by
  have h1 := Lib.tabIs_of_head gLen gLenType Tryd.underlying144 Tryd.underlying5 cellsU8 cellsLen h
  rw [h1.cell gLen i (by rw [lenInts_len]; exact hi), lenInts_at i hi]
theorem codeTab_of_head {W : World} {r : List (String × DataW Unit)} (h : laidMet Tryd.prog (("loop.example/pub-g03022/pub/hpack.huffmanCodes", Lib.tabData .u32 codeInts) :: r) W) : CodeTab W := fun i hi => by
  have h1 := Lib.tabIs_of_head gCode gCodeType Tryd.underlying145 Tryd.underlying56 cellsU32 cellsCode h
  rw [h1.cell gCode i (by rw [codeInts_len]; exact hi), codeInts_at i hi]
end Go.Proofs.YtjdmaflkafmmpaaDoor
