/-
  What a row that lists the error of Huffman codes gives: the variable holds a pointer. No condition.
-/
import Derived.Test.YtnemkaiaieomfaaDoorLaidTabs
namespace Go.Proofs.YtnemkaiaieomfaaDoor
open Go.ChangeShapes Go.WideShapes Go.ChangeAt Go.RowKit

theorem gInv : Tryd.prog.globalNamed "loop.example/pub-g03022/pub/hpack.ErrInvalidHuffman" = some 2 := by kernel_rfl
theorem gInvType : (Tryd.prog.globals[2]?).map (·.type) = some 38 := by kernel_rfl
theorem star : "*errors.errorString" = "*" ++ "errors.errorString" := by kernel_rfl
theorem rowErr (u : TypeId) (h : Tryd.prog.typeName? 3 u = some "*errors.errorString") : u = 85 :=
  typeName_ptr_named (nm := "errors.errorString") (by rw [← star]; kernel_rfl) (by kernel_rfl) (by decide) u (by rw [← star]; exact h)
theorem cellsErr : Tryd.prog.cellsOf 100 = 1 := by kernel_rfl
theorem cellsStr : Tryd.prog.cellsOf 9 = 1 := by kernel_rfl
end Go.Proofs.YtnemkaiaieomfaaDoor
