/-
  The contract of newInternalNode.
-/
import Derived.Test.YtnemkaiaieomfaaDoorHuffDec
import Derived.Test.YtnemkaiaieomfaaDoorHuffApp
namespace Go.Proofs.YtnemkaiaieomfaaDoor
open Go.ChangeShapes Go.WideShapes Go.ChangeAt Go.RowKit

theorem zero_of {P : Program} {t : TypeId} {z : Value} (h : (P.info? t).map (fun i => i.zero) = some (some z)) : ∀ w, (zeroValue t).run P w = .ok z w := by
  intro w
  cases hi : P.info? t with
  | none => rw [hi] at h; cases h
  | some i =>
    rw [hi] at h
    simp at h
    simp [zeroValue, typeInfo, hi, h]

/-- The places of a new row. -/
def kids : Array Value := Array.replicate 256 (.pointer none)
theorem kids_ne : kids ≠ #[] := by decide +kernel
theorem kids_size : kids.size = 256 := by decide +kernel
theorem kids_at {i : Nat} (h : i < 256) : kids[i]? = some (.pointer none) := by simp [kids, h]
theorem zero83 : ∀ w, (zeroValue 83).run Tryd.prog w = .ok (.agg kids) w := zero_of (by kernel_rfl)

/-- The world behind a new node. -/
def withNode (w : World) : World := (w.alloc (.cells kids 83)).alloc (.cells #[.pointer (some ⟨w.heap.size, 0, none⟩), .int .u8 0, .int .u8 0] 75)

theorem newNode_any (w : World) :
    Calls Tryd.prog 24 #[] w fun e w' => e = .returned (.pointer (some ⟨w.heap.size + 1, 0, none⟩)) ∧ w' = withNode w := by
  have hz := zero83
  have hne := kids_ne
  go_enter Tryd.func24, Tryd.ntmps24
  go_wp2
  go_ret
  exact ⟨by simp, rfl⟩
end Go.Proofs.YtnemkaiaieomfaaDoor
