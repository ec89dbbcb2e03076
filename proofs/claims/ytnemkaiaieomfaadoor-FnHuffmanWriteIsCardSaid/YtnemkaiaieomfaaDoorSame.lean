/-
  The contract of laws.same: two slices of bytes hold the same bytes. No condition.
-/
import Derived.Test.YtnemkaiaieomfaaDoorOpenBytes
import Derived.Laws.BytesArg
namespace Go.Proofs.YtnemkaiaieomfaaDoor
open Go.ChangeShapes Go.WideShapes Go.ChangeAt Go.RowKit

theorem foldl_push_cells (v : List UInt8) : (v.map fun b => (b.toNat : Int)).foldl (fun r n => r.push (UInt8.ofNat n.toNat)) ByteArray.empty = ⟨v.toArray⟩ := by
  rw [foldl_push_bytes]
  have e : ((fun n : Int => UInt8.ofNat n.toNat) ∘ fun b : UInt8 => (b.toNat : Int)) = id := by funext b; simp
  simp [ByteArray.empty, ByteArray.emptyWithCapacity, e]
  rfl

/-- A slice of bytes is turned into a string. -/
theorem conv_bytes {w : World} {sa : Option Addr} {cap : Nat} {v : List UInt8} (h : SrcAny sa cap v w) : (convert 23 9 (.slice sa v.length cap)).run Tryd.prog w = .ok (.string ⟨v.toArray⟩) w := by
  rw [run_convert_bytes_string w _ _ _ _ _ _ Tryd.underlying23 Tryd.underlying5 Tryd.underlying9]
  rcases h with ⟨rfl, rfl, rfl⟩ | ⟨a, rfl, hc⟩
  · simp [Conv.bytesToString]; rfl
  · have hl : (loadCells a v.length).run Tryd.prog w = .ok ((v.map fun b => (b.toNat : Int)).map (Value.int .u8)).toArray w := by
      have := run_loadCells_list (P := Tryd.prog) w a (Lib.byteCells v) hc
      rw [byteCells_len] at this
      simpa [Lib.byteCells, Function.comp_def] using this
    rw [run_bytesToString w a v.length cap _ hl, foldl_push_cells]

theorem same_any (sa sb : Option Addr) (ca cb : Nat) (a b : List UInt8) (w : World) (h1 : SrcAny sa ca a w) (h2 : SrcAny sb cb b w) :
    Calls Tryd.prog 11 #[.slice sa a.length ca, .slice sb b.length cb] w fun e w' => e = .returned (.bool (decide (a = b))) ∧ w = w' := by
  have k1 := conv_bytes h1
  have k2 := conv_bytes h2
  clear h1 h2
  go_enter Tryd.func11, Tryd.ntmps11
  go_wp2
  go_ret
  exact ⟨ret_bool (by rw [Bool.eq_iff_iff]; simp), rfl⟩
end Go.Proofs.YtnemkaiaieomfaaDoor
