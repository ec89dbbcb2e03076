/-
  The contract of impl.HuffmanAppend at a nil destination: a new slice of the text's codes. Texts of at most 2^20 bytes.
-/
import Derived.Test.YtnemkaiaieomfaaDoorHuffApp
import Derived.Laws.AppendOwnNone
namespace Go.Proofs.YtnemkaiaieomfaaDoor
open Go.ChangeShapes Go.WideShapes Go.ChangeAt Go.RowKit

theorem ownsRow_form {w : World} {B e size n : Nat} {v : Value} {xs : List Value} (h : w.ownsRow B e size v n xs) : ∃ a cap, v = .slice a n cap := by
  rcases h.2 with ⟨rfl, rfl⟩ | ⟨g, cap, cur, rfl, _⟩
  · exact ⟨none, 0, rfl⟩
  · exact ⟨_, cap, rfl⟩

theorem LenTab.lt {w : World} (h : LenTab w) : 0 < w.heap.size := World.block_lt_of_cell? w ⟨0, 0, none⟩ (h 0 (by decide))
theorem CodeTab.lt {w : World} (h : CodeTab w) : 1 < w.heap.size := World.block_lt_of_cell? w ⟨1, 0, none⟩ (h 0 (by decide))
theorem LenTab.below {w w' : World} {B : Nat} (h : LenTab w) (hb : Below B w w') (hB : 0 < B) : LenTab w' := fun i hi => (hb.cell (p := ⟨0, i, none⟩) hB).trans (h i hi)
theorem CodeTab.below {w w' : World} {B : Nat} (h : CodeTab w) (hb : Below B w w') (hB : 1 < B) : CodeTab w' := fun i hi => (hb.cell (p := ⟨1, i, none⟩) hB).trans (h i hi)

/-- A slice of bytes that the call has made. -/
def NewBytes (B : Nat) (w : World) (a : Option Addr) (cap : Nat) (l : List UInt8) : Prop := w.ownsRow B 5 1 (.slice a l.length cap) l.length (Lib.byteCells l)

set_option maxHeartbeats 400000 in
theorem appNil_any (s : ByteArray) (w : World) (hs : s.size ≤ 4194304) (ht : LenTab w) (hc : CodeTab w) :
    Calls Tryd.prog 8 #[.slice none 0 0, .string s] w fun e w' => ∃ a cap, e = .returned (.slice a (HP.henc s.data.toList).length cap) ∧ NewBytes w.heap.size w' a cap (HP.henc s.data.toList) ∧ Below w.heap.size w w' := by
  have Ht := Lib.hid ht
  have Hc := Lib.hid hc
  clear ht hc
  go_enter Tryd.func8, Tryd.ntmps8
  go_wp2_with fail
  refine (app_any w.heap.size 0 _ [] s w (World.ownsRow_nil w _ _ _) (Nat.le_refl _) ⟨Ht.out.lt, Hc.out.lt⟩ hs (by decide) Ht.out Hc.out).mono ?_
  rintro e w1 ⟨v1, rfl, hown, hgrew⟩
  rw [Nat.zero_add, List.nil_append] at hown
  have hb := hgrew.below (World.ownsRow_nil w w.heap.size 5 1) (Nat.le_refl _)
  obtain ⟨a, cap, hv⟩ := ownsRow_form hown
  rw [hv] at hown ⊢
  clear hv hgrew
  have H := Lib.hid hown
  clear hown
  go_wp2
  go_ret
  exact ⟨a, cap, rfl, H.out, hb⟩
end Go.Proofs.YtnemkaiaieomfaaDoor
