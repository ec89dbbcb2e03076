/-
  bytes.Buffer's contracts, laid here by the shelf's command.
-/
import Derived.Shelf.Bytes.WriteByteKept
import Derived.Shelf.Bytes.String
import Derived.Shelf.Bytes.Bytes
import Derived.Shelf.Lay
import Derived.Ground.NamesProg
import Derived.Test.YtnemkaiaieomfaaDoorTree
import Derived.BigCall
namespace Go.Proofs.YtnemkaiaieomfaaDoor
open Go.Shelf Go.RowKit
shelf_lay LaysM.n179 Nm 179 at Tryd as lays179
shelf_lay LaysM.n182 Nm 182 at Tryd as lays182
shelf_lay LaysM.n183 Nm 183 at Tryd as lays183

theorem Buffer_WriteByte (B b : Nat) (bs : List Value) (c : Int) (w : World) (h : Lib.IsBuffer 57 5 B b bs w) (hBw : B ≤ w.heap.size) (h1 : ∀ v ∈ bs, v.oneCell' = true) (hlim : bs.length + 1 ≤ 140737488355328) :
    Calls Tryd.prog 23 #[.pointer (some ⟨b, 0, none⟩), .int .u8 c] w fun e w' => e = .returned .nilIface ∧ Lib.IsBuffer 57 5 B b (bs ++ [.int .u8 c]) w' ∧ Below B w w' ∧ Lib.OthersKept 5 (some b) w w' := Any.Buffer_WriteByte_kept lays179 B b bs c w h hBw h1 hlim
theorem Buffer_String (B b : Nat) (l : List UInt8) (w : World) (h : Lib.IsBuffer 57 5 B b (Lib.byteCells l) w) :
    Calls Tryd.prog 19 #[.pointer (some ⟨b, 0, none⟩)] w fun e w' => e = .returned (.string ⟨l.toArray⟩) ∧ ∃ n, w' = w.drewN n := Any.Buffer_String lays182 B b l w h
end Go.Proofs.YtnemkaiaieomfaaDoor
