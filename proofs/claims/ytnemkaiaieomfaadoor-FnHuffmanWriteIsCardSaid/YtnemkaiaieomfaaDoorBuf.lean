/-
  bytes.Buffer's contracts, laid here by the shelf's command.
-/
import Derived.Shelf.Bytes.WriteByteKept
import Derived.Shelf.Bytes.String
import Derived.Shelf.Bytes.Bytes
import Derived.Test.YtnemkaiaieomfaaDoorTree
import Derived.BigCall
namespace Go.Proofs.YtnemkaiaieomfaaDoor
open Go.Shelf Go.RowKit
def lays179_ren : Go.Shelf.Ren := ⟨fun | 179 => 23 | 251 => 25 | 252 => 26 | 181 => 22 | 184 => 27 | 290 => 28 | 324 => 29 | n => n, fun | 130 => 53 | 5 => 5 | 75 => 38 | 0 => 0 | 93 => 57 | 91 => 55 | 3 => 3 | 131 => 80 | 4 => 4 | 37 => 23 | 20 => 20 | 80 => 59 | 9 => 9 | n => n, fun | 14 => 4 | n => n⟩
theorem lays179 : Go.Proofs.LaysM.n179 Tryd.prog lays179_ren := {
  mixed := by kernel_rfl
  f179 := Tryd.func23.trans (congrArg some (by kernel_rfl))
  f181 := Tryd.func22.trans (congrArg some (by kernel_rfl))
  f184 := Tryd.func27.trans (congrArg some (by kernel_rfl))
  f251 := Tryd.func25.trans (congrArg some (by kernel_rfl))
  f252 := Tryd.func26.trans (congrArg some (by kernel_rfl))
  f290 := Tryd.func28.trans (congrArg some (by kernel_rfl))
  f324 := Tryd.func29.trans (congrArg some (by kernel_rfl))
  t0 := Tryd.underlying0
  a0 := Tryd.isAgg0
  z0 := Tryd.sizeOf0
  v0 := Tryd.zeroValue0
  t3 := Tryd.underlying3
  a3 := Tryd.isAgg3
  z3 := Tryd.sizeOf3
  v3 := Tryd.zeroValue3
  t4 := Tryd.underlying4
  a4 := Tryd.isAgg4
  z4 := Tryd.sizeOf4
  v4 := Tryd.zeroValue4
  t5 := Tryd.underlying5
  a5 := Tryd.isAgg5
  z5 := Tryd.sizeOf5
  v5 := Tryd.zeroValue5
  t20 := Tryd.underlying20
  a20 := Tryd.isAgg20
  z20 := Tryd.sizeOf20
  v20 := Tryd.zeroValue20
  t37 := Tryd.underlying23
  a37 := Tryd.isAgg23
  z37 := Tryd.sizeOf23
  v37 := Tryd.zeroValue23
  t75 := Tryd.underlying38
  a75 := Tryd.isAgg38
  z75 := Tryd.sizeOf38
  v75 := Tryd.zeroValue38
  t91 := Tryd.underlying55
  a91 := Tryd.isAgg55
  z91 := Tryd.sizeOf55
  v91 := Tryd.zeroValue55
  t93 := Tryd.underlying57
  a93 := Tryd.isAgg57
  z93 := Tryd.sizeOf57
  v93 := Tryd.zeroValue57
  t130 := Tryd.underlying53
  a130 := Tryd.isAgg53
  z130 := Tryd.sizeOf53
  v130 := Tryd.zeroValue53
  t131 := Tryd.underlying80
  a131 := Tryd.isAgg80
  z131 := Tryd.sizeOf80
  v131 := Tryd.zeroValue80
  g14 := by kernel_rfl
  t9 := Tryd.underlying9
  a9 := Tryd.isAgg9
  z9 := Tryd.sizeOf9
  v9 := Tryd.zeroValue9
  t80 := Tryd.underlying59
  a80 := Tryd.isAgg59
  z80 := Tryd.sizeOf59
  v80 := Tryd.zeroValue59
  i0 := by kernel_rfl
  i3 := by kernel_rfl
  i4 := by kernel_rfl
  i5 := by kernel_rfl
  i9 := by kernel_rfl
  i20 := by kernel_rfl
  i37 := by kernel_rfl
  i75 := by kernel_rfl
  i80 := by kernel_rfl
  i91 := by kernel_rfl
  i93 := by kernel_rfl
  i130 := by kernel_rfl
  i131 := by kernel_rfl
  m14 := by kernel_rfl }
def lays182_ren : Go.Shelf.Ren := ⟨fun | 182 => 19 | n => n, fun | 130 => 53 | 9 => 9 | 4 => 4 | 0 => 0 | 93 => 57 | 37 => 23 | 3 => 3 | 91 => 55 | 5 => 5 | n => n, fun | n => n⟩
theorem lays182 : Go.Proofs.LaysM.n182 Tryd.prog lays182_ren := {
  mixed := by kernel_rfl
  f182 := Tryd.func19.trans (congrArg some (by kernel_rfl))
  t0 := Tryd.underlying0
  a0 := Tryd.isAgg0
  z0 := Tryd.sizeOf0
  v0 := Tryd.zeroValue0
  t3 := Tryd.underlying3
  a3 := Tryd.isAgg3
  z3 := Tryd.sizeOf3
  v3 := Tryd.zeroValue3
  t4 := Tryd.underlying4
  a4 := Tryd.isAgg4
  z4 := Tryd.sizeOf4
  v4 := Tryd.zeroValue4
  t9 := Tryd.underlying9
  a9 := Tryd.isAgg9
  z9 := Tryd.sizeOf9
  v9 := Tryd.zeroValue9
  t37 := Tryd.underlying23
  a37 := Tryd.isAgg23
  z37 := Tryd.sizeOf23
  v37 := Tryd.zeroValue23
  t93 := Tryd.underlying57
  a93 := Tryd.isAgg57
  z93 := Tryd.sizeOf57
  v93 := Tryd.zeroValue57
  t130 := Tryd.underlying53
  a130 := Tryd.isAgg53
  z130 := Tryd.sizeOf53
  v130 := Tryd.zeroValue53
  t5 := Tryd.underlying5
  a5 := Tryd.isAgg5
  z5 := Tryd.sizeOf5
  v5 := Tryd.zeroValue5
  t91 := Tryd.underlying55
  a91 := Tryd.isAgg55
  z91 := Tryd.sizeOf55
  v91 := Tryd.zeroValue55
  i0 := by kernel_rfl
  i3 := by kernel_rfl
  i4 := by kernel_rfl
  i5 := by kernel_rfl
  i9 := by kernel_rfl
  i37 := by kernel_rfl
  i91 := by kernel_rfl
  i93 := by kernel_rfl
  i130 := by kernel_rfl }
def lays183_ren : Go.Shelf.Ren := ⟨fun | 183 => 20 | n => n, fun | 130 => 53 | 37 => 23 | 0 => 0 | 93 => 57 | 3 => 3 | 5 => 5 | 91 => 55 | n => n, fun | n => n⟩
theorem lays183 : Go.Proofs.LaysM.n183 Tryd.prog lays183_ren := {
  mixed := by kernel_rfl
  f183 := Tryd.func20.trans (congrArg some (by kernel_rfl))
  t0 := Tryd.underlying0
  a0 := Tryd.isAgg0
  z0 := Tryd.sizeOf0
  v0 := Tryd.zeroValue0
  t3 := Tryd.underlying3
  a3 := Tryd.isAgg3
  z3 := Tryd.sizeOf3
  v3 := Tryd.zeroValue3
  t37 := Tryd.underlying23
  a37 := Tryd.isAgg23
  z37 := Tryd.sizeOf23
  v37 := Tryd.zeroValue23
  t93 := Tryd.underlying57
  a93 := Tryd.isAgg57
  z93 := Tryd.sizeOf57
  v93 := Tryd.zeroValue57
  t130 := Tryd.underlying53
  a130 := Tryd.isAgg53
  z130 := Tryd.sizeOf53
  v130 := Tryd.zeroValue53
  t5 := Tryd.underlying5
  a5 := Tryd.isAgg5
  z5 := Tryd.sizeOf5
  v5 := Tryd.zeroValue5
  t91 := Tryd.underlying55
  a91 := Tryd.isAgg55
  z91 := Tryd.sizeOf55
  v91 := Tryd.zeroValue55
  i0 := by kernel_rfl
  i3 := by kernel_rfl
  i5 := by kernel_rfl
  i37 := by kernel_rfl
  i91 := by kernel_rfl
  i93 := by kernel_rfl
  i130 := by kernel_rfl }

theorem Buffer_WriteByte (B b : Nat) (bs : List Value) (c : Int) (w : World) (h : Lib.IsBuffer 57 5 B b bs w) (hBw : B ≤ w.heap.size) (h1 : ∀ v ∈ bs, v.oneCell' = true) (hlim : bs.length + 1 ≤ 140737488355328) :
    Calls Tryd.prog 23 #[.pointer (some ⟨b, 0, none⟩), .int .u8 c] w fun e w' => e = .returned .nilIface ∧ Lib.IsBuffer 57 5 B b (bs ++ [.int .u8 c]) w' ∧ Below B w w' ∧ Lib.OthersKept 5 (some b) w w' := Any.Buffer_WriteByte_kept lays179 B b bs c w h hBw h1 hlim
theorem Buffer_String (B b : Nat) (l : List UInt8) (w : World) (h : Lib.IsBuffer 57 5 B b (Lib.byteCells l) w) :
    Calls Tryd.prog 19 #[.pointer (some ⟨b, 0, none⟩)] w fun e w' => e = .returned (.string ⟨l.toArray⟩) ∧ ∃ n, w' = w.drewN n := Any.Buffer_String lays182 B b l w h
end Go.Proofs.YtnemkaiaieomfaaDoor
