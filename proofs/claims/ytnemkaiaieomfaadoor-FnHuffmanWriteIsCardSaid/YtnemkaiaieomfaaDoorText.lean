/-
  Contracts of HuffmanDecodeToString, codeOf and HuffmanText.
-/
import Derived.Test.YtnemkaiaieomfaaDoorDecode
import Derived.LaidEql
namespace Go.Proofs.YtnemkaiaieomfaaDoor
open Go.ChangeShapes Go.WideShapes Go.ChangeAt Go.RowKit

/-- How a decoder's text is told, with an error. -/
def TextEnds (ev : Value) : Option (List UInt8) → Ending → Prop
  | some t, e => e = .returned (.tuple #[.string ⟨t.toArray⟩, .nilIface])
  | none, e => e = .returned (.tuple #[.string ByteArray.empty, ev])

set_option maxRecDepth 100000 in
theorem toString_any (cap : Nat) (sa : Option Addr) (v : List UInt8) (tn : TypeId) (pv : Value) (w : World) (hv : v.length ≤ 134217728) (hsrc : Src w.heap.size sa v w) (hl : LenTab w) (hc : CodeTab w)
    (he : w.cell? ⟨2, 0, none⟩ = some (.iface tn pv)) :
    Calls Tryd.prog 15 #[.slice sa v.length cap] w fun e w' => TextEnds (.iface tn pv) (HP.hdec v) e ∧ Below w.heap.size w w' := by
  have hG : 2 < w.heap.size := World.block_lt_of_cell? w ⟨2, 0, none⟩ he
  have Hl := Lib.hid hl
  have Hc := Lib.hid hc
  have Hsrc := Lib.hid hsrc
  have He := Lib.hid he
  clear hl hc hsrc he
  have hb0 : Below w.heap.size w (w.alloc (.cells #[.slice none 0 0, .int .i64 0, .int .i8 0] 57)) := (Below.refl _ _).alloc (Nat.le_refl _) _
  have hbuf : IsBuf w.heap.size w.heap.size [] (w.alloc (.cells #[.slice none 0 0, .int .i64 0, .int .i8 0] 57)) := Lib.fresh_isBuffer _ _ w
  have Hb0 := Lib.hid hb0
  have Hbuf := Lib.hid hbuf
  clear hb0 hbuf
  go_enter Tryd.func15, Tryd.ntmps15
  go_wp2_with fail
  refine (decode_any w.heap.size w.heap.size cap sa v (.iface tn pv) _ hv Hbuf.out (by simp) (Hsrc.out.below Hb0.out) (Hl.out.below Hb0.out (LenTab.lt Hl.out)) (Hc.out.below Hb0.out (CodeTab.lt Hc.out)) ((Hb0.out.cell (p := ⟨2, 0, none⟩) hG).trans He.out) hG).mono ?_
  rintro e w1 ⟨hend, hb1⟩
  have Hb1 := Lib.hid (Hb0.out.trans hb1)
  clear hb1
  cases hd : HP.hdec v with
  | none =>
    rw [hd] at hend
    obtain rfl : e = .returned (.iface tn pv) := hend
    go_wp2_with fail
    go_ret2
    exact ⟨by rw [hd]; rfl, Hb1.out⟩
  | some t =>
    rw [hd] at hend
    obtain ⟨rfl, hbuf⟩ : e = .returned .nilIface ∧ IsBuf w.heap.size w.heap.size t w1 := hend
    have Hbuf := Lib.hid hbuf
    clear hbuf
    go_wp2_with fail
    refine (Buffer_String w.heap.size w.heap.size t _ Hbuf.out).mono ?_
    rintro e w2 ⟨rfl, n, rfl⟩
    go_wp2_with fail
    go_ret2
    exact ⟨by rw [hd]; rfl, Hb1.out.trans ⟨rfl, rfl, rfl, Nat.le_refl _, fun _ _ => rfl⟩⟩

theorem codeOf_nil (w : World) : Calls Tryd.prog 16 #[.nilIface] w fun e w' => e = .returned (.tuple #[.int .i64 0, .int .i64 0]) ∧ w = w' := by
  go_enter Tryd.func16, Tryd.ntmps16
  go_wp2
  go_ret2
  exact ⟨rfl, rfl⟩

theorem assert61 (p : Value) (w : World) : (Instr.typeAssert (.iface 85 p) 38 61 true).run Tryd.prog w = .ok (.tuple #[.agg #[.nilIface], .bool false]) w := by
  simp [Instr.typeAssert, run_underlying Tryd.underlying61, Tryd.zeroValue61]
theorem assert63 (p : Value) (w : World) : (Instr.typeAssert (.iface 85 p) 38 63 true).run Tryd.prog w = .ok (.tuple #[.int .i64 0, .bool false]) w := by
  simp [Instr.typeAssert, run_underlying Tryd.underlying63, Tryd.zeroValue63]

theorem info85 : (Tryd.prog.info? 85).map (·.comparable) = some true := by kernel_rfl
theorem eql_same (a : Addr) (w : World) : (binOp .eql 38 (.iface 85 (.pointer (some a))) (.iface 85 (.pointer (some a)))).run Tryd.prog w = .ok (.bool true) w := by
  obtain ⟨i, hi, hc⟩ : ∃ i, Tryd.prog.info? 85 = some i ∧ i.comparable = true := by
    have h := info85
    cases hi : Tryd.prog.info? 85 with
    | none => rw [hi] at h; cases h
    | some i => rw [hi] at h; exact ⟨i, rfl, by simpa using h⟩
  obtain ⟨j, hj⟩ : ∃ j, Tryd.prog.info? 100 = some j := Option.isSome_iff_exists.1 (by kernel_rfl)
  exact run_eql_iface_ptr_same w a Tryd.underlying38 Tryd.underlying85 hi hc hj

set_option maxRecDepth 100000 in
theorem codeOf_inv (a : Addr) (w : World) (he : w.cell? ⟨2, 0, none⟩ = some (.iface 85 (.pointer (some a)))) :
    Calls Tryd.prog 16 #[.iface 85 (.pointer (some a))] w fun e w' => e = .returned (.tuple #[.int .i64 2, .int .i64 0]) ∧ Below w.heap.size w w' := by
  have hG : 2 < w.heap.size := World.block_lt_of_cell? w ⟨2, 0, none⟩ he
  go_enter Tryd.func16, Tryd.ntmps16
  have h61 := assert61 (.pointer (some a))
  have h63 := assert63 (.pointer (some a))
  have heq := eql_same a
  go_wp2_with fail
  go_ret2
  exact ⟨rfl, (Below.refl _ _).alloc (Nat.le_refl _) _⟩
end Go.Proofs.YtnemkaiaieomfaaDoor
