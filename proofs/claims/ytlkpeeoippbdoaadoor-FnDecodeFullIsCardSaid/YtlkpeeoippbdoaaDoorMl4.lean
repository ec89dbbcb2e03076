/-
  Texts of this seat, one behind the other: OpenInts. What each one shows stands at its head. No condition.
-/
import Derived.Test.YtlkpeeoippbdoaaDoorMl3
/-
  What a slice of ints that came in gives: its numbers, in memory.
-/
namespace Go.Proofs.YtlkpeeoippbdoaaDoor
open Go.ChangeShapes Go.WideShapes Go.ChangeAt Go.RowKit

/-- The numbers of any slice. -/
def IntsAny (sa : Option Addr) (cap : Nat) (zs : List Int) (w : World) : Prop := (sa = none ∧ cap = 0 ∧ zs = []) ∨ ∃ a, sa = some a ∧ zs.length ≤ cap ∧ ∀ q z, zs[q]? = some z → w.cell? (a.add q) = some (.int .i64 z)
theorem IntsAny.mono {sa : Option Addr} {cap : Nat} {zs : List Int} {w w' : World} (h : IntsAny sa cap zs w) (hb : Below w.heap.size w w') : IntsAny sa cap zs w' :=
  h.imp id fun ⟨a, e, hl, hc⟩ => ⟨a, e, hl, fun q u hu => (hb.cell (World.block_lt_of_cell? _ _ (hc q u hu))).trans (hc q u hu)⟩
theorem cellsInt : Tryd.prog.cellsOf 3 = 1 := by kernel_rfl
set_option maxRecDepth 100000 in
theorem open_intsI {H : Type} {enc : TypeId × Value → H} {W : World} {base : Nat} {v1 : Value} {d1 : DataW H} {p1 : List MemPlace} (hval : Value.okWide Tryd.prog W .any base 23 v1) (h1 : DataW.Trod enc Tryd.prog W 0 (fun _ => true) true 23 v1 d1 p1) :
    ∃ sa cap, ∃ zs : List Int, v1 = .slice sa zs.length cap ∧ IntsAny sa cap zs W ∧ zs.length ≤ maxLen := by
  obtain ⟨a1, len, cap, rfl⟩ := okWide_slice Tryd.underlying23 hval
  obtain ⟨fuel, hf⟩ := h1
  rcases open_ints Tryd.underlying23 Tryd.underlying3 cellsInt hf with ⟨hcs, hx⟩ | ⟨a, len', cap', zs, hcs, _, hl, hm, hz, hx, hcell, hwz⟩
  · simp [Value.cells] at hcs
    obtain ⟨rfl, rfl, rfl⟩ := hcs
    exact ⟨none, 0, [], rfl, Or.inl ⟨rfl, rfl, rfl⟩, Nat.zero_le _⟩
  · simp [Value.cells] at hcs
    obtain ⟨rfl, rfl, rfl⟩ := hcs
    simp only [if_true] at hz
    have hlen : (zs.take len).length = len := by simp; omega
    refine ⟨_, cap, zs.take len, by rw [hlen], Or.inr ⟨a, rfl, by omega, fun q z hu => ?_⟩, by rw [hlen]; omega⟩
    have hq : q < len := by
      have := (List.getElem?_eq_some_iff.1 hu).1
      omega
    rw [hcell q (by omega)]
    rw [List.getElem?_take, if_pos hq] at hu
    simp [List.getD, hu]
set_option maxRecDepth 100000 in
theorem open_bytesC {H : Type} {enc : TypeId × Value → H} {W : World} {base : Nat} {v1 : Value} {d1 : DataW H} {p1 : List MemPlace} (hval : Value.okWide Tryd.prog W .any base 22 v1) (h1 : DataW.Trod enc Tryd.prog W 0 (fun _ => true) true 22 v1 d1 p1) :
    ∃ sa cap, ∃ v : List UInt8, v1 = .slice sa v.length cap ∧ SrcAny sa cap v W ∧ v.length ≤ maxLen ∧ v.length ≤ cap := by
  obtain ⟨a1, len, cap, rfl⟩ := okWide_slice Tryd.underlying22 hval
  obtain ⟨fuel, hf⟩ := h1
  rcases open_ints Tryd.underlying22 Tryd.underlying5 cellsByte hf with ⟨hcs, hx⟩ | ⟨a, len', cap', zs, hcs, _, hl, hm, hz, hx, hcell, hwz⟩
  · simp [Value.cells] at hcs
    obtain ⟨rfl, rfl, rfl⟩ := hcs
    exact ⟨none, 0, [], rfl, Or.inl ⟨rfl, rfl, rfl⟩, Nat.zero_le _, Nat.zero_le _⟩
  · simp [Value.cells] at hcs
    obtain ⟨rfl, rfl, rfl⟩ := hcs
    simp only [if_true] at hz
    have hlen : ((zs.take len).map fun n => UInt8.ofNat n.toNat).length = len := by simp; omega
    refine ⟨_, cap, (zs.take len).map fun n => UInt8.ofNat n.toNat, by rw [hlen], Or.inr ⟨a, rfl, fun q u hu => ?_⟩, by rw [hlen]; omega, by rw [hlen]; omega⟩
    have hq : q < len := by
      have := (List.getElem?_eq_some_iff.1 hu).1
      rwa [byteCells_len, hlen] at this
    have hb := range_u8 hwz q
    have e : zs.getD q 0 = zs[q]'(by omega) := by simp [List.getD, List.getElem?_eq_getElem (show q < zs.length by omega)]
    rw [hcell q (by omega)]
    simp only [Lib.byteCells, List.map_map, List.getElem?_map, List.getElem?_take, if_pos hq, List.getElem?_eq_getElem (show q < zs.length by omega), Option.map_some, Function.comp] at hu
    rw [← hu, e]
    rw [List.getElem?_eq_getElem (show q < zs.length by omega), Option.getD_some] at hb
    congr 2
    simp only [UInt8.toNat_ofNat']
    omega
end Go.Proofs.YtlkpeeoippbdoaaDoor
