/-
  What a slice of bytes that came in gives: its bytes, in memory.
-/
import Derived.Test.YtnemkaiaieomfaaDoorHText
import Derived.Stood8
import Derived.Stood8Apart
import Derived.OpenShut
namespace Go.Proofs.YtnemkaiaieomfaaDoor
open Go.ChangeShapes Go.WideShapes Go.ChangeAt Go.RowKit

theorem cellsByte : Tryd.prog.cellsOf 5 = 1 := by kernel_rfl
theorem open_bytes {H : Type} {enc : TypeId × Value → H} {W : World} {base : Nat} {v1 : Value} {d1 : DataW H} {p1 : List MemPlace} (hval : Value.okWide Tryd.prog W .any base 23 v1) (h1 : DataW.Trod enc Tryd.prog W 0 (fun _ => true) true 23 v1 d1 p1) :
    ∃ sa cap, ∃ v : List UInt8, v1 = .slice sa v.length cap ∧ SrcAny sa cap v W ∧ v.length ≤ maxLen := by
  obtain ⟨a1, len, cap, rfl⟩ := okWide_slice Tryd.underlying23 hval
  obtain ⟨fuel, hf⟩ := h1
  rcases open_ints Tryd.underlying23 Tryd.underlying5 cellsByte hf with ⟨hcs, hx⟩ | ⟨a, len', cap', zs, hcs, _, hl, hm, hz, hx, hcell, hwz⟩
  · simp [Value.cells] at hcs
    obtain ⟨rfl, rfl, rfl⟩ := hcs
    exact ⟨none, 0, [], rfl, Or.inl ⟨rfl, rfl, rfl⟩, Nat.zero_le _⟩
  · simp [Value.cells] at hcs
    obtain ⟨rfl, rfl, rfl⟩ := hcs
    simp only [if_true] at hz
    have hlen : ((zs.take len).map fun n => UInt8.ofNat n.toNat).length = len := by simp; omega
    refine ⟨_, cap, (zs.take len).map fun n => UInt8.ofNat n.toNat, by rw [hlen], Or.inr ⟨a, rfl, fun q u hu => ?_⟩, by rw [hlen]; omega⟩
    have hq : q < len := by
      have := (List.getElem?_eq_some_iff.1 hu).1
      rwa [byteCells_len, hlen] at this
    have hb := range_u8 hwz q
    have e : zs.getD q 0 = zs[q]'(by omega) := by simp [List.getD, List.getElem?_eq_getElem (show q < zs.length by omega)]
    rw [hcell q (by omega)]
    simp only [Lib.byteCells, List.map_map, List.getElem?_map, List.getElem?_take, if_pos hq, List.getElem?_eq_getElem (show q < zs.length by omega), Option.map_some, Function.comp] at hu
    rw [← hu, e]
    rw [List.getElem?_eq_getElem (show q < zs.length by omega), Option.getD_some] at hb
    congr 2
    simp only [UInt8.toNat_ofNat']
    omega
end Go.Proofs.YtnemkaiaieomfaaDoor
