/-
  Texts of this seat, one behind the other: SpecAt, SpecAt2. What each one shows stands at its head. No condition.
-/
import Derived.Test.YtlkpeeoippbdoaaDoorMl4
import Derived.Great.BuildSlice
/-
  The specification's static table, and its entry of an index.
-/
namespace Go.Proofs.YtlkpeeoippbdoaaDoor
open Go.ChangeShapes Go.WideShapes Go.ChangeAt Go.RowKit

def sFld (e : HD.Bs × HD.Bs) : HD.Fld := ⟨e.1, e.2, false⟩
def sCells : Array Value := (flds (HD.static.map sFld)).toArray
set_option maxHeartbeats 4000000 in
set_option maxRecDepth 100000 in
theorem specStatic_any (w : World) : Calls Tryd.prog 24 #[] w fun e w' => e = .returned (.slice (some ⟨w.heap.size, 0, none⟩) 61 61) ∧ w' = w.alloc (.cells sCells 42) := by
  obtain ⟨i0, hi, hz0, hz1, hzb⟩ := info_parts infoFld'
  go_enter Tryd.func24, Tryd.ntmps24
  go_wp2
  refine wp_buildSlice 29 42 61 _ rfl sCells i0 _ Tryd.underlying29 hi hz0 (by rw [hz1]; decide) (by rw [hz1]; decide) ?_ ?_
  · rw [hz1]
    kernel_rfl
  · go_wp2
    go_ret
    exact ⟨rfl, rfl⟩
end Go.Proofs.YtlkpeeoippbdoaaDoor
/-
  The specification's entry of an index, of an empty dynamic table.
-/
namespace Go.Proofs.YtlkpeeoippbdoaaDoor
open Go.ChangeShapes Go.WideShapes Go.ChangeAt Go.RowKit

def atSpec : Option (HD.Bs × HD.Bs) → Value
  | some e => .tuple #[.agg #[.string ⟨e.1.toArray⟩, .string ⟨e.2.toArray⟩, .bool false], .bool true]
  | none => .tuple #[.agg #[.string ByteArray.empty, .string ByteArray.empty, .bool false], .bool false]
theorem sCells_at (w : World) (k : Nat) (hk : k < 61) : ∃ e, HD.static[k]? = some e ∧ (w.alloc (.cells sCells 42)).cell? ⟨w.heap.size, k * 3, none⟩ = some (.string ⟨e.1.toArray⟩) ∧ (w.alloc (.cells sCells 42)).cell? ⟨w.heap.size, k * 3 + 1, none⟩ = some (.string ⟨e.2.toArray⟩) ∧ (w.alloc (.cells sCells 42)).cell? ⟨w.heap.size, k * 3 + 2, none⟩ = some (.bool false) := by
  have hk' : k < HD.static.length := by rw [HD.static_len]; exact hk
  obtain ⟨h0, h1, h2⟩ := flds_at (HD.static.map sFld) k (by rw [List.length_map]; exact hk')
  rw [List.getElem_map] at h0 h1 h2
  have key : ∀ j v, (flds (HD.static.map sFld))[j]? = some v → (w.alloc (.cells sCells 42)).cell? ⟨w.heap.size, j, none⟩ = some v := fun j v hv => by
    rw [Lib.cell_of_heap (heap_alloc_new w _), sCells, List.getElem?_toArray]; exact hv
  exact ⟨_, List.getElem?_eq_getElem hk', key _ _ h0, key _ _ h1, key _ _ h2⟩

set_option maxHeartbeats 1000000 in
set_option maxRecDepth 100000 in
theorem specAt_any (t n : Nat) (w : World) (h0 : w.cell? ⟨t, 0, none⟩ = some (.slice none 0 0)) (hn : n ≤ 2 ^ 31) :
    Calls Tryd.prog 14 #[.pointer (some ⟨t, 0, none⟩), .int .i64 (n : Nat)] w fun e w' => e = .returned (atSpec (HD.entAt [] n)) ∧ Below w.heap.size w w' := by
  have htl := World.block_lt_of_cell? w _ h0
  have htl : t < w.heap.size := htl
  have hr0 : Row (w.alloc (.cells hf0 42)) w.heap.size 3 (fun j => hf0.getD j undef) := Row.of_cells w hf0 42 (by decide) 3 rfl
  have hb1 : Below w.heap.size w (w.alloc (.cells hf0 42)) := (Below.refl _ _).alloc (Nat.le_refl _) _
  have hs1 : (w.alloc (.cells hf0 42)).heap.size = w.heap.size + 1 := by simp
  obtain ⟨W1, hW1⟩ : ∃ W1, W1 = w.alloc (.cells #[.string { data := #[] }, .string { data := #[] }, .bool false] 42) := ⟨_, rfl⟩
  have hW1' : w.alloc (.cells hf0 42) = W1 := hW1.symm
  rw [hW1'] at hr0 hb1 hs1
  have Hr0 := Lib.hid hr0
  have Hb1 := Lib.hid hb1
  clear hr0 hb1 hW1'
  have hfin : ∀ (e : Ending) (w2 : World), (e = .returned (.slice (some ⟨W1.heap.size, 0, none⟩) 61 61) ∧ w2 = W1.alloc (.cells sCells 42)) → Row w2 w.heap.size 3 (fun j => hf0.getD j undef) ∧ Below w.heap.size w w2 ∧ w2.cell? ⟨t, 0, none⟩ = some (.slice none 0 0) := fun e w2 h => by
    have hb2 : Below w.heap.size w w2 := by rw [h.2]; exact Hb1.out.alloc Hb1.out.size _
    refine ⟨by rw [h.2]; exact Hr0.out.alloc _, hb2, (hb2.cell (p := ⟨t, 0, none⟩) htl).trans h0⟩
  have hW1s := hW1.symm
  clear hW1
  rcases Nat.eq_zero_or_pos n with rfl | hpos
  · have he : HD.entAt [] 0 = none := rfl
    rw [he]
    go_enter Tryd.func14, Tryd.ntmps14
    go_wp2_with fail
    refine (specStatic_any _).mono ?_
    rintro e w2 h2
    obtain ⟨hr2, hb2, c2⟩ := hfin e w2 h2
    obtain ⟨rfl, -⟩ := h2
    have t0 := hr2.cell' (i := 0) (v := .string ByteArray.empty) (by decide) rfl
    have t1 := hr2.cell' (i := 1) (v := .string ByteArray.empty) (by decide) rfl
    have t2 := hr2.cell' (i := 2) (v := .bool false) (by decide) rfl
    have tf := fun j => hr2.unfrozen j none
    have Hb2 := Lib.hid hb2
    clear hb2 hr2
    go_wp2_with fail
    (try simp only [Exit.inBlock, Exit.then])
    refine bodyPost_ret (v := atSpec none) ?_ rfl ?_
    · simp only [results, Tryd.results14]
      go_simp
      rfl
    exact ⟨rfl, ((Hb2.out.setCell (by exact Nat.le_refl _) _).setCell (by exact Nat.le_refl _) _).setCell (by exact Nat.le_refl _) _⟩
  · have hn1 : decide ((n : Int) < 1) = false := by simp; omega
    rcases Nat.lt_or_ge 61 n with hgt | hle
    · have hen : HD.entAt [] n = none := by unfold HD.entAt; rw [if_neg (by omega), if_neg (by omega), if_neg (by simp; omega)]
      have d1 : decide ((61 : Int) < (n : Int)) = true := decide_eq_true (by omega)
      rw [hen]
      go_enter Tryd.func14, Tryd.ntmps14
      go_wp2_with fail
      refine (specStatic_any _).mono ?_
      rintro e w2 h2
      obtain ⟨hr2, hb2, c2⟩ := hfin e w2 h2
      obtain ⟨rfl, -⟩ := h2
      have t0 := hr2.cell' (i := 0) (v := .string ByteArray.empty) (by decide) rfl
      have t1 := hr2.cell' (i := 1) (v := .string ByteArray.empty) (by decide) rfl
      have t2 := hr2.cell' (i := 2) (v := .bool false) (by decide) rfl
      have tf := fun j => hr2.unfrozen j none
      have Hb2 := Lib.hid hb2
      clear hb2 hr2
      go_wp2_with fail
      (try simp only [Exit.inBlock, Exit.then])
      refine bodyPost_ret (v := atSpec none) ?_ rfl ?_
      · simp only [results, Tryd.results14]
        go_simp
        rfl
      exact ⟨rfl, ((Hb2.out.setCell (by exact Nat.le_refl _) _).setCell (by exact Nat.le_refl _) _).setCell (by exact Nat.le_refl _) _⟩
    · obtain ⟨k, rfl⟩ : ∃ k, n = k + 1 := ⟨n - 1, by omega⟩
      have hk : k < 61 := by omega
      obtain ⟨es, hes, q0, q1, q2⟩ := sCells_at W1 k hk
      have hen : HD.entAt [] (k + 1) = some es := by unfold HD.entAt; rw [if_neg (by omega), if_pos (by omega)]; simpa using hes
      have d1 : decide ((61 : Int) < ((k + 1 : Nat) : Int)) = false := decide_eq_false (by omega)
      have d2 : decide (((k + 1 : Nat) : Int) ≤ 61) = true := decide_eq_true (by omega)
      have hkI : (k : Int) < 61 := by omega
      rw [hen]
      have Hen := Lib.hid hen
      clear hes hen
      go_enter Tryd.func14, Tryd.ntmps14
      go_wp2_with fail
      refine (specStatic_any _).mono ?_
      rintro e w2 h2
      obtain ⟨hr2, hb2, c2⟩ := hfin e w2 h2
      obtain ⟨rfl, hw2⟩ := h2
      rw [← hw2, hs1] at q0 q1 q2
      have t0 := hr2.cell' (i := 0) (v := .string ByteArray.empty) (by decide) rfl
      have t1 := hr2.cell' (i := 1) (v := .string ByteArray.empty) (by decide) rfl
      have t2 := hr2.cell' (i := 2) (v := .bool false) (by decide) rfl
      have tf := fun j => hr2.unfrozen j none
      have hne : w.heap.size + 1 ≠ w.heap.size := by omega
      have Hb2 := Lib.hid hb2
      clear hb2 hr2 hw2
      go_wp2_with fail
      (try simp only [Exit.inBlock, Exit.then])
      refine bodyPost_ret (v := atSpec (some es)) ?_ rfl ?_
      · simp only [results, Tryd.results14]
        go_simp
        rfl
      exact ⟨rfl, ((Hb2.out.setCell (by exact Nat.le_refl _) _).setCell (by exact Nat.le_refl _) _).setCell (by exact Nat.le_refl _) _⟩
end Go.Proofs.YtlkpeeoippbdoaaDoor
