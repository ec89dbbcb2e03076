/-
  The contract of impl.HuffmanText.
-/
import Derived.Test.YtnemkaiaieomfaaDoorText
import Derived.Test.YtnemkaiaieomfaaDoorAppNil
namespace Go.Proofs.YtnemkaiaieomfaaDoor
open Go.ChangeShapes Go.WideShapes Go.ChangeAt Go.RowKit

/-- The bytes of any slice. -/
def SrcAny (sa : Option Addr) (cap : Nat) (v : List UInt8) (w : World) : Prop := (sa = none ∧ cap = 0 ∧ v = []) ∨ ∃ a, sa = some a ∧ ∀ q u, (Lib.byteCells v)[q]? = some u → w.cell? (a.add q) = some u

theorem src_of_own {w : World} {B cap : Nat} {sa : Option Addr} {v : List UInt8} (h : w.ownsRow B 5 1 (.slice sa v.length cap) v.length (Lib.byteCells v)) : Src w.heap.size sa v w := by
  intro hv
  rcases h.2 with ⟨_, hn⟩ | ⟨g, cap', cur, e, _, hg, _, _, hcs, htk⟩
  · exact absurd (List.eq_nil_of_length_eq_zero hn) hv
  · injection e with e1 _ _
    refine ⟨g, e1, Lib.lt_of_heap hg, fun i hi => ?_⟩
    rw [Lib.cell_of_heap hg, ← Array.getElem?_toList]
    have h1 : (cur.toList.take (v.length * 1))[i]? = (Lib.byteCells v)[i]? := by rw [htk]
    rw [List.getElem?_take, if_pos (by omega)] at h1
    rw [h1]
    simp [Lib.byteCells, hi]

/-- What HuffmanText tells. -/
def textOf : Option (List UInt8) → Value
  | some t => .tuple #[.string ⟨t.toArray⟩, .int .i64 0]
  | none => .tuple #[.string ByteArray.empty, .int .i64 2]

set_option maxRecDepth 100000 in
theorem text_own (cap : Nat) (sa : Option Addr) (v : List UInt8) (a : Addr) (w : World) (hv : v.length ≤ 134217728) (hsrc : Src w.heap.size sa v w) (hl : LenTab w) (hc : CodeTab w)
    (he : w.cell? ⟨2, 0, none⟩ = some (.iface 85 (.pointer (some a)))) {Q : Ending → World → Prop}
    (hsome : ∀ t w', HP.hdec v = some t → Below w.heap.size w w' → Q (.returned (.tuple #[.string ⟨t.toArray⟩, .nilIface])) w')
    (hnone : ∀ w', HP.hdec v = none → Below w.heap.size w w' → Q (.returned (.tuple #[.string ByteArray.empty, .iface 85 (.pointer (some a))])) w') :
    Calls Tryd.prog 15 #[.slice sa v.length cap] w Q := by
  refine (toString_any cap sa v _ _ w hv hsrc hl hc he).mono ?_
  rintro e w' ⟨h, hb⟩
  cases hd : HP.hdec v with
  | none => rw [hd] at h; obtain rfl := h; exact hnone w' hd hb
  | some t => rw [hd] at h; obtain rfl := h; exact hsome t w' hd hb

set_option maxRecDepth 100000 in
theorem text_any (cap : Nat) (sa : Option Addr) (v : List UInt8) (a : Addr) (w : World) (hv : v.length ≤ 134217728) (hsrc : SrcAny sa cap v w) (hl : LenTab w) (hc : CodeTab w)
    (he : w.cell? ⟨2, 0, none⟩ = some (.iface 85 (.pointer (some a)))) :
    Calls Tryd.prog 10 #[.slice sa v.length cap] w fun e w' => e = .returned (textOf (HP.hdec v)) ∧ Below w.heap.size w w' := by
  have hG : 2 < w.heap.size := World.block_lt_of_cell? w ⟨2, 0, none⟩ he
  have Hl := Lib.hid hl
  have Hc := Lib.hid hc
  have He := Lib.hid he
  clear hl hc he
  have key : ∀ (w1 : World) (sb : Option Addr) (cb : Nat), w1.ownsRow w.heap.size 5 1 (.slice sb v.length cb) v.length (Lib.byteCells v) → Below w.heap.size w w1 → ∀ Q : Ending → World → Prop,
      (∀ t w', HP.hdec v = some t → Below w.heap.size w w' → Q (.returned (.tuple #[.string ⟨t.toArray⟩, .nilIface])) w') →
      (∀ w', HP.hdec v = none → Below w.heap.size w w' → w'.cell? ⟨2, 0, none⟩ = some (.iface 85 (.pointer (some a))) → Q (.returned (.tuple #[.string ByteArray.empty, .iface 85 (.pointer (some a))])) w') →
      Calls Tryd.prog 15 #[.slice sb v.length cb] w1 Q := by
    intro w1 sb cb hown hb Q h1 h2
    have he1 := (hb.cell (p := ⟨2, 0, none⟩) hG).trans He.out
    refine text_own cb sb v a w1 hv (src_of_own hown) (Hl.out.below hb (LenTab.lt Hl.out)) (Hc.out.below hb (CodeTab.lt Hc.out)) he1 ?_ ?_
    · intro t w' hd hb'; exact h1 t w' hd (hb.trans (hb'.mono hb.size))
    · intro w' hd hb'
      have hbb := hb.trans (hb'.mono hb.size)
      exact h2 w' hd hbb ((hbb.cell (p := ⟨2, 0, none⟩) hG).trans He.out)
  rcases hsrc with ⟨rfl, rfl, rfl⟩ | ⟨ad, rfl, hcells⟩
  · go_enter Tryd.func10, Tryd.ntmps10
    go_wp2_with fail
    refine key w none 0 (World.ownsRow_nil _ _ _ _) (Below.refl _ _) _ ?_ ?_
    · intro t w' hd hb'
      go_wp2_with fail
      refine (codeOf_nil _).mono ?_
      rintro e w2 ⟨rfl, rfl⟩
      go_wp2_with fail
      go_ret2
      exact ⟨by rw [hd]; rfl, hb'⟩
    · intro w' hd hb' he'
      go_wp2_with fail
      refine (codeOf_inv a _ he').mono ?_
      rintro e w2 ⟨rfl, hb2⟩
      go_wp2_with fail
      go_ret2
      exact ⟨by rw [hd]; rfl, hb'.trans (hb2.mono hb'.size)⟩
  · obtain ⟨i0, hi, hz0, hz1, hz2⟩ := info_parts infoU8
    have Hcells := Lib.hid hcells
    clear hcells
    go_enter Tryd.func10, Tryd.ntmps10
    go_wp2_with (at_builtin; go_must (refine wpList_append_own_at _ rfl _ _ 23 rfl w.heap.size 5 i0 (.int .u8 0) 1 1 Tryd.underlying23 hi hz0 hz1 hz2 rfl (by decide) (.slice none 0 0) 0 [] rfl (World.ownsRow_nil w _ _ _) ad v.length cap (Lib.byteCells v) rfl (by rw [byteCells_len, Nat.mul_one]) Hcells.out (Lib.byteCells_one _) (by unfold maxLen; omega) (by omega) (Nat.le_refl _) ?_); intro v1 w1 hown1 hgrow1 _ _)
    rw [Nat.zero_add, List.nil_append] at hown1
    have hb1 : Below w.heap.size w w1 := (Below.refl _ _).grown hgrow1 (Nat.le_refl _) (fun k hk => by cases hk)
    obtain ⟨sb, cb, rfl⟩ := ownsRow_form hown1
    refine key w1 sb cb hown1 hb1 _ ?_ ?_
    · intro t w' hd hb'
      go_wp2_with fail
      refine (codeOf_nil _).mono ?_
      rintro e w2 ⟨rfl, rfl⟩
      go_wp2_with fail
      go_ret2
      exact ⟨by rw [hd]; rfl, hb'⟩
    · intro w' hd hb' he'
      go_wp2_with fail
      refine (codeOf_inv a _ he').mono ?_
      rintro e w2 ⟨rfl, hb2⟩
      go_wp2_with fail
      go_ret2
      exact ⟨by rw [hd]; rfl, hb'.trans (hb2.mono hb'.size)⟩
end Go.Proofs.YtnemkaiaieomfaaDoor
