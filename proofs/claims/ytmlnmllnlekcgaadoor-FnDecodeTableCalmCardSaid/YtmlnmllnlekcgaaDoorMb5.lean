/-
  Texts of this seat, one behind the other: ReadStr, DecStr, HD2, Dec, SaveBuf, Sets, MkMap, Init0, Init, Code, HStatic, HD3, Repr, Live. What each one shows stands at its head. No condition.
-/
import Derived.Test.YtmlnmllnlekcgaaDoorMb4
import Derived.RegionTactic
import Derived.StillTailTactics
import Derived.Deep.RegionWith
import Derived.Deep.RegionHeld3
import Derived.BigGuard
import Derived.Shelf.Bytes.WriteAt
/-
  Contracts of readString and decodeString, where no longest text was told.
-/
namespace Go.Proofs.YtmlnmllnlekcgaaDoor
open Go.ChangeShapes Go.WideShapes Go.ChangeAt Go.RowKit

theorem Buf.below {w w' : World} {g o cap : Nat} {v : List UInt8} (h : Buf w g o cap v) (hb : Below w.heap.size w w') : Buf w' g o cap v :=
  h.kept fun hv => by
    have h0 := h.cell 0 (List.length_pos_iff.2 hv)
    exact hb.block g (World.block_lt_of_cell? w _ h0)
theorem Buf.take {w : World} {g o cap : Nat} {v : List UInt8} (h : Buf w g o cap v) (n : Nat) (hn : n ≤ v.length) : Buf w g o cap (v.take n) :=
  ⟨by have := h.fit; simp; omega, h.most, fun i hi => by
    have hi' : i < v.length := by simp at hi; omega
    rw [h.cell i hi']; simp⟩
theorem Buf.drop {w : World} {g o cap : Nat} {v : List UInt8} (h : Buf w g o cap v) (n : Nat) (hn : n ≤ v.length) : Buf w g (o + n) (cap - n) (v.drop n) :=
  ⟨by have := h.fit; simp; omega, by have := h.most; omega, fun i hi => by
    have hi' : n + i < v.length := by simp at hi; omega
    rw [show o + n + i = o + (n + i) by omega, h.cell (n + i) hi']; simp⟩
theorem Buf.src {w : World} {g o cap : Nat} {v : List UInt8} (h : Buf w g o cap v) : SrcAny (some ⟨g, o, none⟩) cap v w := by
  refine Or.inr ⟨_, rfl, fun q u hu => ?_⟩
  have hq : q < v.length := by
    have := (List.getElem?_eq_some_iff.1 hu).1
    rwa [byteCells_len] at this
  rw [Lib.addr_add, h.cell q hq]
  simpa [Lib.byteCells, hq] using hu

/-- How readString ends. -/
def RSEnds (n : Nat) (En : Value) (g : Nat) : HD.RS → Ending → World → Prop
  | .ok huff b rest, e, w' => ∃ o1 c1 o2 c2, e = .returned (.tuple #[.agg #[.bool huff, .slice (some ⟨g, o1, none⟩) b.length c1], .slice (some ⟨g, o2, none⟩) rest.length c2, .nilIface]) ∧ Buf w' g o1 c1 b ∧ Buf w' g o2 c2 rest
  | .more, e, _ => ∃ s, e = .returned (.tuple #[.agg #[.bool false, .slice none 0 0], s, En])
  | .over, e, w' => ∃ s a, e = .returned (.tuple #[.agg #[.bool false, .slice none 0 0], s, codingErr a]) ∧ Fresh n w' a

set_option maxHeartbeats 4000000 in
set_option maxRecDepth 100000 in
theorem readString_any (d : Nat) (aN : Addr) (g o cap : Nat) (v : List UInt8) (w : World) (hb : Buf w g o cap v) (hd : w.cell? ⟨d, 10, none⟩ = some (.int .i64 0)) (he : w.cell? ⟨1, 0, none⟩ = some (.iface 111 (.pointer (some aN)))) :
    Calls Tryd.prog 63 #[.pointer (some ⟨d, 0, none⟩), .slice (some ⟨g, o, none⟩) v.length cap] w fun e w' => RSEnds w.heap.size (.iface 111 (.pointer (some aN))) g (HD.rstr v) e w' ∧ Below w.heap.size w w' := by
  have hfit := hb.fit
  have hmost := hb.most
  unfold maxLen at hmost
  have HB := Lib.hid hb
  have hG := World.block_lt_of_cell? w _ he
  have hD := World.block_lt_of_cell? w _ hd
  clear hb
  cases v with
  | nil =>
    go_enter Tryd.func63, Tryd.ntmps63
    go_wp2_with fail
    go_region
    all_goals
      go_wp2_with fail
      refine bodyPost_ret (v := .tuple #[.agg #[.bool false, .slice none 0 0], .slice (some ⟨g, o, none⟩) 0 cap, .iface 111 (.pointer (some aN))]) (by simp [results, Tryd.results63, go_sem]) rfl ?_
      exact ⟨⟨_, rfl⟩, ((Below.refl _ _).alloc (Nat.le_refl _) _).trans ⟨rfl, rfl, rfl, Nat.le_refl _, fun _ _ => rfl⟩⟩
  | cons b p =>
    have hc := HB.out.head
    have hgl := World.block_lt_of_cell? w _ hc
    have hbI : (b.toNat : Int) < 256 := by have := b.toNat_lt; omega
    obtain ⟨ha1, ha2⟩ := and_u8 b.toNat (by have := b.toNat_lt; omega)
    have Hfit := Lib.hid hfit
    clear hfit
    have hz1 : ∀ k : Nat, (1 : Nat) = 1 := fun _ => rfl
    clear hz1
    have hb1 : Below w.heap.size w (w.alloc (.cells #[.bool false, .slice none 0 0] 123)) := (Below.refl _ _).alloc (Nat.le_refl _) _
    have Hb1 := Lib.hid hb1
    clear hb1
    by_cases hb128 : b.toNat < 128
    · rw [if_pos hb128] at ha2
      go_enter Tryd.func63, Tryd.ntmps63
      go_wp2_with fail
      refine (varInt_any 7 (by decide) _ g o cap (b :: p) _ (HB.out.below Hb1.out) ((Hb1.out.cell (p := ⟨1, 0, none⟩) hG).trans he)).mono ?_
      rintro e w1 ⟨hv, hb2⟩
      rw [World.size_alloc] at hv hb2
      have hh1 := (hb2.block w.heap.size (Nat.lt_succ_self _)).trans (heap_alloc_new w _)
      have k0 := Lib.cell_of_heap hh1 0
      have k1 := Lib.cell_of_heap hh1 1
      rw [show ((#[Value.bool false, .slice none 0 0] : Array Value))[0]? = some (.bool false) from rfl] at k0
      rw [show ((#[Value.bool false, .slice none 0 0] : Array Value))[1]? = some (.slice none 0 0) from rfl] at k1
      have f0 := Lib.frozen_of_heap hh1
      have hb3 := Hb1.out.trans (hb2.mono (Nat.le_succ _))
      have kd := (hb3.cell (p := ⟨d, 10, none⟩) hD).trans hd
      have ke := (hb3.cell (p := ⟨1, 0, none⟩) hG).trans he
      have hz : w.heap.size < w1.heap.size := Nat.lt_of_lt_of_le (Nat.lt_succ_self _) (by have := hb2.size; rwa [World.size_alloc] at this)
      have Hb3 := Lib.hid hb3
      clear hb2 hb3 hh1
      cases hr : HD.rvi 7 (b :: p) with
      | more =>
        rw [hr] at hv
        obtain ⟨s, rfl⟩ := hv
        have Hr := Lib.hid hr
        clear hr
        go_wp2_with fail
        refine bodyPost_ret (v := .tuple #[.agg #[.bool false, .slice none 0 0], s, .iface 111 (.pointer (some aN))]) (by simp (maxDischargeDepth := 9) [results, Tryd.results63, go_sem, k0, k1]) rfl ?_
        have hR : HD.rstr (b :: p) = .more := by rw [HD.rstr, Hr.out]
        rw [hR]
        exact ⟨⟨_, rfl⟩, (Hb3.out.setCell (Nat.le_refl _) _).setCell (Nat.le_refl _) _⟩
      | over =>
        rw [hr] at hv
        obtain ⟨s, a, rfl, ha⟩ := hv
        have Hr := Lib.hid hr
        clear hr
        unfold codingErr
        go_wp2_with fail
        refine bodyPost_ret (v := .tuple #[.agg #[.bool false, .slice none 0 0], s, codingErr a]) (by simp [results, Tryd.results63, go_sem, k0, k1, codingErr]) rfl ?_
        have hR : HD.rstr (b :: p) = .over := by rw [HD.rstr, Hr.out]
        rw [hR]
        exact ⟨⟨_, _, rfl, ((ha.setBelow (Nat.lt_succ_self _) _).setBelow (Nat.lt_succ_self _) _).mono (Nat.le_succ _)⟩, (Hb3.out.setCell (Nat.le_refl _) _).setCell (Nat.le_refl _) _⟩
      | ok n rest =>
        rw [hr] at hv
        obtain ⟨o1, c1, rfl, hbuf⟩ := hv
        have hn64 := HD.rvi_lt (by decide) hr
        have hf1 := hbuf.fit
        have hm1 := hbuf.most
        unfold maxLen at hm1
        have HBr := Lib.hid hbuf
        have Hr := Lib.hid hr
        clear hr hbuf
        have hR : HD.rstr (b :: p) = if rest.length < n then .more else .ok (decide (128 ≤ b.toNat)) (rest.take n) (rest.drop n) := by rw [HD.rstr, Hr.out]
        have HR := Lib.hid hR
        clear hR
        by_cases hn : rest.length < n
        · rw [if_pos hn] at HR
          have hnI : (rest.length : Int) < (n : Int) := by omega
          go_wp2_with fail
          go_region
          all_goals
            go_wp2_with fail
            refine bodyPost_ret (v := .tuple #[.agg #[.bool false, .slice none 0 0], .slice (some ⟨g, o1, none⟩) rest.length c1, .iface 111 (.pointer (some aN))]) (by simp (maxDischargeDepth := 9) [results, Tryd.results63, go_sem, k0, k1]) rfl ?_
            rw [HR.out]
            refine ⟨⟨_, rfl⟩, ?_⟩
            (repeat (first | exact Hb3.out | refine below_drew ?_ | refine below_drewN ?_ | refine Below.setCell ?_ (by exact Nat.le_refl _) _))
        · rw [if_neg hn] at HR
          have hnI : ¬ (rest.length : Int) < (n : Int) := by omega
          by_cases hcn : c1 = n
          · subst hcn
            have e1 : rest.length = c1 := by omega
            go_wp2_with fail
            go_region
            all_goals
              go_wp2_with fail
              refine bodyPost_ret (v := .tuple #[.agg #[.bool false, .slice (some ⟨g, o1, none⟩) c1 c1], .slice (some ⟨g, o1, none⟩) 0 0, .nilIface]) (by simp (maxDischargeDepth := 9) [results, Tryd.results63, go_sem, k0, k1]) rfl ?_
              rw [HR.out]
              refine ⟨⟨o1, c1, o1, 0, by rw [List.length_take, List.length_drop, e1, Nat.min_self, Nat.sub_self, show decide (128 ≤ b.toNat) = false by simp; omega], ?_, ?_⟩, ?_⟩
              · refine (HBr.out.take c1 (by omega)).kept fun _ => Below.block (B := w.heap.size) ?_ g hgl
                (repeat (first | exact Below.refl _ _ | refine below_drew ?_ | refine below_drewN ?_ | refine Below.setCell ?_ (by exact Nat.le_refl _) _))
              · rw [← e1, List.drop_length]; exact Buf.nil (Nat.zero_le _)
              · (repeat (first | exact Hb3.out | refine below_drew ?_ | refine below_drewN ?_ | refine Below.setCell ?_ (by exact Nat.le_refl _) _))
          · go_wp2_with fail
            go_region
            all_goals
              go_wp2_with fail
              refine bodyPost_ret (v := .tuple #[.agg #[.bool false, .slice (some ⟨g, o1, none⟩) n c1], .slice (some ⟨g, o1 + n, none⟩) (rest.length - n) (c1 - n), .nilIface]) (by simp (maxDischargeDepth := 9) [results, Tryd.results63, go_sem, k0, k1]) rfl ?_
              rw [HR.out]
              refine ⟨⟨o1, c1, o1 + n, c1 - n, by rw [List.length_take, List.length_drop, Nat.min_eq_left (by omega), show decide (128 ≤ b.toNat) = false by simp; omega], ?_, ?_⟩, ?_⟩
              · refine (HBr.out.take n (by omega)).kept fun _ => Below.block (B := w.heap.size) ?_ g hgl
                (repeat (first | exact Below.refl _ _ | refine below_drew ?_ | refine below_drewN ?_ | refine Below.setCell ?_ (by exact Nat.le_refl _) _))
              · refine (HBr.out.drop n (by omega)).kept fun _ => Below.block (B := w.heap.size) ?_ g hgl
                (repeat (first | exact Below.refl _ _ | refine below_drew ?_ | refine below_drewN ?_ | refine Below.setCell ?_ (by exact Nat.le_refl _) _))
              · (repeat (first | exact Hb3.out | refine below_drew ?_ | refine below_drewN ?_ | refine Below.setCell ?_ (by exact Nat.le_refl _) _))
    · rw [if_neg hb128] at ha2
      go_enter Tryd.func63, Tryd.ntmps63
      go_wp2_with fail
      refine (varInt_any 7 (by decide) _ g o cap (b :: p) _ (HB.out.below Hb1.out) ((Hb1.out.cell (p := ⟨1, 0, none⟩) hG).trans he)).mono ?_
      rintro e w1 ⟨hv, hb2⟩
      rw [World.size_alloc] at hv hb2
      have hh1 := (hb2.block w.heap.size (Nat.lt_succ_self _)).trans (heap_alloc_new w _)
      have k0 := Lib.cell_of_heap hh1 0
      have k1 := Lib.cell_of_heap hh1 1
      rw [show ((#[Value.bool false, .slice none 0 0] : Array Value))[0]? = some (.bool false) from rfl] at k0
      rw [show ((#[Value.bool false, .slice none 0 0] : Array Value))[1]? = some (.slice none 0 0) from rfl] at k1
      have f0 := Lib.frozen_of_heap hh1
      have hb3 := Hb1.out.trans (hb2.mono (Nat.le_succ _))
      have kd := (hb3.cell (p := ⟨d, 10, none⟩) hD).trans hd
      have ke := (hb3.cell (p := ⟨1, 0, none⟩) hG).trans he
      have hz : w.heap.size < w1.heap.size := Nat.lt_of_lt_of_le (Nat.lt_succ_self _) (by have := hb2.size; rwa [World.size_alloc] at this)
      have Hb3 := Lib.hid hb3
      clear hb2 hb3 hh1
      cases hr : HD.rvi 7 (b :: p) with
      | more =>
        rw [hr] at hv
        obtain ⟨s, rfl⟩ := hv
        have Hr := Lib.hid hr
        clear hr
        go_wp2_with fail
        refine bodyPost_ret (v := .tuple #[.agg #[.bool false, .slice none 0 0], s, .iface 111 (.pointer (some aN))]) (by simp (maxDischargeDepth := 9) [results, Tryd.results63, go_sem, k0, k1]) rfl ?_
        have hR : HD.rstr (b :: p) = .more := by rw [HD.rstr, Hr.out]
        rw [hR]
        exact ⟨⟨_, rfl⟩, (Hb3.out.setCell (Nat.le_refl _) _).setCell (Nat.le_refl _) _⟩
      | over =>
        rw [hr] at hv
        obtain ⟨s, a, rfl, ha⟩ := hv
        have Hr := Lib.hid hr
        clear hr
        unfold codingErr
        go_wp2_with fail
        refine bodyPost_ret (v := .tuple #[.agg #[.bool false, .slice none 0 0], s, codingErr a]) (by simp [results, Tryd.results63, go_sem, k0, k1, codingErr]) rfl ?_
        have hR : HD.rstr (b :: p) = .over := by rw [HD.rstr, Hr.out]
        rw [hR]
        exact ⟨⟨_, _, rfl, ((ha.setBelow (Nat.lt_succ_self _) _).setBelow (Nat.lt_succ_self _) _).mono (Nat.le_succ _)⟩, (Hb3.out.setCell (Nat.le_refl _) _).setCell (Nat.le_refl _) _⟩
      | ok n rest =>
        rw [hr] at hv
        obtain ⟨o1, c1, rfl, hbuf⟩ := hv
        have hn64 := HD.rvi_lt (by decide) hr
        have hf1 := hbuf.fit
        have hm1 := hbuf.most
        unfold maxLen at hm1
        have HBr := Lib.hid hbuf
        have Hr := Lib.hid hr
        clear hr hbuf
        have hR : HD.rstr (b :: p) = if rest.length < n then .more else .ok (decide (128 ≤ b.toNat)) (rest.take n) (rest.drop n) := by rw [HD.rstr, Hr.out]
        have HR := Lib.hid hR
        clear hR
        by_cases hn : rest.length < n
        · rw [if_pos hn] at HR
          have hnI : (rest.length : Int) < (n : Int) := by omega
          go_wp2_with fail
          go_region
          all_goals
            go_wp2_with fail
            refine bodyPost_ret (v := .tuple #[.agg #[.bool false, .slice none 0 0], .slice (some ⟨g, o1, none⟩) rest.length c1, .iface 111 (.pointer (some aN))]) (by simp (maxDischargeDepth := 9) [results, Tryd.results63, go_sem, k0, k1]) rfl ?_
            rw [HR.out]
            refine ⟨⟨_, rfl⟩, ?_⟩
            (repeat (first | exact Hb3.out | refine below_drew ?_ | refine below_drewN ?_ | refine Below.setCell ?_ (by exact Nat.le_refl _) _))
        · rw [if_neg hn] at HR
          have hnI : ¬ (rest.length : Int) < (n : Int) := by omega
          by_cases hcn : c1 = n
          · subst hcn
            have e1 : rest.length = c1 := by omega
            go_wp2_with fail
            go_region
            all_goals
              go_wp2_with fail
              refine bodyPost_ret (v := .tuple #[.agg #[.bool true, .slice (some ⟨g, o1, none⟩) c1 c1], .slice (some ⟨g, o1, none⟩) 0 0, .nilIface]) (by simp (maxDischargeDepth := 9) [results, Tryd.results63, go_sem, k0, k1]) rfl ?_
              rw [HR.out]
              refine ⟨⟨o1, c1, o1, 0, by rw [List.length_take, List.length_drop, e1, Nat.min_self, Nat.sub_self, show decide (128 ≤ b.toNat) = true by simp; omega], ?_, ?_⟩, ?_⟩
              · refine (HBr.out.take c1 (by omega)).kept fun _ => Below.block (B := w.heap.size) ?_ g hgl
                (repeat (first | exact Below.refl _ _ | refine below_drew ?_ | refine below_drewN ?_ | refine Below.setCell ?_ (by exact Nat.le_refl _) _))
              · rw [← e1, List.drop_length]; exact Buf.nil (Nat.zero_le _)
              · (repeat (first | exact Hb3.out | refine below_drew ?_ | refine below_drewN ?_ | refine Below.setCell ?_ (by exact Nat.le_refl _) _))
          · go_wp2_with fail
            go_region
            all_goals
              go_wp2_with fail
              refine bodyPost_ret (v := .tuple #[.agg #[.bool true, .slice (some ⟨g, o1, none⟩) n c1], .slice (some ⟨g, o1 + n, none⟩) (rest.length - n) (c1 - n), .nilIface]) (by simp (maxDischargeDepth := 9) [results, Tryd.results63, go_sem, k0, k1]) rfl ?_
              rw [HR.out]
              refine ⟨⟨o1, c1, o1 + n, c1 - n, by rw [List.length_take, List.length_drop, Nat.min_eq_left (by omega), show decide (128 ≤ b.toNat) = true by simp; omega], ?_, ?_⟩, ?_⟩
              · refine (HBr.out.take n (by omega)).kept fun _ => Below.block (B := w.heap.size) ?_ g hgl
                (repeat (first | exact Below.refl _ _ | refine below_drew ?_ | refine below_drewN ?_ | refine Below.setCell ?_ (by exact Nat.le_refl _) _))
              · refine (HBr.out.drop n (by omega)).kept fun _ => Below.block (B := w.heap.size) ?_ g hgl
                (repeat (first | exact Below.refl _ _ | refine below_drew ?_ | refine below_drewN ?_ | refine Below.setCell ?_ (by exact Nat.le_refl _) _))
              · (repeat (first | exact Hb3.out | refine below_drew ?_ | refine below_drewN ?_ | refine Below.setCell ?_ (by exact Nat.le_refl _) _))

end Go.Proofs.YtmlnmllnlekcgaaDoor
/-
  The contract of decodeString, where no longest text was told.
-/
namespace Go.Proofs.YtmlnmllnlekcgaaDoor
open Go.ChangeShapes Go.WideShapes Go.ChangeAt Go.RowKit

/-- How decodeString ends. -/
def DSEnds (Ei : Value) : Option HD.Bs → Ending → Prop
  | some t, e => e = .returned (.tuple #[.string ⟨t.toArray⟩, .nilIface])
  | none, e => e = .returned (.tuple #[.string ByteArray.empty, Ei])

set_option maxHeartbeats 1000000 in
set_option maxRecDepth 100000 in
theorem decodeString_any (d : Nat) (aI : Addr) (huff : Bool) (g o cap : Nat) (v : List UInt8) (w : World) (hb : Buf w g o cap v) (hv : v.length ≤ 134217728) (hd : w.cell? ⟨d, 10, none⟩ = some (.int .i64 0)) (hl : huff = true → LenTab w) (hc : huff = true → CodeTab w) (he : huff = true → w.cell? ⟨3, 0, none⟩ = some (.iface 111 (.pointer (some aI)))) :
    Calls Tryd.prog 64 #[.pointer (some ⟨d, 0, none⟩), .agg #[.bool huff, .slice (some ⟨g, o, none⟩) v.length cap]] w fun e w' => DSEnds (.iface 111 (.pointer (some aI))) (HD.dstr huff v) e ∧ Below w.heap.size w w' := by
  have hD := World.block_lt_of_cell? w _ hd
  cases huff with
  | false =>
    have kc := conv_bytes (w := w.alloc (.cells #[.bool false, .slice (some ⟨g, o, none⟩) v.length cap] 123)) (hb.below ((Below.refl _ _).alloc (Nat.le_refl _) _)).src
    go_enter Tryd.func64, Tryd.ntmps64
    go_wp2_with fail
    go_ret2
    exact ⟨rfl, (Below.refl _ _).alloc (Nat.le_refl _) _⟩
  | true =>
    have hl := hl rfl
    have hc := hc rfl
    have he := he rfl
    have hG := World.block_lt_of_cell? w _ he
    have hb0 : Below w.heap.size w (w.alloc (.cells #[.bool true, .slice (some ⟨g, o, none⟩) v.length cap] 123)) := (Below.refl _ _).alloc (Nat.le_refl _) _
    have hbuf : IsBuf (w.heap.size + 1) (w.heap.size + 1) [] ((w.alloc (.cells #[.bool true, .slice (some ⟨g, o, none⟩) v.length cap] 123)).alloc (.cells #[.slice none 0 0, .int .i64 0, .int .i8 0] 75)) := by
      have := Lib.fresh_isBuffer 75 5 (w.alloc (.cells #[.bool true, .slice (some ⟨g, o, none⟩) v.length cap] 123))
      rw [World.size_alloc] at this
      exact this
    have hb1 := hb0.alloc (by simp) (.cells #[.slice none 0 0, .int .i64 0, .int .i8 0] 75)
    have Hl := Lib.hid hl
    have Hc := Lib.hid hc
    have HBv := Lib.hid hb
    have Hb1 := Lib.hid hb1
    have Hbuf := Lib.hid hbuf
    have He := Lib.hid he
    clear hl hc hb hb0 hb1 hbuf he
    have hsrc : Src (w.heap.size + 1) (some ⟨g, o, none⟩) v ((w.alloc (.cells #[.bool true, .slice (some ⟨g, o, none⟩) v.length cap] 123)).alloc (.cells #[.slice none 0 0, .int .i64 0, .int .i8 0] 75)) := fun hne => by
      have h0 := HBv.out.cell 0 (List.length_pos_iff.2 hne)
      have hlt := World.block_lt_of_cell? w _ h0
      exact ⟨g, o, rfl, Nat.lt_succ_of_lt hlt, fun i hi => (Hb1.out.cell (p := ⟨g, o + i, none⟩) hlt).trans (HBv.out.cell i hi)⟩
    have hdec := decode_any (w.heap.size + 1) (w.heap.size + 1) cap (some ⟨g, o, none⟩) v (.iface 111 (.pointer (some aI))) ((w.alloc (.cells #[.bool true, .slice (some ⟨g, o, none⟩) v.length cap] 123)).alloc (.cells #[.slice none 0 0, .int .i64 0, .int .i8 0] 75)).drew hv Hbuf.out (by show _ ≤ (_ : World).heap.size; simp) hsrc (Hl.out.below (below_drew Hb1.out) (LenTab.lt Hl.out)) (Hc.out.below (below_drew Hb1.out) (CodeTab.lt Hc.out)) (((below_drew Hb1.out).cell (p := ⟨3, 0, none⟩) hG).trans He.out) (Nat.lt_succ_of_lt hG)
    have Hdec := Lib.hid hdec
    clear hsrc hdec
    cases hd : HP.hdec v with
    | none =>
      go_enter Tryd.func64, Tryd.ntmps64
      go_wp2_with fail
      refine stillTail 7 (by kernel_rfl) (by kernel_rfl) ?_
      simp only [List.take_succ_cons, List.take_zero, List.drop_succ_cons, List.drop_zero]
      repeat (refine wpStill_step (fun K hK => ?_); go_simp; (refine hK _ ?_; clear hK K))
      refine wpStill_nil ?_
      go_wp2_with fail
      refine Hdec.out.mono ?_
      rintro e w2 ⟨hend, hb2⟩
      rw [hd] at hend
      obtain ⟨rfl, t, hbf⟩ : e = .returned (.iface 111 (.pointer (some aI))) ∧ ∃ t, IsBuf (w.heap.size + 1) (w.heap.size + 1) t w2 := hend
      have Hb2 := Lib.hid ((below_drew Hb1.out).trans (hb2.mono (Nat.le_succ _)))
      have Hbf := Lib.hid hbf
      have Hd := Lib.hid hd
      clear hb2 hbf hd
      go_wp2_with fail
      refine (Buffer_Reset (w.heap.size + 1) (w.heap.size + 1) (Lib.byteCells t) _ (by exact Hbf.out)).mono ?_
      rintro e w4 ⟨rfl, -, hb4⟩
      have Hb4 := Lib.hid (Hb2.out.trans (hb4.mono (Nat.le_succ _)))
      clear hb4
      go_wp2_with fail
      go_ret2
      exact ⟨by rw [show HD.dstr true v = HP.hdec v from rfl, Hd.out]; rfl, Hb4.out⟩
    | some t =>
      go_enter Tryd.func64, Tryd.ntmps64
      go_wp2_with fail
      refine stillTail 7 (by kernel_rfl) (by kernel_rfl) ?_
      simp only [List.take_succ_cons, List.take_zero, List.drop_succ_cons, List.drop_zero]
      repeat (refine wpStill_step (fun K hK => ?_); go_simp; (refine hK _ ?_; clear hK K))
      refine wpStill_nil ?_
      go_wp2_with fail
      refine Hdec.out.mono ?_
      rintro e w2 ⟨hend, hb2⟩
      rw [hd] at hend
      obtain ⟨rfl, hbf⟩ : e = .returned .nilIface ∧ IsBuf (w.heap.size + 1) (w.heap.size + 1) t w2 := hend
      have Hb2 := Lib.hid ((below_drew Hb1.out).trans (hb2.mono (Nat.le_succ _)))
      have Hbf := Lib.hid hbf
      have Hd := Lib.hid hd
      clear hb2 hbf hd
      go_wp2_with fail
      refine (Buffer_String (w.heap.size + 1) (w.heap.size + 1) t _ Hbf.out).mono ?_
      rintro e w3 ⟨rfl, n, rfl⟩
      go_wp2_with fail
      refine (Buffer_Reset (w.heap.size + 1) (w.heap.size + 1) (Lib.byteCells t) _ (by exact Hbf.out)).mono ?_
      rintro e w4 ⟨rfl, -, hb4⟩
      have Hb4 := Lib.hid ((below_drewN Hb2.out).trans (hb4.mono (Nat.le_succ _)))
      clear hb4
      go_wp2_with fail
      go_ret2
      exact ⟨by rw [show HD.dstr true v = HP.hdec v from rfl, Hd.out]; rfl, Hb4.out⟩
end Go.Proofs.YtmlnmllnlekcgaaDoor
/-
  PLAIN: what a decoder reads of one representation. No program in sight.
-/
namespace Go.Proofs.YtmlnmllnlekcgaaDoor.HD

/-! ### one representation -/
/-- A decoder: its table, whether it emits, whether the next field is the block's first. -/
structure St where
  ents : List (Bs × Bs)
  max : Nat
  allowed : Nat
  on : Bool
  first : Bool
inductive Er where
  | huff
  | index (i : Nat)
  | coding
/-- What reading one representation gives: more is needed; an error; or the table's entries, its size, what is told, and what stands behind. -/
inductive P1 where
  | more
  | bad (e : Er)
  | ok (ents : List (Bs × Bs)) (max : Nat) (out : Option Fld) (rest : Bs)
/-- A size update. -/
def pUpd (s : St) (v : Bs) : P1 :=
  if s.first = false ∧ 0 < tsize s.ents then .bad .coding
  else match rvi 5 v with
    | .more => .more
    | .over => .bad .coding
    | .ok n rest => if s.allowed < n then .bad .coding else .ok (evict n s.ents) n none rest
end Go.Proofs.YtmlnmllnlekcgaaDoor.HD
/-
  A decoder in memory.
-/
namespace Go.Proofs.YtmlnmllnlekcgaaDoor
open Go.ChangeShapes Go.WideShapes Go.ChangeAt Go.RowKit

/-- A decoder, told no longest text, in block d. -/
structure DecMem (B : Nat) (w : World) (d : Nat) (f : Nat → Value) (s : HD.St) (cnt : Nat) (ev : Value) (m1 m2 : Nat) (l1 : List (HD.Bs × Nat)) (l2 : List ((HD.Bs × HD.Bs) × Nat)) : Prop where
  tab : TabMem B w d 16 f s.ents cnt ev m1 m2 l1 l2
  sized : Sized f s.ents s.max
  allowed : f 7 = .int .u32 (s.allowed : Nat)
  on : f 9 = .bool s.on
  most : f 10 = .int .i64 0
  first : f 15 = .bool s.first
/-- Numbers that stay small. -/
structure Small (s : HD.St) (cnt : Nat) : Prop where
  cnt : cnt + s.ents.length + 1 < 2 ^ 62
  len : s.ents.length ≤ 2 ^ 40
  max : s.max < 2 ^ 32
  allowed : s.allowed < 2 ^ 32
  size : HD.tsize s.ents < 2 ^ 32
/-- Block g holds bytes. -/
def IsU8 (w : World) (g : Nat) : Prop := ∃ cs fz, w.heap[g]? = some (.cells cs 5 fz)
theorem not_own_u8 {B : Nat} {w : World} {b n : Nat} {f : Nat → Value} {ents : List (HD.Bs × HD.Bs)} {cnt : Nat} {ev : Value} {m1 m2 : Nat} {l1 : List (HD.Bs × Nat)} {l2 : List ((HD.Bs × HD.Bs) × Nat)} {g : Nat}
    (h : TabMem B w b n f ents cnt ev m1 m2 l1 l2) (hg : IsU8 w g) : ¬ tabOwn b ev m1 m2 g := by
  obtain ⟨cs, fz, hg⟩ := hg
  rintro (rfl | ho | rfl | rfl)
  · obtain ⟨cs', t, hb, -, -, ht⟩ := h.row
    rw [hg] at hb; injection hb with hb; injection hb with _ hb _; exact ht hb.symm
  · obtain ⟨c, fz', hk⟩ := Lib.ownsRow_kind h.own g ho
    rw [hg] at hk; injection hk with hk; injection hk with _ hk _; exact absurd hk (by decide)
  · obtain ⟨_, es, c, hb, -⟩ := h.map1
    rw [hg] at hb; injection hb with hb; cases hb
  · obtain ⟨_, es, c, hb, -⟩ := h.map2
    rw [hg] at hb; injection hb with hb; cases hb
def ErrV (n : Nat) (w' : World) (aI : Addr) : HD.Er → Value → Prop
  | .huff, v => v = .iface 111 (.pointer (some aI))
  | .coding, v => ∃ a : Addr, v = codingErr a ∧ Fresh n w' a
  | .index i, v => v = .iface 100 (.agg #[.iface 102 (.int .i64 (IntKind.i64.wrap (i : Nat)))])

/-- How a representation without a field ends. -/
def UEnds (B : Nat) (w : World) (d g : Nat) (f : Nat → Value) (s : HD.St) (cnt : Nat) (ev : Value) (m1 m2 : Nat) (aI aN : Addr) : HD.P1 → Ending → World → Prop
  | .more, e, w' => e = .returned (.iface 111 (.pointer (some aN))) ∧ Below w.heap.size w w'
  | .bad er, e, w' => (∃ x, e = .returned x ∧ ErrV w.heap.size w' aI er x) ∧ Below w.heap.size w w'
  | .ok ents max _ rest, e, w' => e = .returned .nilIface ∧ ∃ (q : Nat) (ev' : Value) (f' : Nat → Value) (o' cap' : Nat) (l1' : List (HD.Bs × Nat)) (l2' : List ((HD.Bs × HD.Bs) × Nat)),
      q ≤ s.ents.length ∧ ents.length + q = s.ents.length ∧ DecMem B w' d f' { s with ents := ents, max := max } (cnt + q) ev' m1 m2 l1' l2' ∧ ev'.ownBlock = ev.ownBlock ∧ (∀ i, 7 ≤ i → i ≠ 11 → f' i = f i) ∧
      f' 11 = .slice (some ⟨g, o', none⟩) rest.length cap' ∧ Buf w' g o' cap' rest ∧ Upd (tabOwn d ev m1 m2) w w'

set_option maxHeartbeats 4000000 in
set_option maxRecDepth 100000 in
theorem pUpd_any (B : Nat) (w : World) (d : Nat) (f : Nat → Value) (s : HD.St) (cnt : Nat) (ev : Value) (m1 m2 : Nat) (l1 : List (HD.Bs × Nat)) (l2 : List ((HD.Bs × HD.Bs) × Nat)) (g o cap : Nat) (v : HD.Bs) (aI aN : Addr)
    (hM : DecMem B w d f s cnt ev m1 m2 l1 l2) (hsm : Small s cnt) (hb : Buf w g o cap v) (hg : IsU8 w g) (h11 : f 11 = .slice (some ⟨g, o, none⟩) v.length cap)
    (he : w.cell? ⟨1, 0, none⟩ = some (.iface 111 (.pointer (some aN)))) :
    Calls Tryd.prog 57 #[.pointer (some ⟨d, 0, none⟩)] w fun e w' => UEnds B w d g f s cnt ev m1 m2 aI aN (HD.pUpd s v) e w' := by
  have HM := Lib.hid hM
  have HB := Lib.hid hb
  have Hg := Lib.hid hg
  have H11 := Lib.hid h11
  have Hnot := Lib.hid (not_own_u8 hM.tab hg)
  have Hsm := Lib.hid hsm
  have He := Lib.hid he
  have c5 := hM.tab.row.cell' (i := 5) (by decide) hM.sized.size
  have c7 := hM.tab.row.cell' (i := 7) (by decide) hM.allowed
  have c11 := hM.tab.row.cell' (i := 11) (by decide) h11
  have c15 := hM.tab.row.cell' (i := 15) (by decide) hM.first
  obtain ⟨fst, hfst⟩ : ∃ b, b = s.first := ⟨_, rfl⟩
  obtain ⟨ts, hts⟩ : ∃ b, b = HD.tsize s.ents := ⟨_, rfl⟩
  rw [← hfst] at c15
  rw [← hts] at c5
  have Hfst := Lib.hid hfst
  have Hts := Lib.hid hts
  have hG := World.block_lt_of_cell? w _ he
  have hP : HD.pUpd s v = if fst = false ∧ 0 < ts then .bad .coding else match HD.rvi 5 v with | .more => .more | .over => .bad .coding | .ok n rest => if s.allowed < n then .bad .coding else .ok (HD.evict n s.ents) n none rest := by rw [hfst, hts]; rfl
  have HP := Lib.hid hP
  clear hM hb hg h11 hsm hfst hts he hP
  by_cases hlate : fst = false ∧ 0 < ts
  · obtain ⟨rfl, h0⟩ := hlate
    have h0I : (0 : Int) < (ts : Int) := by omega
    rw [if_pos ⟨rfl, h0⟩] at HP
    go_enter Tryd.func57, Tryd.ntmps57
    go_wp2_with fail
    refine (errNew_any _ _).mono ?_
    rintro e w1 ⟨⟨a, rfl, ha⟩, hb1⟩
    have Hb1 := Lib.hid hb1
    clear hb1
    go_wp2_with fail
    go_ret
    rw [HP.out]
    exact ⟨⟨_, rfl, a, rfl, ha⟩, Hb1.out⟩
  · rw [if_neg hlate] at HP
    have hgo : fst = true ∨ (fst = false ∧ ts = 0) := by
      cases fst with
      | true => exact Or.inl rfl
      | false => exact Or.inr ⟨rfl, by simp at hlate; exact hlate⟩
    clear hlate
    rcases hgo with rfl | ⟨rfl, rfl⟩
    all_goals
      go_enter Tryd.func57, Tryd.ntmps57
      go_wp2_with fail
      refine (varInt_any 5 (by decide) _ g o cap v _ HB.out He.out).mono ?_
      rintro e w1 ⟨hv, hb1⟩
      have d7 := (hb1.cell (p := ⟨d, 7, none⟩) (HM.out.tab.row.lt)).trans c7
      have HT1 := Lib.hid (HM.out.tab.below hb1)
      have Hb1 := Lib.hid hb1
      clear hb1 c5 c7 c11 c15
      cases hr : HD.rvi 5 v with
      | more =>
        rw [hr] at hv HP
        obtain ⟨s0, rfl⟩ := hv
        clear hr
        go_wp2_with fail
        go_ret
        rw [HP.out]
        exact ⟨rfl, Hb1.out⟩
      | over =>
        rw [hr] at hv HP
        obtain ⟨s0, a, rfl, ha⟩ := hv
        clear hr
        unfold codingErr
        go_wp2_with fail
        go_ret
        rw [HP.out]
        exact ⟨⟨_, rfl, a, rfl, ha⟩, Hb1.out⟩
      | ok n rest =>
        have hlt := HD.rvi_lt (by decide) hr
        rw [hr] at hv HP
        obtain ⟨o1, cap1, rfl, hbr⟩ := hv
        have HBr := Lib.hid hbr
        have hal := Hsm.out.allowed
        have HP2 : Hid (HD.pUpd s v = if s.allowed < n then .bad .coding else .ok (HD.evict n s.ents) n none rest) := HP.out
        clear hr hbr HP
        by_cases hna : s.allowed < n
        · have hnaI : (s.allowed : Int) < (n : Int) := by omega
          rw [if_pos hna] at HP2
          go_wp2_with fail
          refine (errNew_any _ _).mono ?_
          rintro e w2 ⟨⟨a, rfl, ha⟩, hb2⟩
          have Hb2 := Lib.hid (Hb1.out.trans (hb2.mono Hb1.out.size))
          clear hb2
          go_wp2_with fail
          go_ret
          rw [HP2.out]
          exact ⟨⟨_, rfl, a, rfl, ha.mono Hb1.out.size⟩, Hb2.out⟩
        · have hnaI : ¬ (s.allowed : Int) < (n : Int) := by omega
          have hnl : (n : Int) < 4294967296 := by omega
          have hnl2 : n < 2 ^ 32 := by omega
          rw [if_neg hna] at HP2
          go_wp2_with fail
          refine (setMax_any B _ d 16 f s.ents cnt s.max n ev m1 m2 l1 l2 HT1.out HM.out.sized (by have := Hsm.out.cnt; omega) hnl2 Hsm.out.size).mono ?_
          rintro e w2 ⟨rfl, q, ev', f', hq, hev, heb, hf, hs2, ht2, hu2⟩
          have e11 := ht2.row.cell' (i := 11) (v := .slice (some ⟨g, o, none⟩) v.length cap) (by decide) (by rw [hf 11 (by decide), H11.out])
          have fz := fun i => ht2.row.unfrozen i none
          have H1 := Lib.hid hev
          have H2 := Lib.hid heb
          have H3 := Lib.hid hf
          have H4 := Lib.hid hs2
          have H5 := Lib.hid ht2
          have H6 := Lib.hid hu2
          clear hev heb hf hs2 ht2 hu2
          go_wp2_with fail
          go_ret
          rw [HP2.out]
          have hrow := H5.out.row.set 11 (.slice (some ⟨g, o1, none⟩) rest.length cap1)
          have hT6 := H5.out.write (cnt' := cnt + q) (f' := putF f' 11 (.slice (some ⟨g, o1, none⟩) rest.length cap1)) hrow (fun i _ hi => other_set hi) (by simp [putF, H5.out.c0]) (by simp [putF, H5.out.c1]) (by simp [putF, H5.out.c2]) (by simp [putF, H5.out.c3]) (by simp [putF, H5.out.c4])
          have hlen : (HD.evict n s.ents).length + q = s.ents.length := by rw [H1.out, List.length_drop]; omega
          have hup : Upd (tabOwn d ev m1 m2) w w2 := Upd.step (Upd.of_below Hb1.out) H6.out
          refine ⟨rfl, q, ev', _, o1, cap1, _, _, hq, hlen, ⟨hT6, ⟨by simp [putF, H4.out.size], by simp [putF, H4.out.max]⟩, by simp [putF, H3.out, HM.out.allowed], by simp [putF, H3.out, HM.out.on], by simp [putF, H3.out, HM.out.most], by simp [putF, H3.out, HM.out.first]⟩, H2.out, fun i hi h11 => by simp only [putF]; rw [if_neg h11, H3.out i hi], by simp [putF], ?_, hup.setCell (Or.inl (Or.inl rfl)) _⟩
          obtain ⟨gc, gz, hgh⟩ := Hg.out
          exact HBr.out.kept fun _ => (other_set (fun e => Hnot.out (Or.inl e.symm))).trans (H6.out.block g (Nat.lt_of_lt_of_le (Lib.lt_of_heap hgh) Hb1.out.size) Hnot.out)
end Go.Proofs.YtmlnmllnlekcgaaDoor
/-
  The buffer that a decoder keeps, within its struct: its length, its bytes, that it is emptied, that it is written.
-/
namespace Go.Proofs.YtmlnmllnlekcgaaDoor
open Go.ChangeShapes Go.WideShapes Go.ChangeAt Go.RowKit
open Go.Shelf
def lays180_ren : Go.Shelf.Ren := ⟨fun | 180 => 43 | 251 => 53 | 252 => 54 | 181 => 42 | 184 => 45 | 290 => 58 | 324 => 67 | n => n, fun | 130 => 105 | 37 => 28 | 3 => 3 | 75 => 80 | 0 => 0 | 93 => 75 | 91 => 73 | 131 => 106 | 4 => 4 | 20 => 20 | 5 => 5 | 80 => 130 | 9 => 9 | n => n, fun | 14 => 4 | n => n⟩
theorem lays180 : Go.Proofs.LaysM.n180 Tryd.prog lays180_ren := {
  mixed := by kernel_rfl
  f180 := Tryd.func43.trans (congrArg some (by kernel_rfl))
  f181 := Tryd.func42.trans (congrArg some (by kernel_rfl))
  f184 := Tryd.func45.trans (congrArg some (by kernel_rfl))
  f251 := Tryd.func53.trans (congrArg some (by kernel_rfl))
  f252 := Tryd.func54.trans (congrArg some (by kernel_rfl))
  f290 := Tryd.func58.trans (congrArg some (by kernel_rfl))
  f324 := Tryd.func67.trans (congrArg some (by kernel_rfl))
  t0 := Tryd.underlying0
  a0 := Tryd.isAgg0
  z0 := Tryd.sizeOf0
  v0 := Tryd.zeroValue0
  t3 := Tryd.underlying3
  a3 := Tryd.isAgg3
  z3 := Tryd.sizeOf3
  v3 := Tryd.zeroValue3
  t4 := Tryd.underlying4
  a4 := Tryd.isAgg4
  z4 := Tryd.sizeOf4
  v4 := Tryd.zeroValue4
  t20 := Tryd.underlying20
  a20 := Tryd.isAgg20
  z20 := Tryd.sizeOf20
  v20 := Tryd.zeroValue20
  t37 := Tryd.underlying28
  a37 := Tryd.isAgg28
  z37 := Tryd.sizeOf28
  v37 := Tryd.zeroValue28
  t75 := Tryd.underlying80
  a75 := Tryd.isAgg80
  z75 := Tryd.sizeOf80
  v75 := Tryd.zeroValue80
  t91 := Tryd.underlying73
  a91 := Tryd.isAgg73
  z91 := Tryd.sizeOf73
  v91 := Tryd.zeroValue73
  t93 := Tryd.underlying75
  a93 := Tryd.isAgg75
  z93 := Tryd.sizeOf75
  v93 := Tryd.zeroValue75
  t130 := Tryd.underlying105
  a130 := Tryd.isAgg105
  z130 := Tryd.sizeOf105
  v130 := Tryd.zeroValue105
  t131 := Tryd.underlying106
  a131 := Tryd.isAgg106
  z131 := Tryd.sizeOf106
  v131 := Tryd.zeroValue106
  g14 := by kernel_rfl
  t5 := Tryd.underlying5
  a5 := Tryd.isAgg5
  z5 := Tryd.sizeOf5
  v5 := Tryd.zeroValue5
  t9 := Tryd.underlying9
  a9 := Tryd.isAgg9
  z9 := Tryd.sizeOf9
  v9 := Tryd.zeroValue9
  t80 := Tryd.underlying130
  a80 := Tryd.isAgg130
  z80 := Tryd.sizeOf130
  v80 := Tryd.zeroValue130
  i0 := by kernel_rfl
  i3 := by kernel_rfl
  i4 := by kernel_rfl
  i5 := by kernel_rfl
  i9 := by kernel_rfl
  i20 := by kernel_rfl
  i37 := by kernel_rfl
  i75 := by kernel_rfl
  i80 := by kernel_rfl
  i91 := by kernel_rfl
  i93 := by kernel_rfl
  i130 := by kernel_rfl
  i131 := by kernel_rfl
  m14 := by kernel_rfl }

theorem saveLen_any (d k c : Nat) (a : Option Addr) (w : World) (h12 : w.cell? ⟨d, 12, none⟩ = some (.slice a k c)) (h13 : w.cell? ⟨d, 13, none⟩ = some (.int .i64 0)) (hk : k ≤ maxLen) :
    Calls Tryd.prog 42 #[.pointer (some ⟨d, 12, none⟩)] w fun e w' => e = .returned (.int .i64 (k : Nat)) ∧ ∃ n, w' = w.drewN n := by
  unfold maxLen at hk
  go_enter Tryd.func42, Tryd.ntmps42
  go_wp2
  go_quiet (fail)
  go_wp2
  go_ret
  exact ⟨ret_int (by simp), _, rfl⟩

theorem saveBytes_any (d k c : Nat) (a : Option Addr) (w : World) (h12 : w.cell? ⟨d, 12, none⟩ = some (.slice a k c)) (h13 : w.cell? ⟨d, 13, none⟩ = some (.int .i64 0)) (_hk : k ≤ c) (_hc : c ≤ maxLen) :
    Calls Tryd.prog 44 #[.pointer (some ⟨d, 12, none⟩)] w fun e w' => e = .returned (.slice a k c) ∧ ∃ n, w' = w.drewN n := by
  unfold maxLen at _hc
  go_enter Tryd.func44, Tryd.ntmps44
  go_wp2
  go_quiet (fail)
  go_wp2
  go_ret
  exact ⟨rfl, _, rfl⟩

theorem saveReset_any (d k c : Nat) (a : Option Addr) (f : Nat → Value) (w : World) (hr : Row w d 16 f) (h12 : f 12 = .slice a k c) (h13 : f 13 = .int .i64 0) (lr : Int) (h14 : f 14 = .int .i8 lr) :
    Calls Tryd.prog 45 #[.pointer (some ⟨d, 12, none⟩)] w fun e w' => e = .returned (.tuple #[]) ∧ Row w' d 16 (putF (putF f 12 (.slice a 0 c)) 14 (.int .i8 0)) ∧ Upd (fun i => i = d) w w' := by
  have c12 := hr.cell' (i := 12) (by decide) h12
  have c13 := hr.cell' (i := 13) (by decide) h13
  have c14 := hr.cell' (i := 14) (by decide) h14
  have fz := fun i => hr.unfrozen i none
  have Hr := Lib.hid hr
  have H13 := Lib.hid h13
  clear hr h12 h13 h14
  go_enter Tryd.func45, Tryd.ntmps45
  go_wp2
  go_end0
  refine ⟨rfl, ?_, ?_⟩
  · exact (((Hr.out.set 12 (.slice a 0 c)).set 13 (.int .i64 0)).set 14 (.int .i8 0)).congr (fun i hi => by
      unfold putF
      have := H13.out
      by_cases e14 : i = 14
      · simp [e14]
      · by_cases e13 : i = 13
        · subst e13; simp [this]
        · by_cases e12 : i = 12
          · subst e12; simp
          · simp [e14, e13, e12])
  · have q : Upd (fun i => i = d) w (((w.setCell ⟨d, 12, none⟩ (.slice a 0 c)).setCell ⟨d, 13, none⟩ (.int .i64 0)).setCell ⟨d, 14, none⟩ (.int .i8 0)) :=
      (((Upd.refl (fun i => i = d) w).setCell (a := ⟨d, 12, none⟩) (Or.inl rfl) _).setCell (a := ⟨d, 13, none⟩) (Or.inl rfl) _).setCell (a := ⟨d, 14, none⟩) (Or.inl rfl) _
    exact q

/-- The bytes that a decoder keeps: cell 12 is a slice of its own. -/
structure Save (B : Nat) (w : World) (d : Nat) (f : Nat → Value) (cs : List UInt8) : Prop where
  own : w.ownsRow B 5 1 (f 12) cs.length (Lib.byteCells cs)
  ne : (f 12).ownBlock ≠ some d
  off : f 13 = .int .i64 0
  last : ∃ lr, f 14 = .int .i8 lr

theorem saveWrite_any (B d n c : Nat) (a : Addr) (f : Nat → Value) (xs cs : List UInt8) (w : World) (hr : Row w d 16 f) (hs : Save B w d f xs) (hB : B ≤ d) (hBw : B ≤ w.heap.size) (hn : cs.length = n) (ha : a.block ≠ d)
    (hsrc : ∀ j v, (Lib.byteCells cs)[j]? = some v → w.cell? (a.add j) = some v) (hlim : xs.length + n ≤ 140737488355328) :
    Calls Tryd.prog 43 #[.pointer (some ⟨d, 12, none⟩), .slice (some a) n c] w fun e w' => e = .returned (.tuple #[.int .i64 n, .nilIface]) ∧
      ∃ f', Row w' d 16 f' ∧ Save B w' d f' (xs ++ cs) ∧ (∀ i, i < 12 ∨ i = 15 → f' i = f i) ∧ Below B w w' ∧ Lib.OthersKept 5 (some d) w w' := by
  obtain ⟨own, ne, off, lr, last⟩ := hs
  obtain ⟨cells, t, hd, h16, hc, ht⟩ := hr
  have hlen : ∀ l : List UInt8, (Lib.byteCells l).length = l.length := fun l => by simp [Lib.byteCells]
  have hI : LibA.IsBuffer t (fun i => cells[i]?) 5 B d 12 (Lib.byteCells xs) w :=
    ⟨hB, f 12, lr, ⟨cells, hd, hc 12 (by decide), (hc 13 (by decide)).trans (by rw [off]), (hc 14 (by decide)).trans (by rw [last]), fun i _ => rfl⟩, by rw [hlen]; exact own, ne⟩
  have h1 : ∀ l : List UInt8, ∀ v ∈ Lib.byteCells l, v.oneCell' = true := fun l v hv => by
    simp only [Lib.byteCells, List.mem_map] at hv
    obtain ⟨x, -, rfl⟩ := hv
    rfl
  refine (Any.Buffer_Write_at lays180 t (fun i => cells[i]?) B d 12 (Lib.byteCells xs) (Lib.byteCells cs) a n c w hI hBw (h1 xs) (by rw [hlen]; exact hn) ha hsrc (h1 cs) (by rw [hlen]; exact hlim)).mono ?_
  rintro e w' ⟨rfl, ⟨-, v, lr', ⟨cells', hd', e12, e13, e14, hrest⟩, own', ne'⟩, hb, hk⟩
  have hsz : cells'.size = 16 := by
    have h15 : cells'[15]? = cells[15]? := hrest 15 (by omega)
    have h17 : cells'[16]? = cells[16]? := hrest 16 (by omega)
    rw [hc 15 (by decide)] at h15
    rw [Array.getElem?_eq_none (by omega : cells.size ≤ 16)] at h17
    have := (Array.getElem?_eq_some_iff.1 h15).1
    have := Array.getElem?_eq_none_iff.1 h17
    omega
  refine ⟨rfl, fun i => if i = 12 then v else if i = 13 then .int .i64 0 else if i = 14 then .int .i8 lr' else f i, ⟨cells', t, hd', hsz, fun i hi => ?_, ht⟩, ⟨?_, ne', rfl, lr', rfl⟩, fun i hi => ?_, hb, hk⟩
  · by_cases h12 : i = 12
    · subst h12; exact e12
    by_cases h13 : i = 13
    · subst h13; exact e13
    by_cases h14 : i = 14
    · subst h14; exact e14
    show _ = some (if i = 12 then v else if i = 13 then .int .i64 0 else if i = 14 then .int .i8 lr' else f i)
    rw [if_neg h12, if_neg h13, if_neg h14, hrest i (by omega)]
    exact hc i hi
  · have e : Lib.byteCells (xs ++ cs) = Lib.byteCells xs ++ Lib.byteCells cs := by simp [Lib.byteCells]
    rw [e, show (xs ++ cs).length = (Lib.byteCells xs ++ Lib.byteCells cs).length by simp [hlen]]
    exact own'
  · show (if i = 12 then v else if i = 13 then .int .i64 0 else if i = 14 then .int .i8 lr' else f i) = f i
    rw [if_neg (by omega), if_neg (by omega), if_neg (by omega)]
end Go.Proofs.YtmlnmllnlekcgaaDoor
/-
  The decoder's setters and Close, on the decoder's block.
-/
namespace Go.Proofs.YtmlnmllnlekcgaaDoor
open Go.ChangeShapes Go.WideShapes Go.ChangeAt Go.RowKit

theorem setOn_any (d : Nat) (f : Nat → Value) (v : Bool) (w : World) (hr : Row w d 16 f) (b9 : Bool) (h9 : f 9 = .bool b9) :
    Calls Tryd.prog 33 #[.pointer (some ⟨d, 0, none⟩), .bool v] w fun e w' => e = .returned (.tuple #[]) ∧ Row w' d 16 (putF f 9 (.bool v)) ∧ Upd (fun i => i = d) w w' := by
  have c9 := hr.cell' (i := 9) (by decide) h9
  have fz := fun i => hr.unfrozen i none
  have Hr := Lib.hid hr
  clear hr h9
  go_enter Tryd.func33, Tryd.ntmps33
  go_wp2
  go_end0
  refine ⟨rfl, Hr.out.set 9 _, ?_⟩
  have q : Upd (fun i => i = d) w (w.setCell ⟨d, 9, none⟩ (.bool v)) := (Upd.refl (fun i => i = d) w).setCell (a := ⟨d, 9, none⟩) (Or.inl rfl) _
  exact q

theorem setMaxStr_any (d : Nat) (f : Nat → Value) (v : Int) (w : World) (hr : Row w d 16 f) (b10 : Int) (h10 : f 10 = .int .i64 b10) :
    Calls Tryd.prog 32 #[.pointer (some ⟨d, 0, none⟩), .int .i64 v] w fun e w' => e = .returned (.tuple #[]) ∧ Row w' d 16 (putF f 10 (.int .i64 v)) ∧ Upd (fun i => i = d) w w' := by
  have c10 := hr.cell' (i := 10) (by decide) h10
  have fz := fun i => hr.unfrozen i none
  have Hr := Lib.hid hr
  clear hr h10
  go_enter Tryd.func32, Tryd.ntmps32
  go_wp2
  go_end0
  refine ⟨rfl, Hr.out.set 10 _, ?_⟩
  have q : Upd (fun i => i = d) w (w.setCell ⟨d, 10, none⟩ (.int .i64 v)) := (Upd.refl (fun i => i = d) w).setCell (a := ⟨d, 10, none⟩) (Or.inl rfl) _
  exact q

theorem setAllowed_any (d : Nat) (f : Nat → Value) (v : Int) (w : World) (hr : Row w d 16 f) (b7 : Int) (h7 : f 7 = .int .u32 b7) :
    Calls Tryd.prog 35 #[.pointer (some ⟨d, 0, none⟩), .int .u32 v] w fun e w' => e = .returned (.tuple #[]) ∧ Row w' d 16 (putF f 7 (.int .u32 v)) ∧ Upd (fun i => i = d) w w' := by
  have c7 := hr.cell' (i := 7) (by decide) h7
  have fz := fun i => hr.unfrozen i none
  have Hr := Lib.hid hr
  clear hr h7
  go_enter Tryd.func35, Tryd.ntmps35
  go_wp2
  go_end0
  refine ⟨rfl, Hr.out.set 7 _, ?_⟩
  have q : Upd (fun i => i = d) w (w.setCell ⟨d, 7, none⟩ (.int .u32 v)) := (Upd.refl (fun i => i = d) w).setCell (a := ⟨d, 7, none⟩) (Or.inl rfl) _
  exact q

theorem emitOn_any (d : Nat) (b9 : Bool) (w : World) (c9 : w.cell? ⟨d, 9, none⟩ = some (.bool b9)) :
    Calls Tryd.prog 36 #[.pointer (some ⟨d, 0, none⟩)] w fun e w' => e = .returned (.bool b9) ∧ w' = w := by
  go_enter Tryd.func36, Tryd.ntmps36
  go_wp2
  go_ret
  exact ⟨rfl, rfl⟩

theorem closeBad_any (d k c : Nat) (a : Option Addr) (f : Nat → Value) (w : World) (hr : Row w d 16 f) (h12 : f 12 = .slice a k c) (h13 : f 13 = .int .i64 0) (lr : Int) (h14 : f 14 = .int .i8 lr) (hk : k ≤ maxLen) (hk0 : 0 < k) :
    Calls Tryd.prog 29 #[.pointer (some ⟨d, 0, none⟩)] w fun e w' => (∃ x : Addr, e = .returned (codingErr x) ∧ Fresh w.heap.size w' x) ∧ Row w' d 16 (putF (putF f 12 (.slice a 0 c)) 14 (.int .i8 0)) ∧ Upd (fun i => i = d) w w' := by
  have c12 := hr.cell' (i := 12) (by decide) h12
  have c13 := hr.cell' (i := 13) (by decide) h13
  have Hr := Lib.hid hr
  have H12 := Lib.hid h12
  have H13 := Lib.hid h13
  have H14 := Lib.hid h14
  clear hr h12 h13 h14
  go_enter Tryd.func29, Tryd.ntmps29
  go_wp2_with fail
  refine (saveLen_any d k c a _ (by exact c12) (by exact c13) hk).mono ?_
  rintro e w1 ⟨rfl, n1, rfl⟩
  clear c12 c13
  have e0 : decide ((0 : Int) < ((k : Nat) : Int)) = true := by simp; omega
  go_wp2_with fail
  refine (saveReset_any d k c a f _ (by exact Hr.out) H12.out H13.out lr H14.out).mono ?_
  rintro e w2 ⟨rfl, hr2, hu2⟩
  have Hr2 := Lib.hid hr2
  have Hu2 := Lib.hid hu2
  clear hr2 hu2
  go_wp2_with fail
  refine (errNew_any _ _).mono ?_
  rintro e w3 ⟨⟨x, rfl, hx⟩, hb3⟩
  have Hx := Lib.hid hx
  have Hb3 := Lib.hid hb3
  clear hx hb3
  go_wp2_with fail
  go_ret
  have hsz : w.heap.size ≤ w2.heap.size := Hu2.out.size
  have hd : d < w2.heap.size := Hr2.out.lt
  exact ⟨⟨x, rfl, Hx.out.mono hsz⟩, Hr2.out.below Hb3.out hd, (((Upd.refl _ w).drewN n1).step Hu2.out).step (Upd.of_below Hb3.out)⟩

theorem closeOk_any (d c : Nat) (a : Option Addr) (f : Nat → Value) (w : World) (hr : Row w d 16 f) (h12 : f 12 = .slice a 0 c) (h13 : f 13 = .int .i64 0) (b15 : Bool) (h15 : f 15 = .bool b15) :
    Calls Tryd.prog 29 #[.pointer (some ⟨d, 0, none⟩)] w fun e w' => e = .returned .nilIface ∧ Row w' d 16 (putF f 15 (.bool true)) ∧ Upd (fun i => i = d) w w' := by
  have c12 := hr.cell' (i := 12) (by decide) h12
  have c13 := hr.cell' (i := 13) (by decide) h13
  have c15 := hr.cell' (i := 15) (by decide) h15
  have fz := fun i => hr.unfrozen i none
  have Hr := Lib.hid hr
  clear hr h12 h13 h15
  go_enter Tryd.func29, Tryd.ntmps29
  go_wp2_with fail
  refine (saveLen_any d 0 c a _ (by exact c12) (by exact c13) (by decide)).mono ?_
  rintro e w1 ⟨rfl, n1, rfl⟩
  clear c12 c13
  go_wp2_with fail
  go_ret
  refine ⟨rfl, Hr.out.set 15 _, ?_⟩
  have q : Upd (fun i => i = d) w ((w.drewN n1).setCell ⟨d, 15, none⟩ (.bool true)) := ((Upd.refl (fun i => i = d) w).drewN n1).setCell (a := ⟨d, 15, none⟩) (Or.inl rfl) _
  exact q
end Go.Proofs.YtmlnmllnlekcgaaDoor
/-
  A map is made.
-/
namespace Go.Proofs.YtmlnmllnlekcgaaDoor
open Go.ChangeShapes Go.WideShapes Go.ChangeAt Go.RowKit

theorem wpList_mkMap {P : Program} {ops : Array Oper} {rest : List Oper} {o : Oper} {a : Act} {w : World} {Q : Exit → Act → World → Prop} (hg : o.guard = none) (mt : TypeId) (ho : o.op = .makeMap mt none)
    (h : wpList P ops Q rest (a.put o.dst (.map (some w.heap.size))) (w.alloc (.map #[] 0))) : wpList P ops Q (o :: rest) a w := by
  refine wpList_plain hg fun K hK => ?_
  unfold Oper.wp
  simp only [execOp, ho, Option.map_none, Sem.run_bind, run_makeMap, Result.andThen_ok, Sem.run_pure]
  exact hK _ _ h
theorem mapMem_mk {K : Type} {enc : K → Value} (w : World) : MapMem enc (w.alloc (.map #[] 0)) w.heap.size ([] : List (K × Nat)) := ⟨by simp, #[], 0, heap_alloc_new w _, by simp⟩
end Go.Proofs.YtmlnmllnlekcgaaDoor
/-
  The contract of (*headerFieldTable).init: two new maps.
-/
namespace Go.Proofs.YtmlnmllnlekcgaaDoor
open Go.ChangeShapes Go.WideShapes Go.ChangeAt Go.RowKit

theorem init_any (b n : Nat) (f : Nat → Value) (w : World) (hr : Row w b n f) (hn : 8 ≤ n) (h3 : f 3 = .map none) (h4 : f 4 = .map none) :
    Calls Tryd.prog 26 #[.pointer (some ⟨b, 0, none⟩)] w fun e w' => e = .returned (.tuple #[]) ∧ ∃ m1 m2, w.heap.size ≤ m1 ∧ w.heap.size ≤ m2 ∧ m1 ≠ m2 ∧ MapMem encS w' m1 [] ∧ MapMem encP w' m2 [] ∧
      Row w' b n (putF (putF f 3 (.map (some m1))) 4 (.map (some m2))) ∧ Upd (fun i => i = b) w w' := by
  have c3 := hr.cell' (i := 3) (by omega) h3
  have c4 := hr.cell' (i := 4) (by omega) h4
  have fz := fun i => hr.unfrozen i none
  have Hr := Lib.hid hr
  have H3 := Lib.hid h3
  have H4 := Lib.hid h4
  clear hr h3 h4 c3 c4 fz
  go_enter Tryd.func26, Tryd.ntmps26
  go_wp2
  simp only [run_makeMap, Result.andThen_ok, Oper.upon]
  have fz1 : (w.alloc (.map #[] 0)).frozen? ⟨b, 3, none⟩ = false := (Hr.out.alloc _).unfrozen 3 none
  have c31 : (w.alloc (.map #[] 0)).cell? ⟨b, 3, none⟩ = some (.map none) := (Hr.out.alloc _).cell' (i := 3) (by omega) H3.out
  go_wp2
  have hr1 : Row ((w.alloc (.map #[] 0)).setCell ⟨b, 3, none⟩ (.map (some w.heap.size))) b n (putF f 3 (.map (some w.heap.size))) := (Hr.out.alloc _).set 3 _
  have hu1 : Upd (fun i => i = b) w ((w.alloc (.map #[] 0)).setCell ⟨b, 3, none⟩ (.map (some w.heap.size))) := ((Upd.refl (fun i => i = b) w).alloc _).setCell (a := ⟨b, 3, none⟩) (Or.inl rfl) _
  have hm1 : MapMem encS ((w.alloc (.map #[] 0)).setCell ⟨b, 3, none⟩ (.map (some w.heap.size))) w.heap.size ([] : List (HD.Bs × Nat)) := (mapMem_mk w).of_heap (Below.heap_setCell _ _ _ _ (Nat.ne_of_gt Hr.out.lt))
  have hs1 : ((w.alloc (.map #[] 0)).setCell ⟨b, 3, none⟩ (.map (some w.heap.size))).heap.size = w.heap.size + 1 := by simp
  generalize hw1 : (w.alloc (.map #[] 0)).setCell ⟨b, 3, none⟩ (.map (some w.heap.size)) = w1 at hr1 hu1 hm1 hs1 ⊢
  clear hw1 fz1 c31
  have Hr1 := Lib.hid hr1
  have Hu1 := Lib.hid hu1
  have Hm1 := Lib.hid hm1
  have Hs1 := Lib.hid hs1
  clear hr1 hu1 hm1 hs1
  simp only [run_makeMap, Result.andThen_ok, Oper.upon]
  have fz1 : (w1.alloc (.map #[] 0)).frozen? ⟨b, 4, none⟩ = false := (Hr1.out.alloc _).unfrozen 4 none
  have c41 : (w1.alloc (.map #[] 0)).cell? ⟨b, 4, none⟩ = some (.map none) := (Hr1.out.alloc _).cell' (i := 4) (by omega) (by simp [putF, H4.out])
  go_wp2
  go_end0
  have hb : b < w.heap.size := Hr.out.lt
  have hb1 : b ≠ w1.heap.size := by have := Hs1.out; omega
  refine ⟨rfl, w.heap.size, w1.heap.size, Nat.le_refl _, by have := Hs1.out; omega, by have := Hs1.out; omega, ?_, ?_, ?_, ?_⟩
  · exact (Hm1.out.of_heap (Below.heap_alloc _ _ _ (by have := Hs1.out; omega))).of_heap (Below.heap_setCell _ _ _ _ (Nat.ne_of_gt hb))
  · exact (mapMem_mk w1).of_heap (Below.heap_setCell _ _ _ _ (Ne.symm hb1))
  · exact (Hr1.out.alloc _).set 4 _
  · exact (Hu1.out.alloc _).setCell (a := ⟨b, 4, none⟩) (Or.inl rfl) _
end Go.Proofs.YtmlnmllnlekcgaaDoor
/-
  A new decoder.
-/
namespace Go.Proofs.YtmlnmllnlekcgaaDoor
open Go.ChangeShapes Go.WideShapes Go.ChangeAt Go.RowKit

def dec0 (em : Value) : Array Value := #[.bool false, .slice none 0 0, .int .u64 0, .map none, .map none, .int .u32 0, .int .u32 0, .int .u32 0, em, .bool true, .int .i64 0, .slice none 0 0, .slice none 0 0, .int .i64 0, .int .i8 0, .bool true]

set_option maxHeartbeats 4000000 in
theorem newDecoder_any (B size : Nat) (F : Fn) (cv : Value) (w : World) (hB : B ≤ w.heap.size) (hs : size < 2 ^ 32) :
    Calls Tryd.prog 18 #[.int .u32 (size : Nat), .func F #[] #[cv]] w fun e w' => e = .returned (.pointer (some ⟨w.heap.size, 0, none⟩)) ∧ ∃ (f : Nat → Value) (ev : Value) (m1 m2 : Nat),
      DecMem B w' w.heap.size f { ents := [], max := size, allowed := size, on := true, first := true } 0 ev m1 m2 [] [] ∧ f 8 = .func F #[] #[cv] ∧ f 11 = .slice none 0 0 ∧ f 12 = .slice none 0 0 ∧ f 13 = .int .i64 0 ∧ f 14 = .int .i8 0 ∧ ev.ownBlock = none ∧ w.heap.size < m1 ∧ w.heap.size < m2 ∧ Below w.heap.size w w' := by
  go_enter Tryd.func18, Tryd.ntmps18
  go_wp2_with fail
  have hr0 : Row (w.alloc (.cells (dec0 (.func F #[] #[cv])) 77)) w.heap.size 16 (fun i => (dec0 (.func F #[] #[cv])).getD i undef) :=
    Row.new w _ (by decide) rfl (fun i hi => by rw [Array.getD_eq_getD_getElem?]; rw [Array.getElem?_eq_getElem (show i < (dec0 (.func F #[] #[cv])).size from hi)]; rfl)
  refine (init_any _ _ _ _ (by exact hr0) (by decide) rfl rfl).mono ?_
  rintro e w1 ⟨rfl, m1, m2, hm1, hm2, hne, hM1, hM2, hr1, hu1⟩
  have hu : Upd (fun _ => False) w w1 := ((Upd.refl (fun _ => False) w).alloc (.cells (dec0 (.func F #[] #[cv])) 77)).trans hu1 (fun i hi e => absurd hi (by subst e; exact Nat.lt_irrefl _))
  have hd : w.heap.size < (w.alloc (.cells (dec0 (.func F #[] #[cv])) 77)).heap.size := by simp
  have hd1 : w.heap.size < m1 := Nat.lt_of_lt_of_le hd hm1
  have hd2 : w.heap.size < m2 := Nat.lt_of_lt_of_le hd hm2
  clear hr0 hu1 hm1 hm2 hd
  have HB := Lib.hid hB
  have Hd1 := Lib.hid hd1
  have Hd2 := Lib.hid hd2
  have HM1 := Lib.hid hM1
  have HM2 := Lib.hid hM2
  have Hne := Lib.hid hne
  have Hu := Lib.hid hu
  have Hr1 := Lib.hid hr1
  generalize hdd : w.heap.size = d at *
  have Hdd := Lib.hid hdd
  have c7 : w1.cell? ⟨d, 7, none⟩ = some (.int .u32 0) := Hr1.out.cell' (i := 7) (by decide) rfl
  have fz := fun i => Hr1.out.unfrozen i none
  clear hB hd1 hd2 hM1 hM2 hne hu hr1 hdd
  go_wp2_with fail
  have hr2 := Hr1.out.set 7 (.int .u32 (size : Nat))
  have hu2 : Upd (fun _ => False) w (w1.setCell ⟨d, 7, none⟩ (.int .u32 (size : Nat))) := Hu.out.setCell (a := ⟨d, 7, none⟩) (Or.inr (Nat.le_of_eq Hdd.out)) _
  generalize hw2 : w1.setCell ⟨d, 7, none⟩ (.int .u32 (size : Nat)) = w2 at hr2 hu2 ⊢
  have hM1 : MapMem encS w2 m1 ([] : List (HD.Bs × Nat)) := HM1.out.of_heap (by rw [← hw2]; exact Below.heap_setCell _ _ _ _ (Nat.ne_of_gt Hd1.out))
  have hM2 : MapMem encP w2 m2 ([] : List ((HD.Bs × HD.Bs) × Nat)) := HM2.out.of_heap (by rw [← hw2]; exact Below.heap_setCell _ _ _ _ (Nat.ne_of_gt Hd2.out))
  clear hw2
  have hT : TabMem B w2 d 16 _ [] 0 (.slice none 0 0) m1 m2 [] [] := ⟨hr2, by decide, rfl, rfl, rfl, rfl, rfl, World.ownsRow_nil _ _ _ _, by simp [Value.ownBlock], Hne.out, ⟨HB.out, by have := HB.out; have := Hd1.out; omega, by have := HB.out; have := Hd2.out; omega⟩, hM1, hM2⟩
  have hS : Sized (fun i => if i = 7 then Value.int .u32 (size : Nat) else putF (putF (fun i => (dec0 (.func F #[] #[cv])).getD i undef) 3 (.map (some m1))) 4 (.map (some m2)) i) [] 0 := ⟨rfl, rfl⟩
  have Hu2 := Lib.hid hu2
  clear hr2 hu2 hM1 hM2
  refine (setMax_any B w2 d 16 _ [] 0 0 size (.slice none 0 0) m1 m2 [] [] hT hS (by decide) hs (by decide)).mono ?_
  clear hT hS
  rintro e w3 ⟨rfl, q, ev, f, hq, -, hev, hf, hS3, hT3, hu3⟩
  have hq0 : q = 0 := by simpa using hq
  subst hq0
  have HS3 := Lib.hid hS3
  have HT3 := Lib.hid hT3
  have Hu3 := Lib.hid hu3
  have Hf := Lib.hid hf
  have Hev := Lib.hid hev
  clear hS3 hT3 hu3 hf hev hq
  go_wp2_with fail
  go_ret
  have hf := Hf.out
  have hb : Below d w w3 := by
    have h1 := Hu2.out.trans Hu3.out (F := fun _ => False) (fun i hi hF => by
      have := Hdd.out
      have := Hd1.out
      have := Hd2.out
      rcases hF with h | h | h | h
      · omega
      · cases h
      · omega
      · omega)
    exact h1.below (Nat.le_of_eq Hdd.out.symm) (fun k h => h.elim)
  rw [Hdd.out]
  refine ⟨rfl, f, ev, m1, m2, ⟨HT3.out, HS3.out, hf 7 (by decide), (hf 9 (by decide)).trans rfl, (hf 10 (by decide)).trans rfl, (hf 15 (by decide)).trans rfl⟩, (hf 8 (by decide)).trans rfl, (hf 11 (by decide)).trans rfl, (hf 12 (by decide)).trans rfl, (hf 13 (by decide)).trans rfl, (hf 14 (by decide)).trans rfl, Hev.out, Hd1.out, Hd2.out, hb⟩
end Go.Proofs.YtmlnmllnlekcgaaDoor
/-
  The codes of a decoder's errors.
-/
namespace Go.Proofs.YtmlnmllnlekcgaaDoor
open Go.ChangeShapes Go.WideShapes Go.ChangeAt Go.RowKit

theorem assertD_yes (p : Value) (w : World) : (Instr.typeAssert (.iface 100 p) 80 100 true).run Tryd.prog w = .ok (.tuple #[p, .bool true]) w := by
  simp [Instr.typeAssert, run_underlying Tryd.underlying100]
theorem assertI_yes (p : Value) (w : World) : (Instr.typeAssert (.iface 102 p) 80 102 true).run Tryd.prog w = .ok (.tuple #[p, .bool true]) w := by
  simp [Instr.typeAssert, run_underlying Tryd.underlying102]

theorem size100 : (Tryd.prog.info? 113).map (fun i => decide (i.size ≠ 0)) = some true := by kernel_rfl
theorem eql_other (a b : Addr) (h : a ≠ b) (w : World) {ca cb : Array Value} {ta tb : TypeId} (ha : w.heap[a.block]? = some (.cells ca ta (0, 0))) (hb : w.heap[b.block]? = some (.cells cb tb (0, 0))) :
    (binOp .eql 80 (.iface 111 (.pointer (some a))) (.iface 111 (.pointer (some b)))).run Tryd.prog w = .ok (.bool false) w := by
  obtain ⟨i, hi, hc⟩ : ∃ i, Tryd.prog.info? 111 = some i ∧ i.comparable = true := by
    have h := info85
    cases hi : Tryd.prog.info? 111 with
    | none => rw [hi] at h; cases h
    | some i => rw [hi] at h; exact ⟨i, rfl, by simpa using h⟩
  obtain ⟨j, hj, hs⟩ : ∃ j, Tryd.prog.info? 113 = some j ∧ j.size ≠ 0 := by
    have h := size100
    cases hj : Tryd.prog.info? 113 with
    | none => rw [hj] at h; cases h
    | some j => rw [hj] at h; exact ⟨j, rfl, by simpa using h⟩
  exact run_eql_iface_ptr_other w Tryd.underlying80 Tryd.underlying111 hi hc hj hs h ha hb

set_option maxRecDepth 100000 in
theorem codeOf_coding (a aI aL : Addr) (w : World) (he : w.cell? ⟨3, 0, none⟩ = some (.iface 111 (.pointer (some aI)))) (hl : w.cell? ⟨2, 0, none⟩ = some (.iface 111 (.pointer (some aL))))
    {n : Nat} (ha : Fresh n w a) (hI : Fresh 0 w aI) (hL : Fresh 0 w aL) (hIn : aI.block < n) (hLn : aL.block < n) :
    Calls Tryd.prog 37 #[codingErr a] w fun e w' => e = .returned (.tuple #[.int .i64 4, .int .i64 0]) ∧ Below w.heap.size w w' := by
  have hG : 3 < w.heap.size := World.block_lt_of_cell? w ⟨3, 0, none⟩ he
  have hG2 : 2 < w.heap.size := World.block_lt_of_cell? w ⟨2, 0, none⟩ hl
  have h1 : a ≠ aI := fun e => by have := ha.1; rw [e] at this; omega
  have h2 : a ≠ aL := fun e => by have := ha.1; rw [e] at this; omega
  obtain ⟨-, ca, ta, hca⟩ := ha
  obtain ⟨-, cI, tI, hcI⟩ := hI
  obtain ⟨-, cL, tL, hcL⟩ := hL
  have la : a.block < w.heap.size := (Array.getElem?_eq_some_iff.1 hca).1
  have lI : aI.block < w.heap.size := (Array.getElem?_eq_some_iff.1 hcI).1
  have lL : aL.block < w.heap.size := (Array.getElem?_eq_some_iff.1 hcL).1
  have up : ∀ (o : Obj) (k : Nat) (x : Obj), k < w.heap.size → w.heap[k]? = some x → (w.alloc o).heap[k]? = some x := fun o k x hk h => by
    show (w.heap.push o)[k]? = _
    rw [Array.getElem?_push, if_neg (Nat.ne_of_lt hk)]; exact h
  unfold codingErr
  go_enter Tryd.func37, Tryd.ntmps37
  have h61 := assertD_yes (.agg #[.iface 111 (.pointer (some a))])
  have h63 := assert63 (.pointer (some a))
  have heq := fun o n => eql_other a aI h1 ((w.alloc o).drewN n) (by exact up o _ _ la hca) (by exact up o _ _ lI hcI)
  have heq2 := fun o n => eql_other a aL h2 ((w.alloc o).drewN n) (by exact up o _ _ la hca) (by exact up o _ _ lL hcL)
  clear up
  go_wp2_with fail
  go_quiet (fail)
  go_wp2_with fail
  go_ret2
  exact ⟨rfl, ((Below.refl w.heap.size w).alloc (Nat.le_refl _) _).trans ⟨rfl, rfl, rfl, Nat.le_refl _, fun _ _ => rfl⟩⟩

set_option maxRecDepth 100000 in
theorem codeOf_index (i : Int) (w : World) :
    Calls Tryd.prog 37 #[.iface 100 (.agg #[.iface 102 (.int .i64 i)])] w fun e w' => e = .returned (.tuple #[.int .i64 1, .int .i64 i]) ∧ Below w.heap.size w w' := by
  go_enter Tryd.func37, Tryd.ntmps37
  have h61 := assertD_yes (.agg #[.iface 102 (.int .i64 i)])
  have h63 := assertI_yes (.int .i64 i)
  go_wp2_with fail
  go_quiet (fail)
  go_wp2_with fail
  go_ret2
  exact ⟨rfl, ((Below.refl w.heap.size w).alloc (Nat.le_refl _) _).trans ⟨rfl, rfl, rfl, Nat.le_refl _, fun _ _ => rfl⟩⟩
end Go.Proofs.YtmlnmllnlekcgaaDoor
/-
  PLAIN: the static table of HPACK (RFC 7541, appendix A), as bytes.
-/
namespace Go.Proofs.YtmlnmllnlekcgaaDoor.HD

def static : List (Bs × Bs) := [
  ([58, 97, 117, 116, 104, 111, 114, 105, 116, 121], []),
  ([58, 109, 101, 116, 104, 111, 100], [71, 69, 84]),
  ([58, 109, 101, 116, 104, 111, 100], [80, 79, 83, 84]),
  ([58, 112, 97, 116, 104], [47]),
  ([58, 112, 97, 116, 104], [47, 105, 110, 100, 101, 120, 46, 104, 116, 109, 108]),
  ([58, 115, 99, 104, 101, 109, 101], [104, 116, 116, 112]),
  ([58, 115, 99, 104, 101, 109, 101], [104, 116, 116, 112, 115]),
  ([58, 115, 116, 97, 116, 117, 115], [50, 48, 48]),
  ([58, 115, 116, 97, 116, 117, 115], [50, 48, 52]),
  ([58, 115, 116, 97, 116, 117, 115], [50, 48, 54]),
  ([58, 115, 116, 97, 116, 117, 115], [51, 48, 52]),
  ([58, 115, 116, 97, 116, 117, 115], [52, 48, 48]),
  ([58, 115, 116, 97, 116, 117, 115], [52, 48, 52]),
  ([58, 115, 116, 97, 116, 117, 115], [53, 48, 48]),
  ([97, 99, 99, 101, 112, 116, 45, 99, 104, 97, 114, 115, 101, 116], []),
  ([97, 99, 99, 101, 112, 116, 45, 101, 110, 99, 111, 100, 105, 110, 103], [103, 122, 105, 112, 44, 32, 100, 101, 102, 108, 97, 116, 101]),
  ([97, 99, 99, 101, 112, 116, 45, 108, 97, 110, 103, 117, 97, 103, 101], []),
  ([97, 99, 99, 101, 112, 116, 45, 114, 97, 110, 103, 101, 115], []),
  ([97, 99, 99, 101, 112, 116], []),
  ([97, 99, 99, 101, 115, 115, 45, 99, 111, 110, 116, 114, 111, 108, 45, 97, 108, 108, 111, 119, 45, 111, 114, 105, 103, 105, 110], []),
  ([97, 103, 101], []),
  ([97, 108, 108, 111, 119], []),
  ([97, 117, 116, 104, 111, 114, 105, 122, 97, 116, 105, 111, 110], []),
  ([99, 97, 99, 104, 101, 45, 99, 111, 110, 116, 114, 111, 108], []),
  ([99, 111, 110, 116, 101, 110, 116, 45, 100, 105, 115, 112, 111, 115, 105, 116, 105, 111, 110], []),
  ([99, 111, 110, 116, 101, 110, 116, 45, 101, 110, 99, 111, 100, 105, 110, 103], []),
  ([99, 111, 110, 116, 101, 110, 116, 45, 108, 97, 110, 103, 117, 97, 103, 101], []),
  ([99, 111, 110, 116, 101, 110, 116, 45, 108, 101, 110, 103, 116, 104], []),
  ([99, 111, 110, 116, 101, 110, 116, 45, 108, 111, 99, 97, 116, 105, 111, 110], []),
  ([99, 111, 110, 116, 101, 110, 116, 45, 114, 97, 110, 103, 101], []),
  ([99, 111, 110, 116, 101, 110, 116, 45, 116, 121, 112, 101], []),
  ([99, 111, 111, 107, 105, 101], []),
  ([100, 97, 116, 101], []),
  ([101, 116, 97, 103], []),
  ([101, 120, 112, 101, 99, 116], []),
  ([101, 120, 112, 105, 114, 101, 115], []),
  ([102, 114, 111, 109], []),
  ([104, 111, 115, 116], []),
  ([105, 102, 45, 109, 97, 116, 99, 104], []),
  ([105, 102, 45, 109, 111, 100, 105, 102, 105, 101, 100, 45, 115, 105, 110, 99, 101], []),
  ([105, 102, 45, 110, 111, 110, 101, 45, 109, 97, 116, 99, 104], []),
  ([105, 102, 45, 114, 97, 110, 103, 101], []),
  ([105, 102, 45, 117, 110, 109, 111, 100, 105, 102, 105, 101, 100, 45, 115, 105, 110, 99, 101], []),
  ([108, 97, 115, 116, 45, 109, 111, 100, 105, 102, 105, 101, 100], []),
  ([108, 105, 110, 107], []),
  ([108, 111, 99, 97, 116, 105, 111, 110], []),
  ([109, 97, 120, 45, 102, 111, 114, 119, 97, 114, 100, 115], []),
  ([112, 114, 111, 120, 121, 45, 97, 117, 116, 104, 101, 110, 116, 105, 99, 97, 116, 101], []),
  ([112, 114, 111, 120, 121, 45, 97, 117, 116, 104, 111, 114, 105, 122, 97, 116, 105, 111, 110], []),
  ([114, 97, 110, 103, 101], []),
  ([114, 101, 102, 101, 114, 101, 114], []),
  ([114, 101, 102, 114, 101, 115, 104], []),
  ([114, 101, 116, 114, 121, 45, 97, 102, 116, 101, 114], []),
  ([115, 101, 114, 118, 101, 114], []),
  ([115, 101, 116, 45, 99, 111, 111, 107, 105, 101], []),
  ([115, 116, 114, 105, 99, 116, 45, 116, 114, 97, 110, 115, 112, 111, 114, 116, 45, 115, 101, 99, 117, 114, 105, 116, 121], []),
  ([116, 114, 97, 110, 115, 102, 101, 114, 45, 101, 110, 99, 111, 100, 105, 110, 103], []),
  ([117, 115, 101, 114, 45, 97, 103, 101, 110, 116], []),
  ([118, 97, 114, 121], []),
  ([118, 105, 97], []),
  ([119, 119, 119, 45, 97, 117, 116, 104, 101, 110, 116, 105, 99, 97, 116, 101], [])]
/-- Which number a name's newest entry has. -/
def statS : List (Bs × Nat) := static.zipIdx.foldl (fun l e => mput l e.1.1 (e.2 + 1)) []
def statP : List ((Bs × Bs) × Nat) := static.zipIdx.map fun e => (e.1, e.2 + 1)
theorem static_len : static.length = 61 := by decide +kernel
end Go.Proofs.YtmlnmllnlekcgaaDoor.HD
/-
  PLAIN: what a decoder does with a block, representation by representation. No program in sight.
-/
namespace Go.Proofs.YtmlnmllnlekcgaaDoor.HD

/-- The entry of an index. -/
def entAt (ents : List (Bs × Bs)) (i : Nat) : Option (Bs × Bs) :=
  if i = 0 then none else if i ≤ 61 then static[i - 1]? else if i - 61 ≤ ents.length then ents[ents.length - (i - 61)]? else none
def tell (s : St) (f : Fld) : Option Fld := if s.on then some f else none

def pIdx (s : St) (v : Bs) : P1 :=
  match rvi 7 v with
  | .more => .more
  | .over => .bad .coding
  | .ok n rest => match entAt s.ents n with
    | none => .bad (.index n)
    | some e => .ok s.ents s.max (tell s ⟨e.1, e.2, false⟩) rest

/-- A literal whose name and value are known. -/
def pEnd (s : St) (idx sens : Bool) (n v rest : Bs) : P1 :=
  .ok (if idx then evict s.max (s.ents ++ [(n, v)]) else s.ents) s.max (tell s ⟨n, v, sens⟩) rest
/-- A literal behind its name: of an entry, or a text. -/
def pVal (s : St) (idx sens : Bool) (nm : Sum Bs (Bool × Bs)) (v : Bs) : P1 :=
  match rstr v with
  | .more => .more
  | .over => .bad .coding
  | .ok h b rest =>
    if s.on || idx then
      match (match nm with | .inl n => some n | .inr (h, b) => dstr h b) with
      | none => .bad .huff
      | some n => match dstr h b with
        | none => .bad .huff
        | some x => pEnd s idx sens n x rest
    else pEnd s idx sens (match nm with | .inl n => n | .inr _ => []) [] rest
def pLit (s : St) (n : Nat) (idx sens : Bool) (v : Bs) : P1 :=
  match rvi n v with
  | .more => .more
  | .over => .bad .coding
  | .ok i rest =>
    if 0 < i then match entAt s.ents i with
      | none => .bad (.index i)
      | some e => pVal s idx sens (.inl e.1) rest
    else match rstr rest with
      | .more => .more
      | .over => .bad .coding
      | .ok h b rest => pVal s idx sens (.inr (h, b)) rest

/-- One representation. -/
def pRepr (s : St) : Bs → P1
  | [] => .more
  | b :: p =>
    if 128 ≤ b.toNat then pIdx s (b :: p)
    else if 64 ≤ b.toNat then pLit s 6 true false (b :: p)
    else if b.toNat < 16 then pLit s 4 false false (b :: p)
    else if b.toNat < 32 then pLit s 4 false true (b :: p)
    else pUpd s (b :: p)

/-- What a call of Write leaves: the decoder, what was told, what is kept, an error. -/
structure WR where
  st : St
  out : List Fld
  save : Bs
  err : Option Er
def wr : Nat → St → List Fld → Bs → WR
  | 0, s, out, _ => ⟨s, out, [], none⟩
  | _ + 1, s, out, [] => ⟨s, out, [], none⟩
  | n + 1, s, out, v@(_ :: _) =>
    match pRepr s v with
    | .more => ⟨s, out, v, none⟩
    | .bad e => ⟨{ s with first := false }, out, [], some e⟩
    | .ok ents max o rest => wr n { s with ents := ents, max := max, first := false } (out ++ o.toList) rest
def write (s : St) (save p : Bs) : WR := if p = [] then ⟨s, [], save, none⟩ else wr (save ++ p).length s [] (save ++ p)
def close (s : St) (save : Bs) : WR := if save = [] then ⟨{ s with first := true }, [], [], none⟩ else ⟨s, [], [], some .coding⟩

theorem rstr_len {v : Bs} {h : Bool} {b r : Bs} (e : rstr v = .ok h b r) : r.length < v.length := by
  cases v with
  | nil => cases e
  | cons c p =>
    rw [rstr] at e
    split at e
    · cases e
    · cases e
    · rename_i n rest hr
      have := rvi_len hr
      split at e
      · cases e
      · injection e with _ _ e; subst e; simp only [List.length_drop] at *; omega

theorem pVal_len {s : St} {idx sens : Bool} {nm : Sum Bs (Bool × Bs)} {v : Bs} {ents : List (Bs × Bs)} {max : Nat} {o : Option Fld} {r : Bs} (e : pVal s idx sens nm v = .ok ents max o r) : r.length < v.length := by
  unfold pVal at e
  split at e
  · cases e
  · cases e
  · rename_i h b rest hr
    have := rstr_len hr
    split at e
    · split at e
      · cases e
      · split at e
        · cases e
        · unfold pEnd at e; injection e with _ _ _ e; subst e; exact this
    · unfold pEnd at e; injection e with _ _ _ e; subst e; exact this
theorem pLit_len {s : St} {n : Nat} {idx sens : Bool} {v : Bs} {ents : List (Bs × Bs)} {max : Nat} {o : Option Fld} {r : Bs} (e : pLit s n idx sens v = .ok ents max o r) : r.length < v.length := by
  unfold pLit at e
  split at e
  · cases e
  · cases e
  · rename_i i rest hr
    have h1 := rvi_len hr
    split at e
    · split at e
      · cases e
      · have := pVal_len e; omega
    · split at e
      · cases e
      · cases e
      · rename_i hh b rest2 hr2
        have h2 := rstr_len hr2
        have := pVal_len e
        omega
theorem pIdx_len {s : St} {v : Bs} {ents : List (Bs × Bs)} {max : Nat} {o : Option Fld} {r : Bs} (e : pIdx s v = .ok ents max o r) : r.length < v.length := by
  unfold pIdx at e
  split at e
  · cases e
  · cases e
  · rename_i i rest hr
    have h1 := rvi_len hr
    split at e
    · cases e
    · injection e with _ _ _ e; subst e; exact h1
theorem pUpd_len {s : St} {v : Bs} {ents : List (Bs × Bs)} {max : Nat} {o : Option Fld} {r : Bs} (e : pUpd s v = .ok ents max o r) : r.length < v.length := by
  unfold pUpd at e
  split at e
  · cases e
  · split at e
    · cases e
    · cases e
    · rename_i i rest hr
      have h1 := rvi_len hr
      split at e
      · cases e
      · injection e with _ _ _ e; subst e; exact h1
theorem pRepr_len {s : St} {v : Bs} {ents : List (Bs × Bs)} {max : Nat} {o : Option Fld} {r : Bs} (e : pRepr s v = .ok ents max o r) : r.length < v.length := by
  cases v with
  | nil => cases e
  | cons b p =>
    rw [pRepr] at e
    split at e
    · exact pIdx_len e
    · split at e
      · exact pLit_len e
      · split at e
        · exact pLit_len e
        · split at e
          · exact pLit_len e
          · exact pUpd_len e
end Go.Proofs.YtmlnmllnlekcgaaDoor.HD
/-
  parseHeaderFieldRepr: which function reads a representation.
-/
namespace Go.Proofs.YtmlnmllnlekcgaaDoor
open Go.ChangeShapes Go.WideShapes Go.ChangeAt Go.RowKit

theorem and_hi (b : Nat) (h : b < 256) : bits BinOp.and IntKind.u8 (b : Int) 128 = ((b / 128 * 128 : Nat) : Int) ∧ bits BinOp.and IntKind.u8 (b : Int) 192 = ((b / 64 * 64 : Nat) : Int) ∧ bits BinOp.and IntKind.u8 (b : Int) 240 = ((b / 16 * 16 : Nat) : Int) ∧ bits BinOp.and IntKind.u8 (b : Int) 224 = ((b / 32 * 32 : Nat) : Int) := by
  have key : ∀ b : Fin 256, bits BinOp.and IntKind.u8 (b.val : Int) 128 = ((b.val / 128 * 128 : Nat) : Int) ∧ bits BinOp.and IntKind.u8 (b.val : Int) 192 = ((b.val / 64 * 64 : Nat) : Int) ∧ bits BinOp.and IntKind.u8 (b.val : Int) 240 = ((b.val / 16 * 16 : Nat) : Int) ∧ bits BinOp.and IntKind.u8 (b.val : Int) 224 = ((b.val / 32 * 32 : Nat) : Int) := by decide +kernel
  exact key ⟨b, h⟩

/-- What is asked of the ends of a representation: a value comes back. -/
def Back (Q : Ending → World → Prop) : Prop := ∀ e w, Q e w → ∃ v, e = .returned v ∧ v.oneCell' = true

set_option maxHeartbeats 1000000 in
theorem repr_upd (d g o n cap b : Nat) (w : World) (Q : Ending → World → Prop) (c11 : w.cell? ⟨d, 11, none⟩ = some (.slice (some ⟨g, o, none⟩) (n + 1) cap)) (c0 : w.cell? ⟨g, o, none⟩ = some (.int .u8 (b : Nat))) (hb : b < 64) (hb2 : 32 ≤ b)
    (hQ : Back Q) (h : Calls Tryd.prog 57 #[.pointer (some ⟨d, 0, none⟩)] w Q) :
    Calls Tryd.prog 46 #[.pointer (some ⟨d, 0, none⟩)] w Q := by
  obtain ⟨a1, a2, a3, a4⟩ := and_hi b (by omega)
  have e1 : b / 128 * 128 = 0 := by omega
  have e2 : b / 64 * 64 = 0 := by omega
  have e3 : b / 16 * 16 ≠ 0 := by omega
  have e3' : b / 16 * 16 ≠ 16 := by omega
  have e4 : b / 32 * 32 = 32 := by omega
  rw [e1] at a1
  rw [e2] at a2
  rw [e4] at a4
  have f1 : decide (((b / 16 * 16 : Nat) : Int) = 0) = false := by simp; omega
  have f2 : decide (((b / 16 * 16 : Nat) : Int) = 16) = false := by simp; omega
  generalize b / 16 * 16 = x at *
  go_enter Tryd.func46, Tryd.ntmps46
  go_wp2_with fail
  refine h.mono ?_
  intro e w1 hq
  obtain ⟨v, rfl, hv⟩ := hQ e w1 hq
  go_wp2_with fail
  exact hq

set_option maxHeartbeats 1000000 in
theorem repr_idx (d g o n cap b : Nat) (w : World) (Q : Ending → World → Prop) (c11 : w.cell? ⟨d, 11, none⟩ = some (.slice (some ⟨g, o, none⟩) (n + 1) cap)) (c0 : w.cell? ⟨g, o, none⟩ = some (.int .u8 (b : Nat))) (hb : b < 256) (hb2 : 128 ≤ b)
    (hQ : Back Q) (h : Calls Tryd.prog 55 #[.pointer (some ⟨d, 0, none⟩)] w Q) :
    Calls Tryd.prog 46 #[.pointer (some ⟨d, 0, none⟩)] w Q := by
  obtain ⟨a1, a2, a3, a4⟩ := and_hi b (by omega)
  have e1 : b / 128 * 128 = 128 := by omega
  rw [e1] at a1
  clear a2 a3 a4
  go_enter Tryd.func46, Tryd.ntmps46
  go_wp2_with fail
  refine h.mono ?_
  intro e w1 hq
  obtain ⟨v, rfl, hv⟩ := hQ e w1 hq
  go_wp2_with fail
  exact hq

set_option maxHeartbeats 1000000 in
theorem repr_lit6 (d g o n cap b : Nat) (w : World) (Q : Ending → World → Prop) (c11 : w.cell? ⟨d, 11, none⟩ = some (.slice (some ⟨g, o, none⟩) (n + 1) cap)) (c0 : w.cell? ⟨g, o, none⟩ = some (.int .u8 (b : Nat))) (hb : b < 128) (hb2 : 64 ≤ b)
    (hQ : Back Q) (h : Calls Tryd.prog 56 #[.pointer (some ⟨d, 0, none⟩), .int .u8 6, .int .i64 0] w Q) :
    Calls Tryd.prog 46 #[.pointer (some ⟨d, 0, none⟩)] w Q := by
  obtain ⟨a1, a2, a3, a4⟩ := and_hi b (by omega)
  have e1 : b / 128 * 128 = 0 := by omega
  have e2 : b / 64 * 64 = 64 := by omega
  rw [e1] at a1
  rw [e2] at a2
  clear a3 a4
  go_enter Tryd.func46, Tryd.ntmps46
  go_wp2_with fail
  refine h.mono ?_
  intro e w1 hq
  obtain ⟨v, rfl, hv⟩ := hQ e w1 hq
  go_wp2_with fail
  exact hq

set_option maxHeartbeats 1000000 in
theorem repr_lit4 (d g o n cap b : Nat) (w : World) (Q : Ending → World → Prop) (c11 : w.cell? ⟨d, 11, none⟩ = some (.slice (some ⟨g, o, none⟩) (n + 1) cap)) (c0 : w.cell? ⟨g, o, none⟩ = some (.int .u8 (b : Nat))) (hb : b < 16)
    (hQ : Back Q) (h : Calls Tryd.prog 56 #[.pointer (some ⟨d, 0, none⟩), .int .u8 4, .int .i64 1] w Q) :
    Calls Tryd.prog 46 #[.pointer (some ⟨d, 0, none⟩)] w Q := by
  obtain ⟨a1, a2, a3, a4⟩ := and_hi b (by omega)
  have e1 : b / 128 * 128 = 0 := by omega
  have e2 : b / 64 * 64 = 0 := by omega
  have e3 : b / 16 * 16 = 0 := by omega
  rw [e1] at a1
  rw [e2] at a2
  rw [e3] at a3
  clear a4
  go_enter Tryd.func46, Tryd.ntmps46
  go_wp2_with fail
  refine h.mono ?_
  intro e w1 hq
  obtain ⟨v, rfl, hv⟩ := hQ e w1 hq
  go_wp2_with fail
  exact hq

set_option maxHeartbeats 1000000 in
theorem repr_lit4s (d g o n cap b : Nat) (w : World) (Q : Ending → World → Prop) (c11 : w.cell? ⟨d, 11, none⟩ = some (.slice (some ⟨g, o, none⟩) (n + 1) cap)) (c0 : w.cell? ⟨g, o, none⟩ = some (.int .u8 (b : Nat))) (hb : b < 32) (hb2 : 16 ≤ b)
    (hQ : Back Q) (h : Calls Tryd.prog 56 #[.pointer (some ⟨d, 0, none⟩), .int .u8 4, .int .i64 2] w Q) :
    Calls Tryd.prog 46 #[.pointer (some ⟨d, 0, none⟩)] w Q := by
  obtain ⟨a1, a2, a3, a4⟩ := and_hi b (by omega)
  have e1 : b / 128 * 128 = 0 := by omega
  have e2 : b / 64 * 64 = 0 := by omega
  have e3 : b / 16 * 16 = 16 := by omega
  rw [e1] at a1
  rw [e2] at a2
  rw [e3] at a3
  clear a4
  go_enter Tryd.func46, Tryd.ntmps46
  go_wp2_with fail
  refine h.mono ?_
  intro e w1 hq
  obtain ⟨v, rfl, hv⟩ := hQ e w1 hq
  go_wp2_with fail
  exact hq

end Go.Proofs.YtmlnmllnlekcgaaDoor
/-
  A decoder that is in use: its table, its emitter; what a representation leaves; what else is kept.
-/
namespace Go.Proofs.YtmlnmllnlekcgaaDoor
open Go.ChangeShapes Go.WideShapes Go.ChangeAt Go.RowKit

/-- Blocks of F may have changed, and blocks of bytes that are not older than B. -/
structure Kept (B : Nat) (F : Nat → Prop) (w w' : World) : Prop where
  below : Below B w w'
  block : ∀ k, k < w.heap.size → ¬ F k → ¬ IsU8 w k → w'.heap[k]? = w.heap[k]?
theorem IsU8.of_heap {w w' : World} {g : Nat} (h : IsU8 w g) (e : w'.heap[g]? = w.heap[g]?) : IsU8 w' g := by
  obtain ⟨cs, fz, h⟩ := h
  exact ⟨cs, fz, e.trans h⟩
theorem IsU8.lt {w : World} {g : Nat} (h : IsU8 w g) : g < w.heap.size := by
  obtain ⟨cs, fz, h⟩ := h
  exact (Array.getElem?_eq_some_iff.1 h).1
namespace Kept
variable {B : Nat} {F G : Nat → Prop} {w w1 w2 : World}
theorem refl (B : Nat) (F : Nat → Prop) (w : World) : Kept B F w w := ⟨Below.refl B w, fun _ _ _ _ => rfl⟩
theorem trans (h : Kept B F w w1) (k : Kept B G w1 w2) (hG : ∀ i, i < w.heap.size → G i → F i) : Kept B F w w2 :=
  ⟨h.below.trans k.below, fun i hi hn hu => by
    have e := h.block i hi hn hu
    exact (k.block i (Nat.lt_of_lt_of_le hi h.below.size) (fun hg => hn (hG i hi hg)) (fun hu' => hu (hu'.of_heap e.symm))).trans e⟩
theorem step (h : Kept B F w w1) (k : Kept B F w1 w2) : Kept B F w w2 := h.trans k fun _ _ h => h
theorem mono (h : Kept B F w w1) (hG : ∀ i, F i → G i) : Kept B G w w1 := ⟨h.below, fun i hi hn => h.block i hi fun hf => hn (hG i hf)⟩
theorem of_upd (h : Upd F w w1) (hB : B ≤ w.heap.size) (hF : ∀ k, F k → B ≤ k) : Kept B F w w1 := ⟨h.below hB hF, fun i hi hn _ => h.block i hi hn⟩
theorem of_below (h : Below w.heap.size w w1) (hB : B ≤ w.heap.size) : Kept B F w w1 := ⟨h.mono hB, fun i hi _ _ => h.block i hi⟩
theorem of_same (h : w1.heap = w.heap) (h1 : w1.os = w.os) (h2 : w1.tape = w.tape) (h3 : w1.output = w.output) : Kept B F w w1 := ⟨⟨h1, h2, h3, by rw [h]; exact Nat.le_refl _, fun _ _ => by rw [h]⟩, fun _ _ _ _ => by rw [h]⟩
end Kept

/-- Whom a decoder tells its fields: the value of the function; what was told; the blocks that are its own. -/
structure Emitter where
  val : Value
  holds : World → List HD.Fld → (Nat → Prop) → Prop
  frame : ∀ {w w' : World} {l : List HD.Fld} {E : Nat → Prop}, holds w l E → (∀ k, E k → w'.heap[k]? = w.heap[k]?) → holds w' l E
  lt : ∀ {w : World} {l : List HD.Fld} {E : Nat → Prop} {k : Nat}, holds w l E → E k → k < w.heap.size
  kind : ∀ {w : World} {l : List HD.Fld} {E : Nat → Prop} {k : Nat}, holds w l E → E k → ¬ IsU8 w k

/-- Where a decoder's parts lie. -/
structure DP where
  f : Nat → Value
  cnt : Nat
  ev : Value
  m1 : Nat
  m2 : Nat
  l1 : List (HD.Bs × Nat)
  l2 : List ((HD.Bs × HD.Bs) × Nat)
  E : Nat → Prop
/-- The blocks of a decoder and of its emitter. -/
def DP.own (d : Nat) (p : DP) (k : Nat) : Prop := tabOwn d p.ev p.m1 p.m2 k ∨ p.E k

/-- The numbers of a decoder's table stay small. -/
structure SOK (s : HD.St) : Prop where
  size : HD.tsize s.ents ≤ s.max
  max : s.max ≤ 2 ^ 31
  allowed : s.allowed ≤ 2 ^ 31
  short : ∀ e ∈ s.ents, e.1.length ≤ 2 ^ 27 ∧ e.2.length ≤ 2 ^ 27

theorem tsize_ge (l : List (HD.Bs × HD.Bs)) : 32 * l.length ≤ HD.tsize l := by
  induction l with
  | nil => simp [HD.tsize]
  | cons e l ih => rw [HD.tsize_cons]; simp only [List.length_cons, HD.esize]; omega
theorem SOK.small {s : HD.St} (h : SOK s) {cnt : Nat} (hc : cnt + s.ents.length + 1 < 2 ^ 62) : Small s cnt := by
  have h1 := tsize_ge s.ents
  have h2 := h.size
  have h3 := h.max
  have h4 := h.allowed
  exact ⟨hc, by omega, by omega, by omega, by omega⟩
theorem SOK.resize {s : HD.St} (h : SOK s) {n : Nat} (hn : n ≤ 2 ^ 31) : SOK { s with ents := HD.evict n s.ents, max := n } := by
  refine ⟨HD.evict_le n s.ents, hn, h.allowed, fun e he => h.short e ?_⟩
  obtain ⟨k, -, hk⟩ := HD.evict_drop n s.ents
  have he' : e ∈ HD.evict n s.ents := he
  rw [hk] at he'
  exact List.mem_of_mem_drop he'

structure Live (B : Nat) (w : World) (d : Nat) (M : Emitter) (s : HD.St) (l : List HD.Fld) (p : DP) : Prop where
  mem : DecMem B w d p.f s p.cnt p.ev p.m1 p.m2 p.l1 p.l2
  em : M.holds w l p.E
  emB : ∀ k, p.E k → B ≤ k
  emv : p.f 8 = M.val
  apart : ∀ k, tabOwn d p.ev p.m1 p.m2 k → ¬ p.E k
  ok : SOK s
namespace Live
variable {B : Nat} {w w' : World} {d : Nat} {M : Emitter} {s : HD.St} {l : List HD.Fld} {p : DP}
theorem row (h : Live B w d M s l p) : Row w d 16 p.f := h.mem.tab.row
theorem lt (h : Live B w d M s l p) : d < w.heap.size := h.row.lt
theorem ge (h : Live B w d M s l p) {k : Nat} (hk : p.own d k) : B ≤ k := hk.elim h.mem.tab.own_ge (h.emB k)
theorem own_lt (h : Live B w d M s l p) {k : Nat} (hk : p.own d k) : k < w.heap.size := hk.elim h.mem.tab.own_lt (h.em |> fun e hk => M.lt e hk)
theorem kind (h : Live B w d M s l p) {k : Nat} (hu : IsU8 w k) : ¬ p.own d k := fun hk => hk.elim (not_own_u8 h.mem.tab hu) fun he => M.kind h.em he hu
theorem lo (h : Live B w d M s l p) : B ≤ w.heap.size := Nat.le_trans h.mem.tab.lo.1 (Nat.le_of_lt h.lt)
theorem dE (h : Live B w d M s l p) : ¬ p.E d := h.apart d (Or.inl rfl)
theorem frame (h : Live B w d M s l p) (hk : ∀ k, p.own d k → w'.heap[k]? = w.heap[k]?) : Live B w' d M s l p :=
  ⟨⟨h.mem.tab.frame fun k hk' => hk k (Or.inl hk'), h.mem.sized, h.mem.allowed, h.mem.on, h.mem.most, h.mem.first⟩, M.frame h.em fun k hk' => hk k (Or.inr hk'), h.emB, h.emv, h.apart, h.ok⟩
theorem below (h : Live B w d M s l p) (hb : Below w.heap.size w w') : Live B w' d M s l p := h.frame fun k hk => hb.block k (h.own_lt hk)
/-- Cells of the decoder's struct behind the table have changed. -/
theorem put (h : Live B w d M s l p) {f' : Nat → Value} {b : Bool} (hr : Row w' d 16 f') (hf : ∀ i, i < 11 → f' i = p.f i) (h15 : f' 15 = .bool b) (ho : ∀ k, k ≠ d → p.own d k → w'.heap[k]? = w.heap[k]?) : Live B w' d M { s with first := b } l { p with f := f' } := by
  have hT := h.mem.tab
  refine ⟨⟨⟨hr, hT.big, (hf 0 (by decide)).trans hT.c0, (hf 1 (by decide)).trans hT.c1, (hf 2 (by decide)).trans hT.c2, (hf 3 (by decide)).trans hT.c3, (hf 4 (by decide)).trans hT.c4,
    ownsRow_of_heap hT.own fun g hg => ho g (fun e => hT.ne (by rw [hg, e])) (Or.inl (Or.inr (Or.inl hg))), hT.ne, hT.mm, hT.lo, hT.map1.of_heap (ho _ (fun e => hT.b_m1 e.symm) (Or.inl (Or.inr (Or.inr (Or.inl rfl))))), hT.map2.of_heap (ho _ (fun e => hT.b_m2 e.symm) (Or.inl (Or.inr (Or.inr (Or.inr rfl)))))⟩,
    ⟨(hf 5 (by decide)).trans h.mem.sized.size, (hf 6 (by decide)).trans h.mem.sized.max⟩, (hf 7 (by decide)).trans h.mem.allowed, (hf 9 (by decide)).trans h.mem.on, (hf 10 (by decide)).trans h.mem.most, h15⟩, ?_, h.emB, (hf 8 (by decide)).trans h.emv, h.apart, ⟨h.ok.size, h.ok.max, h.ok.allowed, h.ok.short⟩⟩
  exact M.frame h.em fun k hk => ho k (fun e => h.dE (e ▸ hk)) (Or.inr hk)
end Live

/-- The package's variables that decoding reads. What is known of the tables, of ErrInvalidHuffman and of ErrStringLength is known if aL and aN are two places: a statement that leaves them open takes aN for all three. -/
structure EnvO (B : Nat) (w : World) (aI aN aL : Addr) : Prop where
  len : aL ≠ aN → LenTab w
  code : aL ≠ aN → CodeTab w
  eI : aL ≠ aN → w.cell? ⟨3, 0, none⟩ = some (.iface 111 (.pointer (some aI)))
  eN : w.cell? ⟨1, 0, none⟩ = some (.iface 111 (.pointer (some aN)))
  eL : aL ≠ aN → w.cell? ⟨2, 0, none⟩ = some (.iface 111 (.pointer (some aL)))
  fI : aL ≠ aN → Fresh 0 w aI
  fN : aL ≠ aN → Fresh 0 w aN
  fL : aL ≠ aN → Fresh 0 w aL
  ne : aL ≠ aN → aI ≠ aN
  bI : aI.block < B
  bN : aN.block < B
  bL : aL.block < B
  g1 : aL ≠ aN → 6 < B
  g2 : aL ≠ aN → 5 < B
  g3 : aL ≠ aN → 3 < B
  g4 : 1 < B
  g5 : aL ≠ aN → 2 < B
theorem EnvO.below {B : Nat} {w w' : World} {aI aN aL : Addr} (h : EnvO B w aI aN aL) (hb : Below B w w') : EnvO B w' aI aN aL :=
  ⟨fun t => (h.len t).below hb (h.g1 t), fun t => (h.code t).below hb (h.g2 t), fun t => (hb.cell (p := ⟨3, 0, none⟩) (h.g3 t)).trans (h.eI t), (hb.cell (p := ⟨1, 0, none⟩) h.g4).trans h.eN, fun t => (hb.cell (p := ⟨2, 0, none⟩) (h.g5 t)).trans (h.eL t),
    fun t => (h.fI t).of_heap (hb.block _ h.bI), fun t => (h.fN t).of_heap (hb.block _ h.bN), fun t => (h.fL t).of_heap (hb.block _ h.bL), h.ne, h.bI, h.bN, h.bL, h.g1, h.g2, h.g3, h.g4, h.g5⟩
/-- All of them are known. -/
def Env (B : Nat) (w : World) (aI aN aL : Addr) : Prop := EnvO B w aI aN aL ∧ aL ≠ aN
theorem EnvO.mono {B B' : Nat} {w : World} {aI aN aL : Addr} (h : EnvO B w aI aN aL) (hB : B ≤ B') : EnvO B' w aI aN aL :=
  ⟨h.len, h.code, h.eI, h.eN, h.eL, h.fI, h.fN, h.fL, h.ne, Nat.lt_of_lt_of_le h.bI hB, Nat.lt_of_lt_of_le h.bN hB, Nat.lt_of_lt_of_le h.bL hB, fun t => Nat.lt_of_lt_of_le (h.g1 t) hB, fun t => Nat.lt_of_lt_of_le (h.g2 t) hB, fun t => Nat.lt_of_lt_of_le (h.g3 t) hB, Nat.lt_of_lt_of_le h.g4 hB, fun t => Nat.lt_of_lt_of_le (h.g5 t) hB⟩
theorem Env.mono {B B' : Nat} {w : World} {aI aN aL : Addr} (h : Env B w aI aN aL) (hB : B ≤ B') : Env B' w aI aN aL := ⟨h.1.mono hB, h.2⟩
theorem Env.below {B : Nat} {w w' : World} {aI aN aL : Addr} (h : Env B w aI aN aL) (hb : Below B w w') : Env B w' aI aN aL := ⟨h.1.below hb, h.2⟩
/-- Of an error that is told: all is known, or it is that of an index. -/
def ErKnown (aN aL : Addr) (o : Option HD.Er) : Prop := aL ≠ aN ∨ ∀ e, o = some e → ∃ i, e = .index i

/-- How a representation ends. -/
def REnds (B : Nat) (w : World) (d g : Nat) (M : Emitter) (s : HD.St) (l : List HD.Fld) (p : DP) (aI aN : Addr) : HD.P1 → Ending → World → Prop
  | .more, e, w' => e = .returned (.iface 111 (.pointer (some aN))) ∧ Below w.heap.size w w'
  | .bad er, e, w' => (∃ x, e = .returned x ∧ ErrV w.heap.size w' aI er x) ∧ Below w.heap.size w w'
  | .ok ents max o rest, e, w' => e = .returned .nilIface ∧ ∃ (p' : DP) (o' cap' : Nat), Live B w' d M { s with ents := ents, max := max } (l ++ o.toList) p' ∧ (∀ k, p'.own d k → p.own d k ∨ w.heap.size ≤ k) ∧ (∀ i, 9 ≤ i → i ≠ 11 → p'.f i = p.f i) ∧
      p'.f 11 = .slice (some ⟨g, o', none⟩) rest.length cap' ∧ Buf w' g o' cap' rest ∧ Upd (p.own d) w w' ∧ p'.cnt + ents.length ≤ p.cnt + s.ents.length + 1

theorem REnds.back {B : Nat} {w : World} {d g : Nat} {M : Emitter} {s : HD.St} {l : List HD.Fld} {p : DP} {aI aN : Addr} {r : HD.P1} : Back (REnds B w d g M s l p aI aN r) := by
  intro e w' h
  cases r with
  | more => exact ⟨_, h.1, rfl⟩
  | bad er =>
    obtain ⟨⟨x, rfl, hx⟩, -⟩ := h
    refine ⟨x, rfl, ?_⟩
    cases er with
    | huff => rw [show x = _ from hx]; rfl
    | coding => obtain ⟨a, rfl, -⟩ := hx; rfl
    | index i => rw [show x = _ from hx]; rfl
  | ok => exact ⟨_, h.1, rfl⟩

/-- A size update. -/
theorem reprUpd_any (B : Nat) (w : World) (d g o cap : Nat) (M : Emitter) (s : HD.St) (l : List HD.Fld) (p : DP) (aI aN aL : Addr) (b : UInt8) (v : HD.Bs)
    (hL : Live B w d M s l p) (hE : EnvO B w aI aN aL) (hb : Buf w g o cap (b :: v)) (hg : IsU8 w g) (h11 : p.f 11 = .slice (some ⟨g, o, none⟩) (b :: v).length cap) (hc : p.cnt + s.ents.length + 1 < 2 ^ 62) (h1 : b.toNat < 64) (h2 : 32 ≤ b.toNat) :
    Calls Tryd.prog 46 #[.pointer (some ⟨d, 0, none⟩)] w (REnds B w d g M s l p aI aN (HD.pRepr s (b :: v))) := by
  have hP : HD.pRepr s (b :: v) = HD.pUpd s (b :: v) := by
    rw [HD.pRepr, if_neg (by omega), if_neg (by omega), if_neg (by omega), if_neg (by omega)]
  have c11 := hL.row.cell' (i := 11) (by decide) h11
  refine repr_upd d g o v.length cap b.toNat w _ c11 hb.head h1 h2 REnds.back ?_
  refine (pUpd_any B w d p.f s p.cnt p.ev p.m1 p.m2 p.l1 p.l2 g o cap (b :: v) aI aN hL.mem (hL.ok.small hc) hb hg h11 hE.eN).mono ?_
  intro e w' h
  rw [hP]
  cases hr : HD.pUpd s (b :: v) with
  | more => rw [hr] at h; exact h
  | bad er => rw [hr] at h; exact h
  | ok ents max o1 rest =>
    rw [hr] at h
    obtain ⟨rfl, q, ev', f', o', cap', l1', l2', hq, hlen, hM, hev, hf, h11', hb', hu⟩ := h
    have ho : o1 = none ∧ ∃ n, n ≤ s.allowed ∧ ents = HD.evict n s.ents ∧ max = n := by
      unfold HD.pUpd at hr
      split at hr
      · cases hr
      · split at hr
        · cases hr
        · cases hr
        · rename_i n r _
          split at hr
          · cases hr
          · injection hr with e1 e2 e3 e4
            exact ⟨e3.symm, n, by omega, e1.symm, e2.symm⟩
    obtain ⟨rfl, n, hn, rfl, rfl⟩ := ho
    have hown : ∀ k, tabOwn d ev' p.m1 p.m2 k → tabOwn d p.ev p.m1 p.m2 k := fun k hk => by
      unfold tabOwn at *
      rw [hev] at hk
      exact hk
    refine ⟨rfl, ⟨f', p.cnt + q, ev', p.m1, p.m2, l1', l2', p.E⟩, o', cap', ⟨hM, ?_, hL.emB, (hf 8 (by decide) (by decide)).trans hL.emv, fun k hk => hL.apart k (hown k hk), hL.ok.resize (Nat.le_trans hn hL.ok.allowed)⟩,
      fun k hk => Or.inl (hk.imp (hown k) id), fun i hi h => hf i (by omega) h, h11', hb', hu.mono fun k hk => Or.inl hk, ?_⟩
    · show M.holds w' (l ++ []) p.E
      rw [List.append_nil]
      exact M.frame hL.em fun k hk => hu.block k (M.lt hL.em hk) (fun h => hL.apart k h hk)
    · show p.cnt + q + (HD.evict max s.ents).length ≤ _
      omega
end Go.Proofs.YtmlnmllnlekcgaaDoor
