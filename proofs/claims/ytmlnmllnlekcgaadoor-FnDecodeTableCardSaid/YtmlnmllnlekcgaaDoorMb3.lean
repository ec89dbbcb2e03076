/-
  Texts of this seat, one behind the other: TabAdd, TabAdd2, AppNil, Tree, Buf, DecLaw. What each one shows stands at its head. No condition.
-/
import Derived.Test.YtmlnmllnlekcgaaDoorMb2
import Derived.Deep.DeepMust
import Derived.OneCell
import Derived.Laws.AppendOwnNone
import Derived.Deep.Cut
import Derived.Shelf.Bytes.WriteByteKept
import Derived.Shelf.Bytes.String
import Derived.Shelf.Bytes.Bytes
import Derived.Shelf.Bytes.Reset
import Derived.BigCall
/-
  Contracts of addEntry and add.
-/
namespace Go.Proofs.YtmlnmllnlekcgaaDoor
open Go.ChangeShapes Go.WideShapes Go.ChangeAt Go.RowKit

def zeroHF : Value := .agg #[.string ByteArray.empty, .string ByteArray.empty, .bool false]
theorem infoHFs : (Tryd.prog.info? 54).map (fun i => (i.zero, i.size, i.bytes)) = some (some zeroHF, 3, 40) := by kernel_rfl

theorem step_append_own_at {P : Program} {w : World} {ops : Array Oper} {o : Oper} {a : Act} {K : Act → World → Prop} {Q : Exit → Act → World → Prop} {E : Prop} (hgd : o.guard = none) (d : Nat) (hdst : o.dst = some d) (s x : Operand) (t : TypeId)
    (ho : o.op = .call { callee := .builtin .append, args := #[s, x], argTypes := #[t, t] })
    (base : Nat) (e : TypeId) (i : TypeInfo) (z : Value) (size bytes : Nat) (ht : P.underlying t = some (.slice e)) (hi : P.info? e = some i) (hz : i.zero = some z)
    (hsize : i.size = size) (hby : i.bytes = bytes) (hzs : z.cells.size = size) (hsz : 0 < size)
    (v : Value) (n : Nat) (xs : List Value) (hs : a.eval s = v) (hown : w.ownsRow base e size v n xs)
    (ad : Addr) (m c : Nat) (news : List Value) (hx : a.eval x = .slice (some ad) m c) (hl : news.length = m * size) (hnews : ∀ j u, news[j]? = some u → w.cell? (ad.add j) = some u) (h1 : ∀ u ∈ news, u.oneCell' = true)
    (h63 : n + m ≤ maxLen) (hbytes : (n + m) * bytes ≤ 140737488355328) (hbase : base ≤ w.heap.size)
    (h : ∀ v' w', w'.ownsRow base e size v' (n + m) (xs ++ news) → w.grownBy w' v.ownBlock → (v' = .slice none 0 0 ↔ v = .slice none 0 0 ∧ m = 0) → (v'.ownBlock = v.ownBlock ∨ v'.ownBlock = some w.heap.size) → K { a with tmps := a.tmps.setIfInBounds d v' } w') :
    if Region.wanted o (yielded ops a.tmps) = true then Oper.wp P o a w K Q else E := by
  rw [if_pos (by simp [Region.wanted, hgd])]
  obtain ⟨v', w', hr, h2, h3, h4, h5⟩ := run_append_own_at (P := P) w base t o.type e i z size bytes ht hi hz hsize hby hzs hsz v n xs hown ad m c news hl hnews h1 h63 hbytes hbase
  unfold Oper.wp execOp
  simp only [ho, resolve, invoke, builtin, Sem.run_bind, Sem.run_pure, Result.andThen_ok, List.map_toArray, List.map_cons, List.map_nil, hs, hx, hr]
  have h' := h v' w' h2 h3 h4 h5
  show K (a.put o.dst v') w'
  rw [hdst]
  exact h'

theorem add_end {B : Nat} {w2 w3 : World} {b n : Nat} {f : Nat → Value} {ents : List (HD.Bs × HD.Bs)} {cnt : Nat} {ev v3 u : Value} {m1 m2 : Nat} {l1 : List (HD.Bs × Nat)} {l2 : List ((HD.Bs × HD.Bs) × Nat)} {es : HD.Bs × HD.Bs} {o : Obj}
    (h : TabMem B w2 b n f ents cnt ev m1 m2 l1 l2) (hu : ev = u) (hg : (w2.alloc o).grownBy w3 u.ownBlock) (hown : w3.ownsRow B 54 3 v3 (ents.length + 1) (entCells ents ++ eCells es)) (hat : v3.ownBlock = u.ownBlock ∨ v3.ownBlock = some (w2.alloc o).heap.size) :
    TabMem B (w3.setCell ⟨b, 1, none⟩ v3) b n (putF f 1 v3) (ents ++ [es]) cnt v3 m1 m2 l1 l2 ∧ Upd (tabOwn b ev m1 m2) w2 (w3.setCell ⟨b, 1, none⟩ v3) ∧ (v3.ownBlock = ev.ownBlock ∨ ∃ g, v3.ownBlock = some g ∧ w2.heap.size ≤ g) := by
  subst hu
  have hsz : (w2.alloc o).heap.size = w2.heap.size + 1 := by simp
  have hold : ∀ i, i < w2.heap.size → ev.ownBlock ≠ some i → w3.heap[i]? = w2.heap[i]? := fun i hi hn => (hg.block i (by omega) (fun e => hn e.symm)).trans (Below.heap_alloc w2 o i hi)
  have hv3 : v3.ownBlock = ev.ownBlock ∨ ∃ g, v3.ownBlock = some g ∧ w2.heap.size ≤ g := hat.imp id fun e => ⟨_, e, by omega⟩
  have hne : v3.ownBlock ≠ some b := by
    rcases hv3 with e | ⟨g, e, hle⟩
    · rw [e]; exact h.ne
    · rw [e]; intro e2; have := Option.some.inj e2; have := h.row.lt; omega
  have hr : Row w3 b n f := h.row.of_heap (hold b h.row.lt h.ne)
  refine ⟨⟨hr.set 1 v3, h.big, by simp [putF, h.c0], by simp [putF], by simp [putF, h.c2], by simp [putF, h.c3], by simp [putF, h.c4], ?_, hne, h.mm, h.lo, ?_, ?_⟩, ?_, hv3⟩
  · rw [List.length_append, List.length_singleton, entCells_append]
    have e : entCells [es] = eCells es := by simp [entCells]
    rw [e]
    exact ownsRow_setCell_other hown (a := ⟨b, 1, none⟩) hne v3
  · exact h.map1.of_heap ((other_set h.b_m1).trans (hold m1 h.map1.lt h.ev_m1))
  · exact h.map2.of_heap ((other_set h.b_m2).trans (hold m2 h.map2.lt h.ev_m2))
  · have h0 : Upd (tabOwn b ev m1 m2) w2 w3 := ⟨hg.os, hg.tape, hg.output, by have := hg.size; omega, fun k hk hn => hold k hk (fun e => hn (Or.inr (Or.inl e)))⟩
    exact h0.setCell (Or.inl (Or.inl rfl)) _

set_option maxHeartbeats 4000000 in
set_option maxRecDepth 100000 in
theorem addEntry_any (B : Nat) (w : World) (b n : Nat) (f : Nat → Value) (ents : List (HD.Bs × HD.Bs)) (cnt : Nat) (ev : Value) (m1 m2 : Nat) (l1 : List (HD.Bs × Nat)) (l2 : List ((HD.Bs × HD.Bs) × Nat)) (es : HD.Bs × HD.Bs)
    (hT : TabMem B w b n f ents cnt ev m1 m2 l1 l2) (hB : B ≤ w.heap.size) (hc : cnt + ents.length < 2 ^ 62) (hlen : ents.length ≤ 2 ^ 40) :
    Calls Tryd.prog 73 #[.pointer (some ⟨b, 0, none⟩), .agg #[.string ⟨es.1.toArray⟩, .string ⟨es.2.toArray⟩, .bool false]] w fun e w' => e = .returned (.tuple #[]) ∧
      ∃ (ev' : Value), (ev'.ownBlock = ev.ownBlock ∨ ∃ g, ev'.ownBlock = some g ∧ w.heap.size ≤ g) ∧
        TabMem B w' b n (putF f 1 ev') (ents ++ [es]) cnt ev' m1 m2 (mput l1 es.1 (ents.length + cnt + 1)) (mput l2 es (ents.length + cnt + 1)) ∧ Upd (tabOwn b ev m1 m2) w w' := by
  have hbig := hT.big
  obtain ⟨a, cap, hev⟩ := own_form hT.own
  have c1 := hT.row.cell' (i := 1) (v := .slice a ents.length cap) (by omega) (by rw [hT.c1, hev])
  have c2 := hT.row.cell' (i := 2) (by omega) hT.c2
  have c3 := hT.row.cell' (i := 3) (by omega) hT.c3
  have hbl := hT.row.lt
  obtain ⟨idn, hid⟩ : ∃ idn, idn = ents.length + cnt + 1 := ⟨_, rfl⟩
  have hw1 : IntKind.u64.wrap (ents.length : Int) = (ents.length : Int) := by simp only [IntKind.wrap, IntKind.bits, IntKind.signed]; simp; omega
  have hw2 : IntKind.u64.wrap ((ents.length : Int) + (cnt : Int)) = (ents.length : Int) + (cnt : Int) := by simp only [IntKind.wrap, IntKind.bits, IntKind.signed]; simp; omega
  have hw3 : IntKind.u64.wrap ((ents.length : Int) + (cnt : Int) + 1) = (idn : Int) := by simp only [IntKind.wrap, IntKind.bits, IntKind.signed]; simp; omega
  have HTW := Lib.hid (hT.alloc (.cells #[.string ⟨es.1.toArray⟩, .string ⟨es.2.toArray⟩, .bool false] 54))
  have HUW : Hid (Upd (tabOwn b ev m1 m2) w (w.alloc (.cells #[.string ⟨es.1.toArray⟩, .string ⟨es.2.toArray⟩, .bool false] 54))) := (Upd.refl _ w).alloc _
  have hc1w := HTW.out.row.cell' (i := 1) (v := .slice a ents.length cap) (by omega) (by rw [HTW.out.c1, hev])
  have Hc1w := Lib.hid hc1w
  have Hm1 := Lib.hid hT.map1.lt
  have Hm2 := Lib.hid hT.map2.lt
  have Hbl0 := Lib.hid hbl
  have Hown0 := Lib.hid hT.own
  have Hev := Lib.hid hev
  have Hid' := Lib.hid hid
  rw [← hid]
  clear hT hev hid hc1w
  go_enter Tryd.func73, Tryd.ntmps73
  go_wp2_with fail
  go_quiet ((go_at_call 50; exact Calls.quiet_of_same (len_same b _ _ _ _ (by exact Hc1w.out))))
  go_wp2_with fail
  refine stillTail 7 (by kernel_rfl) (by kernel_rfl) ?_
  simp only [List.take_succ_cons, List.take_zero, List.drop_succ_cons, List.drop_zero]
  repeat (refine wpStill_step (fun K hK => ?_); go_simp; (refine hK _ ?_; clear hK K))
  refine wpStill_nil ?_
  refine wpList_mput (key_string Tryd.underlying9) Tryd.underlying66 (b := m1) (l := l1) (by exact HTW.out.map1) es.1 idn rfl (.tmp 17) (.tmp 19) (.tmp 20) rfl rfl rfl rfl ?_
  intro w1 hm1 hg1 hz1
  have HT1 := Lib.hid (TabMem.put1 HTW.out hm1 ⟨hg1.os, hg1.tape, hg1.output, hg1.size, hg1.block⟩)
  have HU1 := Lib.hid (Upd.step HUW.out ⟨hg1.os, hg1.tape, hg1.output, hg1.size, fun i hi hn => hg1.block i hi (fun e => hn (Or.inr (Or.inr (Or.inl (Option.some.inj e)))))⟩)
  have hbx := (hg1.block w.heap.size (by show _ < (w.alloc _).heap.size; simp) (fun e => by have := Hm1.out; have := Option.some.inj e; omega)).trans (heap_alloc_new w (.cells #[.string ⟨es.1.toArray⟩, .string ⟨es.2.toArray⟩, .bool false] 54))
  have b0 := Lib.cell_of_heap hbx 0
  have b1 := Lib.cell_of_heap hbx 1
  have b2 := Lib.cell_of_heap hbx 2
  rw [show ((#[Value.string ⟨es.1.toArray⟩, .string ⟨es.2.toArray⟩, .bool false] : Array Value))[0]? = some (.string ⟨es.1.toArray⟩) from rfl] at b0
  rw [show ((#[Value.string ⟨es.1.toArray⟩, .string ⟨es.2.toArray⟩, .bool false] : Array Value))[1]? = some (.string ⟨es.2.toArray⟩) from rfl] at b1
  rw [show ((#[Value.string ⟨es.1.toArray⟩, .string ⟨es.2.toArray⟩, .bool false] : Array Value))[2]? = some (.bool false) from rfl] at b2
  have Hbx := Lib.hid hbx
  have d4 := HT1.out.row.cell' (i := 4) (by omega) HT1.out.c4
  have hbl1 := HT1.out.row.lt
  clear c1 c2 c3 hbl hw1 hw2 hw3 hm1 hg1 hz1 hbx HTW HUW
  go_wp2_with fail
  refine stillTail 10 (by kernel_rfl) (by kernel_rfl) ?_
  simp only [List.take_succ_cons, List.take_zero, List.drop_succ_cons, List.drop_zero]
  repeat (refine wpStill_step (fun K hK => ?_); go_simp; (refine hK _ ?_; clear hK K))
  refine wpStill_nil ?_
  refine wpList_mput key_pair Tryd.underlying67 (b := m2) (l := l2) (by exact HT1.out.map2) es idn rfl (.tmp 24) (.tmp 29) (.tmp 30) rfl rfl rfl rfl ?_
  intro w2 hm2 hg2 hz2
  have HT2 := Lib.hid (TabMem.put2 HT1.out hm2 ⟨hg2.os, hg2.tape, hg2.output, hg2.size, hg2.block⟩)
  have HU2 := Lib.hid (Upd.step HU1.out ⟨hg2.os, hg2.tape, hg2.output, hg2.size, fun i hi hn => hg2.block i hi (fun e => hn (Or.inr (Or.inr (Or.inr (Option.some.inj e)))))⟩)
  have hbx := (hg2.block w.heap.size (by exact Lib.lt_of_heap Hbx.out) (fun e => by have := Hm2.out; have := Option.some.inj e; omega)).trans Hbx.out
  have Hbx2 := Lib.hid hbx
  have hz2' : w.heap.size ≤ w2.heap.size := Nat.le_of_lt (Lib.lt_of_heap hbx)
  clear b0 b1 b2
  have b0 := Lib.cell_of_heap hbx 0
  have b1 := Lib.cell_of_heap hbx 1
  have b2 := Lib.cell_of_heap hbx 2
  rw [show ((#[Value.string ⟨es.1.toArray⟩, .string ⟨es.2.toArray⟩, .bool false] : Array Value))[0]? = some (.string ⟨es.1.toArray⟩) from rfl] at b0
  rw [show ((#[Value.string ⟨es.1.toArray⟩, .string ⟨es.2.toArray⟩, .bool false] : Array Value))[1]? = some (.string ⟨es.2.toArray⟩) from rfl] at b1
  rw [show ((#[Value.string ⟨es.1.toArray⟩, .string ⟨es.2.toArray⟩, .bool false] : Array Value))[2]? = some (.bool false) from rfl] at b2
  have e1 := HT2.out.row.cell' (i := 1) (v := .slice a ents.length cap) (by omega) (by rw [HT2.out.c1, Hev.out])
  have hf1 := fun i => HT2.out.row.unfrozen i none
  have hbl2 := HT2.out.row.lt
  clear d4 hbl1 hm2 hg2 hz2 hbx HT1 HU1
  obtain ⟨i0, hi, hz0, hz1, hzb⟩ := info_parts infoHFs
  go_wp2_with fail
  have hown2 := (HT2.out.alloc (.cells #[.string ⟨es.1.toArray⟩, .string ⟨es.2.toArray⟩, .bool false] 54)).own
  rw [Hev.out] at hown2
  have Hown2 := Lib.hid hown2
  have HN := Lib.hid (news_of_new w2 (eCells es) 54)
  have h1c : ∀ u ∈ eCells es, u.oneCell' = true := fun u hu => by
    simp [eCells] at hu
    rcases hu with rfl | rfl | rfl <;> rfl
  have H1c := Lib.hid h1c
  have hne := HT2.out.ne
  rw [Hev.out] at hne
  have Hne := Lib.hid hne
  clear hown2 h1c hne
  have Hbl2 := Lib.hid (Lib.lt_of_heap Hbx2.out)
  have Hbw := Lib.hid (show b ≠ w.heap.size by have := Hbl0.out; omega)
  have Hbn : Hid ((Value.slice a ents.length cap).ownBlock ≠ some w.heap.size) := by
    intro e
    have := (Hown0.out.lt _ (by rw [Hev.out]; exact e)).2
    omega
  have hS0 : w2.cell? ⟨w.heap.size, 0, none⟩ = some (.string ⟨es.1.toArray⟩) ∧ w2.cell? ⟨w.heap.size, 1, none⟩ = some (.string ⟨es.2.toArray⟩) ∧ w2.cell? ⟨w.heap.size, 2, none⟩ = some (.bool false) := ⟨b0, b1, b2⟩
  have HS0 := Lib.hid hS0
  have hS1 : (w2.alloc (.cells #[.string ⟨es.1.toArray⟩, .string ⟨es.2.toArray⟩, .bool false] 54)).cell? ⟨w.heap.size, 0, none⟩ = some (.string ⟨es.1.toArray⟩) ∧ (w2.alloc (.cells #[.string ⟨es.1.toArray⟩, .string ⟨es.2.toArray⟩, .bool false] 54)).cell? ⟨w.heap.size, 1, none⟩ = some (.string ⟨es.2.toArray⟩) ∧ (w2.alloc (.cells #[.string ⟨es.1.toArray⟩, .string ⟨es.2.toArray⟩, .bool false] 54)).cell? ⟨w.heap.size, 2, none⟩ = some (.bool false) := by
    have h := (Below.heap_alloc w2 (.cells #[.string ⟨es.1.toArray⟩, .string ⟨es.2.toArray⟩, .bool false] 54) w.heap.size Hbl2.out).trans Hbx2.out
    exact ⟨(Lib.cell_of_heap h 0).trans rfl, (Lib.cell_of_heap h 1).trans rfl, (Lib.cell_of_heap h 2).trans rfl⟩
  have HS1 := Lib.hid hS1
  clear hS0 hS1
  simp only [Act.put]
  refine wp_region_held_drew (S := (fun w' => w'.cell? ⟨w.heap.size, 0, none⟩ = some (.string ⟨es.1.toArray⟩) ∧ w'.cell? ⟨w.heap.size, 1, none⟩ = some (.string ⟨es.2.toArray⟩) ∧ w'.cell? ⟨w.heap.size, 2, none⟩ = some (.bool false))) (by kernel_rfl) ((by exact HS0.out)) (fun hHeld => ?_)
  refine takeH 0 (v := ?_) rfl rfl (by kernel_rfl) (by kernel_rfl) (by kernel_rfl) (fun _ _ _ h => h) (Or.inl ⟨by rfl, ?_⟩) (by assumption) ?_
  rotate_left
  · (intro w hSw; (try dsimp only at hSw); go_simp <;> with_reducible rfl)
  simp only [List.setIfInBounds_toArray, List.set_cons_zero, List.set_cons_succ]
  refine takeH 1 (v := ?_) rfl rfl (by kernel_rfl) (by kernel_rfl) (by kernel_rfl) (fun _ _ _ h => h) (Or.inl ⟨by rfl, ?_⟩) (by assumption) ?_
  rotate_left
  · (intro w hSw; (try dsimp only at hSw); go_simp <;> with_reducible rfl)
  simp only [List.setIfInBounds_toArray, List.set_cons_zero, List.set_cons_succ]
  refine takeH 2 (v := ?_) rfl rfl (by kernel_rfl) (by kernel_rfl) (by kernel_rfl) (fun _ _ _ h => h) (Or.inl ⟨by rfl, ?_⟩) (by assumption) ?_
  rotate_left
  · (intro w hSw; (try dsimp only at hSw); go_simp <;> with_reducible rfl)
  simp only [List.setIfInBounds_toArray, List.set_cons_zero, List.set_cons_succ]
  refine takeH 3 (v := ?_) rfl rfl (by kernel_rfl) (by kernel_rfl) (by kernel_rfl) (fun _ _ _ h => h) (Or.inl ⟨by rfl, ?_⟩) (by assumption) ?_
  rotate_left
  · (intro w hSw; (try dsimp only at hSw); go_simp <;> with_reducible rfl)
  simp only [List.setIfInBounds_toArray, List.set_cons_zero, List.set_cons_succ]
  refine takeH 5 (v := ?_) rfl rfl (by kernel_rfl) (by kernel_rfl) (by kernel_rfl) (fun _ _ _ h => h) (Or.inl ⟨by rfl, ?_⟩) (by assumption) ?_
  rotate_left
  · (intro w hSw; (try dsimp only at hSw); go_simp <;> with_reducible rfl)
  simp only [List.setIfInBounds_toArray, List.set_cons_zero, List.set_cons_succ]
  refine wpAnyH_ready (rs := [4, 6]) (by kernel_rfl) (by simp) ?_
  refine AllReadyH.cons rfl (fun K hK => ?_) (AllReadyH.cons rfl (fun K hK => ?_) AllReadyH.nil)
  · go_simp
    refine hK.out _ _ (by exact HS0.out) (fun hHeld => ?_)
    clear hK K
    refine wpAnyH_ready (rs := [6]) (by kernel_rfl) (by simp) ?_
    refine AllReadyH.cons rfl (fun K hK => ?_) AllReadyH.nil
    go_simp
    refine hK.out _ _ (by exact HS1.out) (fun hHeld => ?_)
    clear hK K
    refine wpAnyH_ready (rs := [7]) (by kernel_rfl) (by simp) ?_
    refine AllReadyH.cons rfl (fun K hK => ?_) AllReadyH.nil
    refine step_append_own_at rfl 38 rfl _ _ 64 rfl B 54 i0 zeroHF 3 40 Tryd.underlying64 hi hz0 hz1 hzb rfl (by decide) (.slice a ents.length cap) ents.length (entCells ents) rfl (by exact Hown2.out) ⟨w2.heap.size, 0, none⟩ 1 1 (eCells es) rfl rfl (by exact HN.out) H1c.out (by unfold maxLen; omega) (by omega) (by show B ≤ (w2.alloc _).heap.size; simp; omega) ?_
    intro v3 w3 hown3 hgrow3 _ hat3
    have hbx3 := (hgrow3.block w.heap.size (by show w.heap.size < (w2.alloc _).heap.size; simp; omega) (fun e => Hbn.out e.symm)).trans ((Below.heap_alloc w2 (.cells #[.string ⟨es.1.toArray⟩, .string ⟨es.2.toArray⟩, .bool false] 54) w.heap.size Hbl2.out).trans Hbx2.out)
    refine hK.out _ _ (by exact ⟨(Lib.cell_of_heap hbx3 0).trans rfl, (Lib.cell_of_heap hbx3 1).trans rfl, (Lib.cell_of_heap hbx3 2).trans rfl⟩) (fun hHeld => ?_)
    clear hK K
    have Hgb := Lib.hid ((hgrow3.block b (by show b < (w2.alloc _).heap.size; simp; omega) (fun e => Hne.out e.symm)).trans (Below.heap_alloc w2 (.cells #[.string ⟨es.1.toArray⟩, .string ⟨es.2.toArray⟩, .bool false] 54) b hbl2))
    have hr3 := HT2.out.row.of_heap Hgb.out
    have e3 := hr3.cell' (i := 1) (v := .slice a ents.length cap) (by omega) (by rw [HT2.out.c1, Hev.out])
    have hf3 := fun i => hr3.unfrozen i none
    have Hr3 := Lib.hid hr3
    have Hown3 := Lib.hid hown3
    have Hgrow3 := Lib.hid hgrow3
    have Hat3 := Lib.hid hat3
    obtain ⟨a3, cap3, hv3⟩ := own_form hown3
    subst hv3
    clear hown3 hgrow3 hat3 hr3 e1 hf1 b0 b1 b2
    simp only [List.setIfInBounds_toArray, List.set_cons_zero, List.set_cons_succ]
    refine takeH 8 (v := ?_) rfl rfl (by kernel_rfl) (by kernel_rfl) (by kernel_rfl) (fun _ _ _ h => h) (Or.inl ⟨by rfl, ?_⟩) (by assumption) ?_
    rotate_left
    · (intro w hSw; (try dsimp only at hSw); go_simp <;> with_reducible rfl)
    simp only [List.setIfInBounds_toArray, List.set_cons_zero, List.set_cons_succ]
    refine takeH 9 (v := ?_) rfl rfl (by kernel_rfl) (by kernel_rfl) (by kernel_rfl) (fun _ _ _ h => h) (Or.inl ⟨by rfl, ?_⟩) (by assumption) ?_
    rotate_left
    · (intro w hSw; (try dsimp only at hSw); go_simp <;> with_reducible rfl)
    simp only [List.setIfInBounds_toArray, List.set_cons_zero, List.set_cons_succ]
    refine wpAnyH_ready (rs := [10]) (by kernel_rfl) (by simp) ?_
    refine AllReadyH.cons rfl (fun K hK => ?_) AllReadyH.nil
    go_simp
    refine hK.out _ _ (by exact ⟨(cell_other Hbw.out).trans ((Lib.cell_of_heap hbx3 0).trans rfl), (cell_other Hbw.out).trans ((Lib.cell_of_heap hbx3 1).trans rfl), (cell_other Hbw.out).trans ((Lib.cell_of_heap hbx3 2).trans rfl)⟩) (fun hHeld => ?_)
    clear hK K
    refine wpAnyH_done (by kernel_rfl) ?_ _
    clear hHeld hbx3
    go_wp2_with fail
    go_end0
    obtain ⟨t1, t2, t3⟩ := add_end (o := (.cells #[.string ⟨es.1.toArray⟩, .string ⟨es.2.toArray⟩, .bool false] 54)) HT2.out Hev.out ⟨Hgrow3.out.os, Hgrow3.out.tape, Hgrow3.out.output, Hgrow3.out.size, Hgrow3.out.block⟩ Hown3.out Hat3.out
    refine ⟨rfl, _, ?_, t1, HU2.out.step t2⟩
    rcases t3 with h | ⟨g, h1, h2⟩
    · exact Or.inl h
    · exact Or.inr ⟨g, h1, by omega⟩
  · go_simp
    refine hK.out _ _ (by exact HS1.out) (fun hHeld => ?_)
    clear hK K
    refine wpAnyH_ready (rs := [4]) (by kernel_rfl) (by simp) ?_
    refine AllReadyH.cons rfl (fun K hK => ?_) AllReadyH.nil
    go_simp
    refine hK.out _ _ (by exact HS1.out) (fun hHeld => ?_)
    clear hK K
    refine wpAnyH_ready (rs := [7]) (by kernel_rfl) (by simp) ?_
    refine AllReadyH.cons rfl (fun K hK => ?_) AllReadyH.nil
    refine step_append_own_at rfl 38 rfl _ _ 64 rfl B 54 i0 zeroHF 3 40 Tryd.underlying64 hi hz0 hz1 hzb rfl (by decide) (.slice a ents.length cap) ents.length (entCells ents) rfl (by exact Hown2.out) ⟨w2.heap.size, 0, none⟩ 1 1 (eCells es) rfl rfl (by exact HN.out) H1c.out (by unfold maxLen; omega) (by omega) (by show B ≤ (w2.alloc _).heap.size; simp; omega) ?_
    intro v3 w3 hown3 hgrow3 _ hat3
    have hbx3 := (hgrow3.block w.heap.size (by show w.heap.size < (w2.alloc _).heap.size; simp; omega) (fun e => Hbn.out e.symm)).trans ((Below.heap_alloc w2 (.cells #[.string ⟨es.1.toArray⟩, .string ⟨es.2.toArray⟩, .bool false] 54) w.heap.size Hbl2.out).trans Hbx2.out)
    refine hK.out _ _ (by exact ⟨(Lib.cell_of_heap hbx3 0).trans rfl, (Lib.cell_of_heap hbx3 1).trans rfl, (Lib.cell_of_heap hbx3 2).trans rfl⟩) (fun hHeld => ?_)
    clear hK K
    have Hgb := Lib.hid ((hgrow3.block b (by show b < (w2.alloc _).heap.size; simp; omega) (fun e => Hne.out e.symm)).trans (Below.heap_alloc w2 (.cells #[.string ⟨es.1.toArray⟩, .string ⟨es.2.toArray⟩, .bool false] 54) b hbl2))
    have hr3 := HT2.out.row.of_heap Hgb.out
    have e3 := hr3.cell' (i := 1) (v := .slice a ents.length cap) (by omega) (by rw [HT2.out.c1, Hev.out])
    have hf3 := fun i => hr3.unfrozen i none
    have Hr3 := Lib.hid hr3
    have Hown3 := Lib.hid hown3
    have Hgrow3 := Lib.hid hgrow3
    have Hat3 := Lib.hid hat3
    obtain ⟨a3, cap3, hv3⟩ := own_form hown3
    subst hv3
    clear hown3 hgrow3 hat3 hr3 e1 hf1 b0 b1 b2
    simp only [List.setIfInBounds_toArray, List.set_cons_zero, List.set_cons_succ]
    refine takeH 8 (v := ?_) rfl rfl (by kernel_rfl) (by kernel_rfl) (by kernel_rfl) (fun _ _ _ h => h) (Or.inl ⟨by rfl, ?_⟩) (by assumption) ?_
    rotate_left
    · (intro w hSw; (try dsimp only at hSw); go_simp <;> with_reducible rfl)
    simp only [List.setIfInBounds_toArray, List.set_cons_zero, List.set_cons_succ]
    refine takeH 9 (v := ?_) rfl rfl (by kernel_rfl) (by kernel_rfl) (by kernel_rfl) (fun _ _ _ h => h) (Or.inl ⟨by rfl, ?_⟩) (by assumption) ?_
    rotate_left
    · (intro w hSw; (try dsimp only at hSw); go_simp <;> with_reducible rfl)
    simp only [List.setIfInBounds_toArray, List.set_cons_zero, List.set_cons_succ]
    refine wpAnyH_ready (rs := [10]) (by kernel_rfl) (by simp) ?_
    refine AllReadyH.cons rfl (fun K hK => ?_) AllReadyH.nil
    go_simp
    refine hK.out _ _ (by exact ⟨(cell_other Hbw.out).trans ((Lib.cell_of_heap hbx3 0).trans rfl), (cell_other Hbw.out).trans ((Lib.cell_of_heap hbx3 1).trans rfl), (cell_other Hbw.out).trans ((Lib.cell_of_heap hbx3 2).trans rfl)⟩) (fun hHeld => ?_)
    clear hK K
    refine wpAnyH_done (by kernel_rfl) ?_ _
    clear hHeld hbx3
    go_wp2_with fail
    go_end0
    obtain ⟨t1, t2, t3⟩ := add_end (o := (.cells #[.string ⟨es.1.toArray⟩, .string ⟨es.2.toArray⟩, .bool false] 54)) HT2.out Hev.out ⟨Hgrow3.out.os, Hgrow3.out.tape, Hgrow3.out.output, Hgrow3.out.size, Hgrow3.out.block⟩ Hown3.out Hat3.out
    refine ⟨rfl, _, ?_, t1, HU2.out.step t2⟩
    rcases t3 with h | ⟨g, h1, h2⟩
    · exact Or.inl h
    · exact Or.inr ⟨g, h1, by omega⟩
end Go.Proofs.YtmlnmllnlekcgaaDoor
/-
  The contract of add.
-/
namespace Go.Proofs.YtmlnmllnlekcgaaDoor
open Go.ChangeShapes Go.WideShapes Go.ChangeAt Go.RowKit

set_option maxHeartbeats 4000000 in
set_option maxRecDepth 100000 in
theorem add_any (B : Nat) (w : World) (b n : Nat) (f : Nat → Value) (ents : List (HD.Bs × HD.Bs)) (cnt max : Nat) (ev : Value) (m1 m2 : Nat) (l1 : List (HD.Bs × Nat)) (l2 : List ((HD.Bs × HD.Bs) × Nat)) (es : HD.Bs × HD.Bs)
    (hT : TabMem B w b n f ents cnt ev m1 m2 l1 l2) (hS : Sized f ents max) (hB : B ≤ w.heap.size) (hc : cnt + ents.length + 1 < 2 ^ 62) (hlen : ents.length ≤ 2 ^ 40) (hmax : max < 2 ^ 32) (hts : HD.tsize ents + HD.esize es < 2 ^ 32) :
    Calls Tryd.prog 65 #[.pointer (some ⟨b, 0, none⟩), .agg #[.string ⟨es.1.toArray⟩, .string ⟨es.2.toArray⟩, .bool false]] w fun e w' => e = .returned (.tuple #[]) ∧
      ∃ (q : Nat) (ev' : Value) (f' : Nat → Value), q ≤ ents.length + 1 ∧ HD.evict max (ents ++ [es]) = (ents ++ [es]).drop q ∧ (ev'.ownBlock = ev.ownBlock ∨ ∃ g, ev'.ownBlock = some g ∧ w.heap.size ≤ g) ∧ (∀ i, 6 ≤ i → f' i = f i) ∧ Sized f' (HD.evict max (ents ++ [es])) max ∧
        TabMem B w' b n f' (HD.evict max (ents ++ [es])) (cnt + q) ev' m1 m2 (delS (cnt + 1) ((ents ++ [es]).take q) (mput l1 es.1 (ents.length + cnt + 1))) (delP (cnt + 1) ((ents ++ [es]).take q) (mput l2 es (ents.length + cnt + 1))) ∧ Upd (tabOwn b ev m1 m2) w w' := by
  have hbig := hT.big
  have hT0 := hT
  have HTW := Lib.hid (hT.alloc (.cells #[.string ⟨es.1.toArray⟩, .string ⟨es.2.toArray⟩, .bool false] 54))
  have HS := Lib.hid hS
  have hbl := hT.row.lt
  have Hnot : Hid (¬ tabOwn b ev m1 m2 w.heap.size) := fun h => Nat.lt_irrefl _ (hT.own_lt h)
  have HT0 := Lib.hid hT0
  clear hT hS hT0
  go_enter Tryd.func65, Tryd.ntmps65
  go_wp2_with fail
  refine stillTail 4 (by kernel_rfl) (by kernel_rfl) ?_
  simp only [List.take_succ_cons, List.take_zero, List.drop_succ_cons, List.drop_zero]
  repeat (refine wpStill_step (fun K hK => ?_); go_simp; (refine hK _ ?_; clear hK K))
  refine wpStill_nil ?_
  go_wp2_with fail
  refine (addEntry_any B _ b n f ents cnt ev m1 m2 l1 l2 es HTW.out.drew (by show B ≤ (w.alloc _).heap.size; simp; omega) (by omega) hlen).mono ?_
  rintro e w1 ⟨rfl, ev1, hev1, hT1, hu1⟩
  have hbx := (hu1.block w.heap.size (by show w.heap.size < (w.alloc _).heap.size; simp) Hnot.out).trans (heap_alloc_new w (.cells #[.string ⟨es.1.toArray⟩, .string ⟨es.2.toArray⟩, .bool false] 54))
  have HU1 : Hid (Upd (tabOwn b ev m1 m2) w w1) := Upd.step ((Upd.refl _ w).alloc (.cells #[.string ⟨es.1.toArray⟩, .string ⟨es.2.toArray⟩, .bool false] 54)) ⟨hu1.os, hu1.tape, hu1.output, hu1.size, hu1.block⟩
  have Hev1 := Lib.hid hev1
  have HT1 := Lib.hid hT1
  obtain ⟨s, hs⟩ : ∃ s, s = HD.tsize ents := ⟨_, rfl⟩
  have c5 := hT1.row.cell' (i := 5) (v := .int .u32 (s : Nat)) (by omega) (by simp [putF, HS.out.size, hs])
  have fz := fun i => hT1.row.unfrozen i none
  have hbl1 := hT1.row.lt
  have Hs := Lib.hid hs
  have Hbx := Lib.hid hbx
  have hw1 := Lib.lt_of_heap hbx
  obtain ⟨z, hz⟩ : ∃ z, es.1.length + es.2.length + 32 = z := ⟨_, rfl⟩
  have hzs : s + z < 4294967296 := by unfold HD.esize at hts; omega
  have Hz := Lib.hid hz
  obtain ⟨t, ht⟩ : ∃ t, t = HD.tsize (ents ++ [es]) := ⟨_, rfl⟩
  have hst : t = s + z := by rw [ht, HD.tsize_append, hs, ← hz]; simp [HD.tsize, HD.esize]
  have hsum : IntKind.u32.wrap ((s : Int) + (z : Int)) = (t : Int) := by simp only [IntKind.wrap, IntKind.bits, IntKind.signed]; simp; omega
  have Ht := Lib.hid ht
  have hf0 := HT0.out.c0
  have hf2 := HT0.out.c2
  have hf3 := HT0.out.c3
  have hf4 := HT0.out.c4
  clear ht
  have hS0 : w1.cell? ⟨w.heap.size, 0, none⟩ = some (.string ⟨es.1.toArray⟩) ∧ w1.cell? ⟨w.heap.size, 1, none⟩ = some (.string ⟨es.2.toArray⟩) ∧ w1.cell? ⟨w.heap.size, 2, none⟩ = some (.bool false) :=
    ⟨(Lib.cell_of_heap hbx 0).trans rfl, (Lib.cell_of_heap hbx 1).trans rfl, (Lib.cell_of_heap hbx 2).trans rfl⟩
  have HS0 := Lib.hid hS0
  have Hbw := Lib.hid (show b ≠ w.heap.size by omega)
  clear hu1 hev1 hT1 hs hbx hz hS0
  go_wp2_with fail
  refine wp_region_held_drew (S := (fun w' => w'.cell? ⟨w.heap.size, 0, none⟩ = some (.string ⟨es.1.toArray⟩) ∧ w'.cell? ⟨w.heap.size, 1, none⟩ = some (.string ⟨es.2.toArray⟩) ∧ w'.cell? ⟨w.heap.size, 2, none⟩ = some (.bool false))) (by kernel_rfl) ((by exact HS0.out)) (fun hHeld => ?_)
  refine takeH 0 (v := ?_) rfl rfl (by kernel_rfl) (by kernel_rfl) (by kernel_rfl) (fun _ _ _ h => h) (Or.inl ⟨by rfl, ?_⟩) (by assumption) ?_
  rotate_left
  · (intro w hSw; (try dsimp only at hSw); go_simp <;> with_reducible rfl)
  simp only [List.setIfInBounds_toArray, List.set_cons_zero, List.set_cons_succ]
  refine takeH 1 (v := ?_) rfl rfl (by kernel_rfl) (by kernel_rfl) (by kernel_rfl) (fun _ _ _ h => h) (Or.inl ⟨by rfl, ?_⟩) (by assumption) ?_
  rotate_left
  · (intro w hSw; (try dsimp only at hSw); go_simp <;> with_reducible rfl)
  simp only [List.setIfInBounds_toArray, List.set_cons_zero, List.set_cons_succ]
  refine takeH 2 (v := ?_) rfl rfl (by kernel_rfl) (by kernel_rfl) (by kernel_rfl) (fun _ _ _ h => h) (Or.inl ⟨by rfl, ?_⟩) (by assumption) ?_
  rotate_left
  · (intro w hSw; (try dsimp only at hSw); go_simp <;> with_reducible rfl)
  simp only [List.setIfInBounds_toArray, List.set_cons_zero, List.set_cons_succ]
  refine takeH 4 (v := ?_) rfl rfl (by kernel_rfl) (by kernel_rfl) (by kernel_rfl) (fun _ _ _ h => h) (Or.inl ⟨by rfl, ?_⟩) (by assumption) ?_
  rotate_left
  · (intro w hSw; (try dsimp only at hSw); go_simp <;> with_reducible rfl)
  simp only [List.setIfInBounds_toArray, List.set_cons_zero, List.set_cons_succ]
  refine wpAnyH_ready (rs := [3, 5]) (by kernel_rfl) (by simp) ?_
  refine AllReadyH.cons rfl (fun K hK => ?_) (AllReadyH.cons rfl (fun K hK => ?_) AllReadyH.nil)
  · go_simp
    refine hK.out _ _ (by exact HS0.out) (fun hHeld => ?_)
    clear hK K
    refine wpAnyH_ready (rs := [5]) (by kernel_rfl) (by simp) ?_
    refine AllReadyH.cons rfl (fun K hK => ?_) AllReadyH.nil
    go_simp
    refine (size_any es.1 es.2 false _ (by rw [Hz.out]; omega)).mono ?_
    rintro e w4 ⟨rfl, hb4⟩
    rw [Hz.out]
    have hS4 : w4.cell? ⟨w.heap.size, 0, none⟩ = some (.string ⟨es.1.toArray⟩) ∧ w4.cell? ⟨w.heap.size, 1, none⟩ = some (.string ⟨es.2.toArray⟩) ∧ w4.cell? ⟨w.heap.size, 2, none⟩ = some (.bool false) := ⟨(hb4.cell (p := ⟨w.heap.size, 0, none⟩) hw1).trans HS0.out.1, (hb4.cell (p := ⟨w.heap.size, 1, none⟩) hw1).trans HS0.out.2.1, (hb4.cell (p := ⟨w.heap.size, 2, none⟩) hw1).trans HS0.out.2.2⟩
    refine hK.out _ _ hS4 (fun hHeld => ?_)
    clear hK K
    have HT4 := Lib.hid (HT1.out.below (w' := w4) ⟨hb4.os, hb4.tape, hb4.output, hb4.size, hb4.block⟩)
    have d5 := HT4.out.row.cell' (i := 5) (v := .int .u32 (s : Nat)) (by omega) (by simp [putF, HS.out.size, Hs.out])
    have fz4 := fun i => HT4.out.row.unfrozen i none
    have HU4 : Hid (Upd (tabOwn b ev m1 m2) w w4) := HU1.out.step ⟨hb4.os, hb4.tape, hb4.output, hb4.size, fun i hi _ => hb4.block i hi⟩
    clear hb4 c5 fz
    refine takeH 6 (v := ?_) rfl rfl (by kernel_rfl) (by kernel_rfl) (by kernel_rfl) (fun _ _ _ h => h) (Or.inl ⟨by rfl, ?_⟩) (by assumption) ?_
    rotate_left
    · (intro w hSw; (try dsimp only at hSw); go_simp <;> with_reducible rfl)
    simp only [List.setIfInBounds_toArray, List.set_cons_zero, List.set_cons_succ]
    refine takeH 7 (v := ?_) rfl rfl (by kernel_rfl) (by kernel_rfl) (by kernel_rfl) (fun _ _ _ h => h) (Or.inl ⟨by rfl, ?_⟩) (by assumption) ?_
    rotate_left
    · (intro w hSw; (try dsimp only at hSw); go_simp <;> with_reducible rfl)
    simp only [List.setIfInBounds_toArray, List.set_cons_zero, List.set_cons_succ]
    refine takeH 8 (v := ?_) rfl rfl (by kernel_rfl) (by kernel_rfl) (by kernel_rfl) (fun _ _ _ h => h) (Or.inl ⟨by rfl, ?_⟩) (by assumption) ?_
    rotate_left
    · (intro w hSw; (try dsimp only at hSw); go_simp <;> with_reducible rfl)
    simp only [List.setIfInBounds_toArray, List.set_cons_zero, List.set_cons_succ]
    refine wpAnyH_ready (rs := [9]) (by kernel_rfl) (by simp) ?_
    refine AllReadyH.cons rfl (fun K hK => ?_) AllReadyH.nil
    go_simp
    obtain ⟨y1, y2, y3⟩ := hS4
    refine hK.out _ _ (by exact ⟨(cell_other Hbw.out).trans y1, (cell_other Hbw.out).trans y2, (cell_other Hbw.out).trans y3⟩) (fun hHeld => ?_)
    clear hK K
    refine wpAnyH_done (by kernel_rfl) ?_ _
    clear hHeld y1 y2 y3
    have hT5 := HT4.out.write (cnt' := cnt) (w' := w4.setCell ⟨b, 5, none⟩ (.int .u32 (t : Nat))) (f' := putF (putF f 1 ev1) 5 (.int .u32 (t : Nat))) (HT4.out.row.set 5 _) (fun i _ hi => other_set hi) (by simp [putF, hf0]) (by simp [putF]) (by simp [putF, hf2]) (by simp [putF, hf3]) (by simp [putF, hf4])
    have hS5 : Sized (putF (putF f 1 ev1) 5 (.int .u32 (t : Nat))) (ents ++ [es]) max := ⟨by simp [putF, Ht.out], by simp [putF, HS.out.max]⟩
    have HT5 := Lib.hid hT5
    have HS5 := Lib.hid hS5
    have HU5 := Lib.hid (HU4.out.setCell (a := ⟨b, 5, none⟩) (Or.inl (Or.inl rfl)) (.int .u32 (t : Nat)))
    clear hT5 hS5 d5 fz4
    go_wp2_with fail
    rw [show (s : Int) + (z : Int) = (t : Int) by omega]
    refine (evict_any B _ b n _ (ents ++ [es]) cnt max ev1 m1 m2 _ _ HT5.out HS5.out (by simp; omega) hmax (by rw [← Ht.out]; omega)).mono ?_
    rintro e w6 ⟨rfl, q, ev', f', hq, he, hev', hf, hs6, ht6, hu6⟩
    have H1 := Lib.hid he
    have H2 := Lib.hid hev'
    have H3 := Lib.hid hf
    have H4 := Lib.hid hs6
    have H5 := Lib.hid ht6
    have H6 := Lib.hid hu6
    clear he hev' hf hs6 ht6 hu6
    go_wp2_with fail
    go_end0
    have hl1 : (ents ++ [es]).length = ents.length + 1 := by simp
    refine ⟨rfl, q, ev', f', by omega, H1.out, ?_, fun i hi => (H3.out i hi).trans (by simp only [putF]; rw [if_neg (by omega), if_neg (by omega)]), H4.out, H5.out, HU5.out.trans H6.out fun i hi ho => ?_⟩
    · rw [H2.out]
      exact Hev1.out.imp id fun ⟨g, h1, h2⟩ => ⟨g, h1, by have : (w.alloc (.cells #[.string ⟨es.1.toArray⟩, .string ⟨es.2.toArray⟩, .bool false] 54)).heap.size ≤ g := h2; simp at this; omega⟩
    · rcases ho with rfl | ho | rfl | rfl
      · exact Or.inl rfl
      · rcases Hev1.out with h | ⟨g, h1, h2⟩
        · exact Or.inr (Or.inl (by rw [← h]; exact ho))
        · rw [h1] at ho
          have := Option.some.inj ho
          have h2' : (w.alloc (.cells #[.string ⟨es.1.toArray⟩, .string ⟨es.2.toArray⟩, .bool false] 54)).heap.size ≤ g := h2
          simp at h2'
          omega
      · exact Or.inr (Or.inr (Or.inl rfl))
      · exact Or.inr (Or.inr (Or.inr rfl))
  · go_simp
    refine (size_any es.1 es.2 false _ (by rw [Hz.out]; omega)).mono ?_
    rintro e w4 ⟨rfl, hb4⟩
    rw [Hz.out]
    have hS4 : w4.cell? ⟨w.heap.size, 0, none⟩ = some (.string ⟨es.1.toArray⟩) ∧ w4.cell? ⟨w.heap.size, 1, none⟩ = some (.string ⟨es.2.toArray⟩) ∧ w4.cell? ⟨w.heap.size, 2, none⟩ = some (.bool false) := ⟨(hb4.cell (p := ⟨w.heap.size, 0, none⟩) hw1).trans HS0.out.1, (hb4.cell (p := ⟨w.heap.size, 1, none⟩) hw1).trans HS0.out.2.1, (hb4.cell (p := ⟨w.heap.size, 2, none⟩) hw1).trans HS0.out.2.2⟩
    refine hK.out _ _ hS4 (fun hHeld => ?_)
    clear hK K
    have HT4 := Lib.hid (HT1.out.below (w' := w4) ⟨hb4.os, hb4.tape, hb4.output, hb4.size, hb4.block⟩)
    have d5 := HT4.out.row.cell' (i := 5) (v := .int .u32 (s : Nat)) (by omega) (by simp [putF, HS.out.size, Hs.out])
    have fz4 := fun i => HT4.out.row.unfrozen i none
    have HU4 : Hid (Upd (tabOwn b ev m1 m2) w w4) := HU1.out.step ⟨hb4.os, hb4.tape, hb4.output, hb4.size, fun i hi _ => hb4.block i hi⟩
    clear hb4 c5 fz
    refine wpAnyH_ready (rs := [3]) (by kernel_rfl) (by simp) ?_
    refine AllReadyH.cons rfl (fun K hK => ?_) AllReadyH.nil
    go_simp
    refine hK.out _ _ hS4 (fun hHeld => ?_)
    clear hK K
    refine takeH 6 (v := ?_) rfl rfl (by kernel_rfl) (by kernel_rfl) (by kernel_rfl) (fun _ _ _ h => h) (Or.inl ⟨by rfl, ?_⟩) (by assumption) ?_
    rotate_left
    · (intro w hSw; (try dsimp only at hSw); go_simp <;> with_reducible rfl)
    simp only [List.setIfInBounds_toArray, List.set_cons_zero, List.set_cons_succ]
    refine takeH 7 (v := ?_) rfl rfl (by kernel_rfl) (by kernel_rfl) (by kernel_rfl) (fun _ _ _ h => h) (Or.inl ⟨by rfl, ?_⟩) (by assumption) ?_
    rotate_left
    · (intro w hSw; (try dsimp only at hSw); go_simp <;> with_reducible rfl)
    simp only [List.setIfInBounds_toArray, List.set_cons_zero, List.set_cons_succ]
    refine takeH 8 (v := ?_) rfl rfl (by kernel_rfl) (by kernel_rfl) (by kernel_rfl) (fun _ _ _ h => h) (Or.inl ⟨by rfl, ?_⟩) (by assumption) ?_
    rotate_left
    · (intro w hSw; (try dsimp only at hSw); go_simp <;> with_reducible rfl)
    simp only [List.setIfInBounds_toArray, List.set_cons_zero, List.set_cons_succ]
    refine wpAnyH_ready (rs := [9]) (by kernel_rfl) (by simp) ?_
    refine AllReadyH.cons rfl (fun K hK => ?_) AllReadyH.nil
    go_simp
    obtain ⟨y1, y2, y3⟩ := hS4
    refine hK.out _ _ (by exact ⟨(cell_other Hbw.out).trans y1, (cell_other Hbw.out).trans y2, (cell_other Hbw.out).trans y3⟩) (fun hHeld => ?_)
    clear hK K
    refine wpAnyH_done (by kernel_rfl) ?_ _
    clear hHeld y1 y2 y3
    have hT5 := HT4.out.write (cnt' := cnt) (w' := w4.setCell ⟨b, 5, none⟩ (.int .u32 (t : Nat))) (f' := putF (putF f 1 ev1) 5 (.int .u32 (t : Nat))) (HT4.out.row.set 5 _) (fun i _ hi => other_set hi) (by simp [putF, hf0]) (by simp [putF]) (by simp [putF, hf2]) (by simp [putF, hf3]) (by simp [putF, hf4])
    have hS5 : Sized (putF (putF f 1 ev1) 5 (.int .u32 (t : Nat))) (ents ++ [es]) max := ⟨by simp [putF, Ht.out], by simp [putF, HS.out.max]⟩
    have HT5 := Lib.hid hT5
    have HS5 := Lib.hid hS5
    have HU5 := Lib.hid (HU4.out.setCell (a := ⟨b, 5, none⟩) (Or.inl (Or.inl rfl)) (.int .u32 (t : Nat)))
    clear hT5 hS5 d5 fz4
    go_wp2_with fail
    rw [show (s : Int) + (z : Int) = (t : Int) by omega]
    refine (evict_any B _ b n _ (ents ++ [es]) cnt max ev1 m1 m2 _ _ HT5.out HS5.out (by simp; omega) hmax (by rw [← Ht.out]; omega)).mono ?_
    rintro e w6 ⟨rfl, q, ev', f', hq, he, hev', hf, hs6, ht6, hu6⟩
    have H1 := Lib.hid he
    have H2 := Lib.hid hev'
    have H3 := Lib.hid hf
    have H4 := Lib.hid hs6
    have H5 := Lib.hid ht6
    have H6 := Lib.hid hu6
    clear he hev' hf hs6 ht6 hu6
    go_wp2_with fail
    go_end0
    have hl1 : (ents ++ [es]).length = ents.length + 1 := by simp
    refine ⟨rfl, q, ev', f', by omega, H1.out, ?_, fun i hi => (H3.out i hi).trans (by simp only [putF]; rw [if_neg (by omega), if_neg (by omega)]), H4.out, H5.out, HU5.out.trans H6.out fun i hi ho => ?_⟩
    · rw [H2.out]
      exact Hev1.out.imp id fun ⟨g, h1, h2⟩ => ⟨g, h1, by have : (w.alloc (.cells #[.string ⟨es.1.toArray⟩, .string ⟨es.2.toArray⟩, .bool false] 54)).heap.size ≤ g := h2; simp at this; omega⟩
    · rcases ho with rfl | ho | rfl | rfl
      · exact Or.inl rfl
      · rcases Hev1.out with h | ⟨g, h1, h2⟩
        · exact Or.inr (Or.inl (by rw [← h]; exact ho))
        · rw [h1] at ho
          have := Option.some.inj ho
          have h2' : (w.alloc (.cells #[.string ⟨es.1.toArray⟩, .string ⟨es.2.toArray⟩, .bool false] 54)).heap.size ≤ g := h2
          simp at h2'
          omega
      · exact Or.inr (Or.inr (Or.inl rfl))
      · exact Or.inr (Or.inr (Or.inr rfl))
end Go.Proofs.YtmlnmllnlekcgaaDoor
/-
  The contract of impl.HuffmanAppend at a nil destination: a new slice of the text's codes. Texts of at most 2^20 bytes.
-/
namespace Go.Proofs.YtmlnmllnlekcgaaDoor
open Go.ChangeShapes Go.WideShapes Go.ChangeAt Go.RowKit

theorem ownsRow_form {w : World} {B e size n : Nat} {v : Value} {xs : List Value} (h : w.ownsRow B e size v n xs) : ∃ a cap, v = .slice a n cap := by
  rcases h.2 with ⟨rfl, rfl⟩ | ⟨g, cap, cur, rfl, _⟩
  · exact ⟨none, 0, rfl⟩
  · exact ⟨_, cap, rfl⟩

theorem LenTab.lt {w : World} (h : LenTab w) : 6 < w.heap.size := World.block_lt_of_cell? w ⟨6, 0, none⟩ (h 0 (by decide))
theorem CodeTab.lt {w : World} (h : CodeTab w) : 5 < w.heap.size := World.block_lt_of_cell? w ⟨5, 0, none⟩ (h 0 (by decide))
theorem LenTab.below {w w' : World} {B : Nat} (h : LenTab w) (hb : Below B w w') (hB : 6 < B) : LenTab w' := fun i hi => (hb.cell (p := ⟨6, i, none⟩) hB).trans (h i hi)
theorem CodeTab.below {w w' : World} {B : Nat} (h : CodeTab w) (hb : Below B w w') (hB : 5 < B) : CodeTab w' := fun i hi => (hb.cell (p := ⟨5, i, none⟩) hB).trans (h i hi)

/-- A slice of bytes that the call has made. -/
def NewBytes (B : Nat) (w : World) (a : Option Addr) (cap : Nat) (l : List UInt8) : Prop := w.ownsRow B 5 1 (.slice a l.length cap) l.length (Lib.byteCells l)

end Go.Proofs.YtmlnmllnlekcgaaDoor
/-
  The contract of getRootHuffmanNode: the tree lies in new memory.
-/
namespace Go.Proofs.YtmlnmllnlekcgaaDoor
open Go.ChangeShapes Go.WideShapes Go.ChangeAt Go.RowKit

/-- A whole array is loaded whose cells are known. -/
theorem wpList_load_cells {P : Program} {ops : Array Oper} {rest : List Oper} {o : Oper} {a : Act} {w : World} {Q : Exit → Act → World → Prop} (hgd : o.guard = none) (ty : TypeId) (x : Operand) (ho : o.op = .load ty x)
    (g : Nat) (hx : a.eval x = .pointer (some ⟨g, 0, none⟩)) (cs : List Value) (d : TypeDesc) (hg : ∀ i v, cs[i]? = some v → w.cell? ⟨g, i, none⟩ = some v)
    (hu : P.underlying ty = some d) (hd : (match d with | .struct _ | .array _ _ => true | _ => false) = true) (hi : (P.info? ty).map (·.size) = some cs.length)
    (h : wpList P ops Q rest (a.put o.dst (.agg cs.toArray)) w) : wpList P ops Q (o :: rest) a w := by
  refine wpList_plain hgd fun K hK => ?_
  have hl : (loadVar ty ⟨g, 0, none⟩).run P w = .ok (.agg cs.toArray) w := by
    have hl : (loadCells ⟨g, 0, none⟩ cs.length).run P w = .ok cs.toArray w :=
      run_loadCells_list (P := P) w ⟨g, 0, none⟩ cs (fun j v hv => by
        have hadd : (⟨g, 0, none⟩ : Addr).add j = ⟨g, j, none⟩ := by unfold Addr.add; split <;> simp_all
        rw [hadd]; exact hg j v hv)
    cases hq : P.info? ty with
    | none => simp [hq] at hi
    | some i =>
      have hs : i.size = cs.length := by simpa [hq] using hi
      have hagg : (isAgg ty).run P w = .ok true w := by
        unfold isAgg
        rw [Sem.run_bind, run_underlying hu w]
        cases d <;> simp_all
      simp [loadVar, Sem.run_bind, hagg, sizeOf, typeInfo, hq, hs, hl]
  unfold Oper.wp execOp
  simp only [ho, hx, Instr.loadAt, Instr.sureAddr, Sem.run_bind, Sem.run_pure, Result.andThen_ok, hl]
  exact hK _ _ h

def codeVals : List Value := (List.range 256).map fun i => .int .u32 (HP.hcode i : Nat)
theorem codeVals_len : codeVals.length = 256 := by simp [codeVals]
theorem codeVals_at {i : Nat} (h : i < 256) : codeVals.toArray[i]? = some (.int .u32 (HP.hcode i : Nat)) := by simp [codeVals, h]
theorem codeVals_cell {w : World} (h : CodeTab w) (i : Nat) (v : Value) (hv : codeVals[i]? = some v) : w.cell? ⟨5, i, none⟩ = some v := by
  have hi : i < 256 := by
    rcases Nat.lt_or_ge i 256 with h' | h'
    · exact h'
    · rw [List.getElem?_eq_none (by rw [codeVals_len]; exact h')] at hv; cases hv
  rw [h i hi]
  simp [codeVals, hi] at hv
  rw [hv]

def leaves0 : Array Value := Array.ofFn (n := 768) fun i => leafV 0 i.val
theorem leaves0_size : leaves0.size = 768 := by simp [leaves0]
theorem leaves0_ne : leaves0 ≠ #[] := fun h => by have := leaves0_size; rw [h] at this; cases this
theorem leaves0_at : ∀ i, i < 768 → leaves0[i]? = some (leafV 0 i) := fun i hi => by simp [leaves0, hi]
theorem zero79 : ∀ w, (zeroValue 141).run Tryd.prog w = .ok (.agg leaves0) w := zero_of (by kernel_rfl)

theorem infoU32 : (Tryd.prog.info? 53).map (fun i => (i.zero, i.size)) = some (some (.int .u32 0), 1) := by kernel_rfl
theorem index_code {cv : Array Value} {s : Nat} {v : Int} (hs : s < 256) (h : cv[s]? = some (.int .u32 v)) (w : World) : (Instr.index 142 (.agg cv) (.int .i64 s)).run Tryd.prog w = .ok (.int .u32 v) w := by
  cases hq : Tryd.prog.info? 53 with
  | none => have := infoU32; rw [hq] at this; cases this
  | some i =>
    have := infoU32
    rw [hq] at this
    simp at this
    simp [Instr.index, run_underlying Tryd.underlying142, run_underlying Tryd.underlying53, asIntOf, sizeOf, typeInfo, hq, this.2, part, isAgg, h, hs]

def LogOK (t : HP.TB) : Prop := ∀ e ∈ t.log, e.1 < t.n
theorem LogOK.fresh {t : HP.TB} (h : LogOK t) : ∀ i, HP.lookL t.log t.n i = .none := by
  intro i
  have key : ∀ l : HP.Log, (∀ e ∈ l, e.1 < t.n) → HP.lookL l t.n i = .none := by
    intro l
    induction l with
    | nil => intro _; rfl
    | cons e l ih =>
      intro hl
      obtain ⟨k', s, c, e⟩ := e
      simp only [HP.lookL]
      rw [if_neg (by have := hl _ List.mem_cons_self; simp at this; omega)]
      exact ih fun e he => hl e (List.mem_cons_of_mem _ he)
  exact key _ h

theorem logOK0 : LogOK ⟨1, []⟩ := fun e he => by cases he

theorem LogOK.grow {t : HP.TB} (h : LogOK t) {k : Nat} (hk : k < t.n) {s c : Nat} {e : HP.Ent} : LogOK ⟨t.n + 1, (k, s, c, e) :: t.log⟩ := by
  intro x hx
  rcases List.mem_cons.1 hx with rfl | hx
  · exact Nat.lt_succ_of_lt hk
  · exact Nat.lt_succ_of_lt (h x hx)
theorem LogOK.more {t : HP.TB} (h : LogOK t) {k : Nat} (hk : k < t.n) {s c : Nat} {e : HP.Ent} : LogOK ⟨t.n, (k, s, c, e) :: t.log⟩ := by
  intro x hx
  rcases List.mem_cons.1 hx with rfl | hx
  · exact hk
  · exact h x hx

theorem code_bound (s : Nat) (h : s < 256) : 5 ≤ HP.hlen s ∧ HP.hlen s ≤ 30 ∧ HP.hcode s < 2 ^ HP.hlen s := by
  have := List.all_eq_true.1 HP.code_bounds s (by simpa using h)
  simp at this
  omega
theorem desc_done {f : Nat} {t : HP.TB} {cur code cl : Nat} (h : cl ≤ 8) : HP.desc f t cur code cl = some (t, cur, cl) := by cases f <;> simp [HP.desc, h]
theorem desc_step {f : Nat} {t : HP.TB} {cur code cl : Nat} {R : HP.TB × Nat × Nat} (h : HP.desc f t cur code (cl + 8) = some R) (h8 : 1 ≤ cl) :
    (∃ f' k, HP.lookL t.log cur (code / 2 ^ cl % 256) = .inner k ∧ k < t.n ∧ HP.desc f' t k code cl = some R) ∨
    (∃ f', HP.lookL t.log cur (code / 2 ^ cl % 256) = .none ∧ HP.desc f' ⟨t.n + 1, (cur, code / 2 ^ cl % 256, 1, .inner t.n) :: t.log⟩ t.n code cl = some R) := by
  have h9 : ¬ cl + 8 ≤ 8 := by omega
  cases f with
  | zero => simp [HP.desc, h9] at h
  | succ f =>
    simp only [HP.desc, h9, if_false, Nat.add_sub_cancel] at h
    split at h
    · rename_i k hk
      by_cases hkn : k < t.n
      · rw [if_pos hkn] at h; exact Or.inl ⟨f, k, hk, hkn, h⟩
      · rw [if_neg hkn] at h; cases h
    · cases h
    · rename_i hk; exact Or.inr ⟨f, hk, h⟩
theorem tbAt_step {s : Nat} {t : HP.TB} (hs : s < 256) (h : HP.tbAt s = some t) : ∃ R t', HP.desc 4 t 0 (HP.hcode s) (HP.hlen s) = some R ∧ HP.addLeaf R s (HP.hcode s) = some t' ∧ HP.tbAt (s + 1) = some t' := by
  obtain ⟨t', ht'⟩ := HP.tbAt_some (show s + 1 ≤ 256 by omega)
  have h2 := ht'
  rw [HP.tbAt, h] at h2
  simp only [HP.addSym] at h2
  cases hd : HP.desc 4 t 0 (HP.hcode s) (HP.hlen s) with
  | none => rw [hd] at h2; cases h2
  | some R => rw [hd] at h2; exact ⟨R, t', rfl, h2, ht'⟩

theorem leafV_new {s : Nat} (r : Nat) (h1 : r ≠ 0) (h3 : r < 3) : leafV s (s * 3 + r) = .int .u8 0 := by
  unfold leafV
  rw [if_neg (by omega), if_neg (by omega)]
theorem leafV_next {s cl : Nat} (h : cl8 s = cl) (i : Nat) (_hi : i < 768) : (if i = s * 3 + 1 then Value.int .u8 (cl : Nat) else if i = s * 3 + 2 then .int .u8 (s : Nat) else leafV s i) = leafV (s + 1) i := by
  subst h
  by_cases h1 : i = s * 3 + 1
  · subst h1
    have e : (s * 3 + 1) / 3 = s := by omega
    unfold leafV
    rw [if_pos rfl, if_neg (by omega), if_pos (by omega), if_pos (by omega), e]
  · by_cases h2 : i = s * 3 + 2
    · subst h2
      have e : (s * 3 + 2) / 3 = s := by omega
      unfold leafV
      rw [if_neg (by omega), if_pos rfl, if_neg (by omega), if_pos (by omega), if_neg (by omega), e]
    · rw [if_neg h1, if_neg h2]
      unfold leafV
      by_cases h0 : i % 3 = 0
      · rw [if_pos h0, if_pos h0]
      · by_cases h5 : i / 3 < s
        · simp only [h0, h5, show i / 3 < s + 1 by omega, if_true, if_false]
        · simp only [h0, h5, show ¬ i / 3 < s + 1 by omega, if_false]

set_option maxRecDepth 100000 in
set_option maxHeartbeats 1000000 in
theorem tree_any (w : World) (hl : LenTab w) (hc : CodeTab w) :
    Calls Tryd.prog 74 #[] w fun e w' => e = .returned (.pointer (some ⟨w.heap.size + 1, 0, none⟩)) ∧ TreeMem w.heap.size (leafV 256) ⟨15, HP.finalL⟩ w' ∧ Below w.heap.size w w' := by
  have Hl := Lib.hid hl
  have Hc := Lib.hid hc
  clear hl hc
  go_enter Tryd.func74, Tryd.ntmps74
  go_wp2_with fail
  refine (newNode_any w).mono ?_
  rintro e w1 ⟨rfl, rfl⟩
  have ht : TreeMem w.heap.size (leafV 0) ⟨1, []⟩ ((withNode w).alloc (.cells leaves0 141)) := treeMem_first w (by decide) leaves0_size leaves0_at
  have hz := zero79
  have hne := leaves0_ne
  have hb : Below w.heap.size w ((withNode w).alloc (.cells leaves0 141)) := (((Below.refl _ _).alloc (Nat.le_refl _) _).alloc (by simp) _).alloc (by simp; omega) _
  have e2 : (withNode w).heap.size = w.heap.size + 2 := by simp [withNode]
  generalize leaves0 = ls at *
  have HT := Lib.hid ht
  have HB := Lib.hid hb
  clear ht hb
  have HE := Lib.hid e2
  clear e2
  have CT := Lib.hid (codeVals_cell (Hc.out.below HB.out Hc.out.lt))
  go_wp2_with (refine wpList_load_cells rfl 142 _ rfl 5 rfl codeVals _ CT.out Tryd.underlying142 rfl (by rw [codeVals_len]; kernel_rfl) ?_)
  rw [HE.out, show (w.heap.size + 1 : Nat) = nodeB w.heap.size 0 from rfl]
  generalize hN : w.heap.size = N at *
  have HN := Lib.hid hN
  clear hN CT HE
  go_loopw [16] (fun i wr => ∃ (s : Nat) (t : HP.TB), s ≤ 256 ∧ i = .int .i64 s ∧ HP.tbAt s = some t ∧ LogOK t ∧ TreeMem N (leafV s) t wr ∧ Below N w wr) (fun i _ => 256 - (intOf i).toNat)
  case atStart => exact ⟨0, _, Nat.zero_le _, rfl, rfl, logOK0, HT.out, HB.out⟩
  case round =>
    obtain ⟨s, t, hs, rfl, htb, hlog, hmem, hbel⟩ := hrel
    have Htb := Lib.hid htb
    have Hlog := Lib.hid hlog
    have Hmem := Lib.hid hmem
    have Hbel := Lib.hid hbel
    clear htb hlog hmem hbel HT HB
    by_cases hlt : s < 256
    · have hcode := codeVals_at hlt
      have hlen := (Hl.out.below Hbel.out (by have := LenTab.lt Hl.out; have := HN.out; omega)) s hlt
      have hl30 := hlen_lt s hlt
      generalize codeVals.toArray = cv at *
      have hix := index_code hlt hcode
      clear hcode
      obtain ⟨R, t', hdesc, hleaf, htb'⟩ := tbAt_step hlt Htb.out
      have Hdesc := Lib.hid hdesc
      have Hleaf := Lib.hid hleaf
      have Htb' := Lib.hid htb'
      have hcb := (code_bound s hlt)
      clear hdesc hleaf htb'
      go_wp2_with fail
      rw [show decide ((s : Int) < 256) = true by simp; omega]
      generalize HP.hcode s = code at *
      generalize hcl : HP.hlen s = len at *
      go_loopw [5, 6] (fun c5 p6 wr => ∃ (f : Nat) (t1 : HP.TB) (cur cl : Nat), c5 = .int .u8 cl ∧ p6 = .pointer (some ⟨nodeB N cur, 0, none⟩) ∧ 1 ≤ cl ∧ cl ≤ 30 ∧ (∃ m, len = cl + 8 * m) ∧ cur < t1.n ∧ HP.desc f t1 cur code cl = some R ∧ LogOK t1 ∧ TreeMem N (leafV s) t1 wr ∧ Below N w wr) (fun c5 _ _ => (intOf c5).toNat)
      case atStart => exact ⟨4, t, 0, len, rfl, rfl, by omega, by omega, ⟨0, by omega⟩, Hmem.out.pos, Hdesc.out, Hlog.out, Hmem.out, Hbel.out⟩
      case round =>
        obtain ⟨f, t1, cur, cl, rfl, rfl, h1, h30, ⟨m, hm⟩, hcur, hdesc, hlog, hmem, hbel⟩ := hrel
        have Hm := Lib.hid hm
        clear hm
        have Hd1 := Lib.hid hdesc
        have Hlog1 := Lib.hid hlog
        have Hmem1 := Lib.hid hmem
        have Hbel1 := Lib.hid hbel
        clear hdesc hlog hmem hbel
        by_cases h8 : 8 < cl
        · obtain ⟨c, rfl⟩ : ∃ c, cl = c + 8 := ⟨cl - 8, by omega⟩
          have hm8 : ∃ m, len = c + 8 * m := ⟨m + 1, by have := Hm.out; omega⟩
          have hn := (Hmem1.out.node cur hcur).cell' (i := 0) (by decide) rfl
          rw [show nodeV N cur 0 = .pointer (some ⟨rowB N cur, 0, none⟩) from rfl] at hn
          go_upto_region 12 with (fail)
          rw [show (code : Int) / 2 ^ c % 256 = ((code / 2 ^ c % 256 : Nat) : Int) by simp]
          have hx : code / 2 ^ c % 256 < 256 := Nat.mod_lt _ (by decide)
          rcases desc_step Hd1.out (by omega) with ⟨f', k, hk, hkn, hd'⟩ | ⟨f', hk, hd'⟩
          · have hr := (Hmem1.out.row cur hcur).cell hx
            rw [hk] at hr
            have Hd' := Lib.hid hd'
            clear hd' hk
            generalize code / 2 ^ c % 256 = x at *
            rw [show entV N (.inner k) = .pointer (some ⟨nodeB N k, 0, none⟩) from rfl] at hr
            go_wp2_with fail
            exact ⟨⟨f', t1, k, c, rfl, rfl, by omega, by omega, hm8, hkn, Hd'.out, Hlog1.out, Hmem1.out, Hbel1.out⟩, by simp [intOf]; omega⟩
          · have hr := (Hmem1.out.row cur hcur).cell hx
            rw [hk] at hr
            have Hd' := Lib.hid hd'
            clear hd'
            generalize code / 2 ^ c % 256 = x at *
            rw [show entV N .none = .pointer none from rfl] at hr
            go_upto_region 13 with (fail)
            have hmg : TreeMem N (leafV s) ⟨t1.n + 1, (cur, x, 1, .inner t1.n) :: t1.log⟩ ((withNode wr.drew).setCell ⟨rowB N cur, x, none⟩ (.pointer (some ⟨nodeB N t1.n, 0, none⟩))) := Hmem1.out.drew.grow hcur Hlog1.out.fresh
            have hn2 : (withNode wr.drew).cell? ⟨nodeB N cur, 0, none⟩ = some (.pointer (some ⟨rowB N cur, 0, none⟩)) := (((Hmem1.out.drew.node cur hcur).alloc _).alloc _).cell' (i := 0) (by decide) rfl
            have hr2 : (withNode wr.drew).cell? ⟨rowB N cur, x, none⟩ = some (.pointer none) := (((Hmem1.out.drew.row cur hcur).alloc _).alloc _).cell' hx (by simp only [hk]; rfl)
            have hf2 : (withNode wr.drew).frozen? ⟨rowB N cur, x, none⟩ = false := (((Hmem1.out.drew.row cur hcur).alloc _).alloc _).unfrozen _ _
            have hbg : Below N w ((withNode wr.drew).setCell ⟨rowB N cur, x, none⟩ (.pointer (some ⟨nodeB N t1.n, 0, none⟩))) := (((Hbel1.out.drew.alloc (by have := Hmem1.out.size; simp; omega) _).alloc (by have := Hmem1.out.size; simp; omega) _)).setCell le_rowB _
            have hsz : wr.drew.heap.size + 1 = nodeB N t1.n := by have h1 := Hmem1.out.size; have h2 := Hmem1.out.pos; simp; unfold nodeB; split <;> omega
            have Hmg := Lib.hid hmg
            have Hbg := Lib.hid hbg
            clear hmg hbg
            have hxI : (x : Int) < 256 := by omega
            refine wp_region_held_drew (S := (fun w' => w'.cell? ⟨nodeB N cur, 0, none⟩ = some (.pointer (some ⟨rowB N cur, 0, none⟩)))) (by kernel_rfl) (hn) (fun hHeld => ?_)
            refine takeH 0 (v := ?_) rfl rfl (by kernel_rfl) (by kernel_rfl) (by kernel_rfl) (fun _ _ _ h => h) (Or.inl ⟨by rfl, ?_⟩) (by assumption) ?_
            rotate_left
            · (intro w hSw; (try dsimp only at hSw); go_simp <;> with_reducible rfl)
            simp only [List.setIfInBounds_toArray, List.set_cons_zero, List.set_cons_succ]
            refine takeH 1 (v := ?_) rfl rfl (by kernel_rfl) (by kernel_rfl) (by kernel_rfl) (fun _ _ _ h => h) (Or.inl ⟨by rfl, ?_⟩) (by assumption) ?_
            rotate_left
            · (intro w hSw; (try dsimp only at hSw); go_simp <;> with_reducible rfl)
            simp only [List.setIfInBounds_toArray, List.set_cons_zero, List.set_cons_succ]
            refine takeH 2 (v := ?_) rfl rfl (by kernel_rfl) (by kernel_rfl) (by kernel_rfl) (fun _ _ _ h => h) (Or.inl ⟨by rfl, ?_⟩) (by assumption) ?_
            rotate_left
            · (intro w hSw; (try dsimp only at hSw); go_simp <;> with_reducible rfl)
            simp only [List.setIfInBounds_toArray, List.set_cons_zero, List.set_cons_succ]
            refine takeH 3 (v := ?_) rfl rfl (by kernel_rfl) (by kernel_rfl) (by kernel_rfl) (fun _ _ _ h => h) (Or.inl ⟨by rfl, ?_⟩) (by assumption) ?_
            rotate_left
            · (intro w hSw; (try dsimp only at hSw); go_simp <;> with_reducible rfl)
            simp only [List.setIfInBounds_toArray, List.set_cons_zero, List.set_cons_succ]
            refine takeH 4 (v := ?_) rfl rfl (by kernel_rfl) (by kernel_rfl) (by kernel_rfl) (fun _ _ _ h => h) (Or.inl ⟨by rfl, ?_⟩) (by assumption) ?_
            rotate_left
            · (intro w hSw; (try dsimp only at hSw); go_simp <;> with_reducible rfl)
            simp only [List.setIfInBounds_toArray, List.set_cons_zero, List.set_cons_succ]
            refine takeH 6 (v := ?_) rfl rfl (by kernel_rfl) (by kernel_rfl) (by kernel_rfl) (fun _ _ _ h => h) (Or.inl ⟨by rfl, ?_⟩) (by assumption) ?_
            rotate_left
            · (intro w hSw; (try dsimp only at hSw); go_simp <;> with_reducible rfl)
            simp only [List.setIfInBounds_toArray, List.set_cons_zero, List.set_cons_succ]
            refine wpAnyH_ready (rs := [5]) (by kernel_rfl) (by simp) ?_
            refine AllReadyH.cons rfl (fun K hK => ?_) AllReadyH.nil
            go_simp
            refine (newNode_any _).mono ?_
            rintro e w2 ⟨rfl, rfl⟩
            refine hK.out _ _ hn2 (fun hHeld => ?_)
            clear hK K
            rw [hsz]
            refine takeH 7 (v := ?_) rfl rfl (by kernel_rfl) (by kernel_rfl) (by kernel_rfl) (fun _ _ _ h => h) (Or.inl ⟨by rfl, ?_⟩) (by assumption) ?_
            rotate_left
            · (intro w hSw; (try dsimp only at hSw); go_simp <;> with_reducible rfl)
            simp only [List.setIfInBounds_toArray, List.set_cons_zero, List.set_cons_succ]
            refine wpAnyH_ready (rs := [8]) (by kernel_rfl) (by simp) ?_
            refine AllReadyH.cons rfl (fun K hK => ?_) AllReadyH.nil
            go_simp
            refine hK.out _ _ ((cell_other rowB_node).trans hn2) (fun hHeld => ?_)
            clear hK K
            refine wpAnyH_done (by kernel_rfl) ?_ _
            clear hn hr hn2 hr2 hf2 hHeld
            have hn3 := (Hmg.out.node cur (Nat.lt_succ_of_lt hcur)).cell' (i := 0) (by decide) (show nodeV N cur 0 = .pointer (some ⟨rowB N cur, 0, none⟩) from rfl)
            have hr3 := (Hmg.out.row cur (Nat.lt_succ_of_lt hcur)).cell' hx (v := .pointer (some ⟨nodeB N t1.n, 0, none⟩)) (by simp [HP.lookL, entV])
            generalize (withNode wr.drew).setCell ⟨rowB N cur, x, none⟩ (.pointer (some ⟨nodeB N t1.n, 0, none⟩)) = w3 at *
            go_wp2_with fail
            have hR : ∃ (f : Nat) (t9 : HP.TB) (cur' cl : Nat), Value.int .u8 (c : Nat) = .int .u8 cl ∧ Value.pointer (some ⟨nodeB N t1.n, 0, none⟩) = .pointer (some ⟨nodeB N cur', 0, none⟩) ∧ 1 ≤ cl ∧ cl ≤ 30 ∧ (∃ m, len = cl + 8 * m) ∧ cur' < t9.n ∧ HP.desc f t9 cur' code cl = some R ∧ LogOK t9 ∧ TreeMem N (leafV s) t9 w3 ∧ Below N w w3 := ⟨f', _, t1.n, c, rfl, rfl, by omega, by omega, hm8, Nat.lt_succ_self _, Hd'.out, Hlog1.out.grow hcur, Hmg.out, Hbg.out⟩
            exact ⟨hR, by simp [intOf]; omega⟩
        · have hdd := Hd1.out
          rw [desc_done (by omega)] at hdd
          obtain rfl : (t1, cur, cl) = R := Option.some.inj hdd
          have hlf := Hleaf.out
          unfold HP.addLeaf at hlf
          simp only [] at hlf
          by_cases hcd : 1 ≤ cl ∧ HP.startOf code cl + 2 ^ (8 - cl) ≤ 256
          · rw [if_pos hcd] at hlf
            have Hlf := Lib.hid (Option.some.inj hlf)
            clear hlf hdd Hleaf Hd1 Hdesc Hmem Hbel Hlog
            go_upto_region 17 with (fail)
            have hp : (2 : Nat) ^ (8 - cl) ≤ 128 := by
              have : (2 : Nat) ^ (8 - cl) ≤ 2 ^ 7 := Nat.pow_le_pow_right (by decide) (by omega)
              exact this
            have e1 : ∀ q : Nat, q ≤ 128 → wrap64 (q : Int) = q := fun q hq => IntWalk.wrap64_in _ (by omega)
            rw [show (code : Int) * 2 ^ (8 - cl) % 256 = ((HP.startOf code cl : Nat) : Int) by simp [HP.startOf], show wrap64 (2 ^ (8 - cl)) = ((2 ^ (8 - cl) : Nat) : Int) by rw [show (2 : Int) ^ (8 - cl) = ((2 ^ (8 - cl) : Nat) : Int) by simp]; exact e1 _ hp]
            obtain ⟨_, hcd2⟩ := hcd
            generalize HP.startOf code cl = st at *
            generalize 2 ^ (8 - cl) = cnt at *
            have M1 := Hmem1.out.setLeaf (s * 3 + 2) (.int .u8 (s : Nat))
            have M2 := M1.setLeaf (s * 3 + 1) (.int .u8 (cl : Nat))
            have c1 := Hmem1.out.leaves.cell' (i := s * 3 + 2) (by omega) (leafV_new 2 (by decide) (by decide))
            have c2 := M1.leaves.cell' (i := s * 3 + 1) (by omega) (v := .int .u8 0) (by show (if _ then _ else _) = _; rw [if_neg (by omega)]; exact leafV_new 1 (by decide) (by decide))
            have f1 := Hmem1.out.leaves.unfrozen (s * 3 + 2) none
            have f2 := M1.leaves.unfrozen (s * 3 + 1) none
            have M3 := (M2.congr (leafV_next (by have := Hm.out; unfold cl8; omega))).zeroRun cur st (.leaf s cl)
            have hb2 : Below N w ((wr.setCell ⟨N + 2, s * 3 + 2, none⟩ (.int .u8 (s : Nat))).setCell ⟨N + 2, s * 3 + 1, none⟩ (.int .u8 (cl : Nat))) := (Hbel1.out.setCell (by show N ≤ N + 2; omega) _).setCell (by show N ≤ N + 2; omega) _
            have HM3 := Lib.hid M3
            have HB2 := Lib.hid hb2
            clear M1 M2 M3 hb2
            go_wp2_with fail
            rw [show decide ((8 : Int) < (cl : Int)) = false by simp; omega]
            generalize (code : Int) * 2 ^ (8 - cl) % 4294967296 = pz
            go_loopw [11] (fun i wr => ∃ c : Nat, c ≤ cnt ∧ i = .int .i64 ((st + c : Nat) : Int) ∧ TreeMem N (leafV (s + 1)) ⟨t1.n, (cur, st, c, .leaf s cl) :: t1.log⟩ wr ∧ Below N w wr) (fun i _ => 256 - (intOf i).toNat)
            case atStart => exact ⟨0, Nat.zero_le _, rfl, HM3.out, HB2.out⟩
            case round =>
              obtain ⟨c, hc, rfl, hm3, hb3⟩ := hrel
              have HM := Lib.hid hm3
              have HB := Lib.hid hb3
              clear hm3 hb3 HM3 HB2 Hmem1 Hbel1
              by_cases hlc : c < cnt
              · have hn := (HM.out.node cur hcur).cell' (i := 0) (by decide) (show nodeV N cur 0 = .pointer (some ⟨rowB N cur, 0, none⟩) from rfl)
                have hr : ∃ v, wr.cell? ⟨rowB N cur, st + c, none⟩ = some v := ⟨_, (HM.out.row cur hcur).cell (i := st + c) (by omega)⟩
                have hf := (HM.out.row cur hcur).unfrozen (st + c) none
                have hm4 : TreeMem N (leafV (s + 1)) ⟨t1.n, (cur, st, c + 1, .leaf s cl) :: t1.log⟩ (wr.setCell ⟨rowB N cur, st + c, none⟩ (.pointer (some ⟨N + 2, s * 3, none⟩))).drew := (HM.out.setRun hcur).drew
                have hb4 : Below N w (wr.setCell ⟨rowB N cur, st + c, none⟩ (.pointer (some ⟨N + 2, s * 3, none⟩))).drew := (HB.out.setCell le_rowB _).drew
                have hj1 : st + (c + 1) = st + c + 1 := by omega
                have Hc1 := Lib.hid hlc
                generalize hj : st + c = j at *
                have Hj := Lib.hid hj
                have hjI : (j : Int) < 256 := by omega
                have hjc : (j : Int) < (st : Int) + (cnt : Int) := by omega
                obtain ⟨v, hr⟩ := hr
                have HM4 := Lib.hid hm4
                have HB4 := Lib.hid hb4
                clear hm4 hb4 hlc hj
                go_upto_region 22 with (fail)
                refine wp_region_held_drew (S := (fun w' => w'.cell? ⟨nodeB N cur, 0, none⟩ = some (.pointer (some ⟨rowB N cur, 0, none⟩)))) (by kernel_rfl) (hn) (fun hHeld => ?_)
                refine takeH 0 (v := ?_) rfl rfl (by kernel_rfl) (by kernel_rfl) (by kernel_rfl) (fun _ _ _ h => h) (Or.inl ⟨by rfl, ?_⟩) (by assumption) ?_
                rotate_left
                · (intro w hSw; (try dsimp only at hSw); go_simp <;> with_reducible rfl)
                simp only [List.setIfInBounds_toArray, List.set_cons_zero, List.set_cons_succ]
                refine takeH 1 (v := ?_) rfl rfl (by kernel_rfl) (by kernel_rfl) (by kernel_rfl) (fun _ _ _ h => h) (Or.inl ⟨by rfl, ?_⟩) (by assumption) ?_
                rotate_left
                · (intro w hSw; (try dsimp only at hSw); go_simp <;> with_reducible rfl)
                simp only [List.setIfInBounds_toArray, List.set_cons_zero, List.set_cons_succ]
                refine takeH 2 (v := ?_) rfl rfl (by kernel_rfl) (by kernel_rfl) (by kernel_rfl) (fun _ _ _ h => h) (Or.inl ⟨by rfl, ?_⟩) (by assumption) ?_
                rotate_left
                · (intro w hSw; (try dsimp only at hSw); go_simp <;> with_reducible rfl)
                simp only [List.setIfInBounds_toArray, List.set_cons_zero, List.set_cons_succ]
                refine takeH 3 (v := ?_) rfl rfl (by kernel_rfl) (by kernel_rfl) (by kernel_rfl) (fun _ _ _ h => h) (Or.inl ⟨by rfl, ?_⟩) (by assumption) ?_
                rotate_left
                · (intro w hSw; (try dsimp only at hSw); go_simp <;> with_reducible rfl)
                simp only [List.setIfInBounds_toArray, List.set_cons_zero, List.set_cons_succ]
                refine takeH 4 (v := ?_) rfl rfl (by kernel_rfl) (by kernel_rfl) (by kernel_rfl) (fun _ _ _ h => h) (Or.inl ⟨by rfl, ?_⟩) (by assumption) ?_
                rotate_left
                · (intro w hSw; (try dsimp only at hSw); go_simp <;> with_reducible rfl)
                simp only [List.setIfInBounds_toArray, List.set_cons_zero, List.set_cons_succ]
                refine takeH 5 (v := ?_) rfl rfl (by kernel_rfl) (by kernel_rfl) (by kernel_rfl) (fun _ _ _ h => h) (Or.inl ⟨by rfl, ?_⟩) (by assumption) ?_
                rotate_left
                · (intro w hSw; (try dsimp only at hSw); go_simp <;> with_reducible rfl)
                simp only [List.setIfInBounds_toArray, List.set_cons_zero, List.set_cons_succ]
                refine takeH 6 (v := ?_) rfl rfl (by kernel_rfl) (by kernel_rfl) (by kernel_rfl) (fun _ _ _ h => h) (Or.inl ⟨by rfl, ?_⟩) (by assumption) ?_
                rotate_left
                · (intro w hSw; (try dsimp only at hSw); go_simp <;> with_reducible rfl)
                simp only [List.setIfInBounds_toArray, List.set_cons_zero, List.set_cons_succ]
                refine takeH 7 (v := ?_) rfl rfl (by kernel_rfl) (by kernel_rfl) (by kernel_rfl) (fun _ _ _ h => h) (Or.inl ⟨by rfl, ?_⟩) (by assumption) ?_
                rotate_left
                · (intro w hSw; (try dsimp only at hSw); go_simp <;> with_reducible rfl)
                simp only [List.setIfInBounds_toArray, List.set_cons_zero, List.set_cons_succ]
                refine takeH 8 (v := ?_) rfl rfl (by kernel_rfl) (by kernel_rfl) (by kernel_rfl) (fun _ _ _ h => h) (Or.inl ⟨by rfl, ?_⟩) (by assumption) ?_
                rotate_left
                · (intro w hSw; (try dsimp only at hSw); go_simp <;> with_reducible rfl)
                simp only [List.setIfInBounds_toArray, List.set_cons_zero, List.set_cons_succ]
                refine takeH 9 (v := ?_) rfl rfl (by kernel_rfl) (by kernel_rfl) (by kernel_rfl) (fun _ _ _ h => h) (Or.inl ⟨by rfl, ?_⟩) (by assumption) ?_
                rotate_left
                · (intro w hSw; (try dsimp only at hSw); go_simp <;> with_reducible rfl)
                simp only [List.setIfInBounds_toArray, List.set_cons_zero, List.set_cons_succ]
                refine takeH 10 (v := ?_) rfl rfl (by kernel_rfl) (by kernel_rfl) (by kernel_rfl) (fun _ _ _ h => h) (Or.inl ⟨by rfl, ?_⟩) (by assumption) ?_
                rotate_left
                · (intro w hSw; (try dsimp only at hSw); go_simp <;> with_reducible rfl)
                simp only [List.setIfInBounds_toArray, List.set_cons_zero, List.set_cons_succ]
                refine wpAnyH_ready (rs := [11]) (by kernel_rfl) (by simp) ?_
                refine AllReadyH.cons rfl (fun K hK => ?_) AllReadyH.nil
                go_simp
                refine hK.out _ _ ((cell_other rowB_node).trans hn) (fun hHeld => ?_)
                clear hK K
                refine wpAnyH_done (by kernel_rfl) ?_ _
                clear hn hr hf hHeld
                have ex : wr.drew.setCell ⟨rowB N cur, j, none⟩ (.pointer (some ⟨N + 2, s * 3, none⟩)) = (wr.setCell ⟨rowB N cur, j, none⟩ (.pointer (some ⟨N + 2, s * 3, none⟩))).drew := rfl
                try rw [ex]
                clear ex
                generalize (wr.setCell ⟨rowB N cur, j, none⟩ (.pointer (some ⟨N + 2, s * 3, none⟩))).drew = w3 at *
                go_wp2_with fail
                have hR : ∃ c : Nat, c ≤ cnt ∧ Value.int .i64 ((j : Int) + 1) = .int .i64 ((st + c : Nat) : Int) ∧ TreeMem N (leafV (s + 1)) ⟨t1.n, (cur, st, c, .leaf s cl) :: t1.log⟩ w3 ∧ Below N w w3 := ⟨c + 1, Hc1.out, by rw [hj1]; go_num, HM4.out, HB4.out⟩
                exact ⟨hR, by simp [intOf]; omega⟩
              · obtain rfl : c = cnt := by omega
                go_wp2_with fail
                have e := Hlf.out
                exact ⟨⟨s + 1, t', by omega, by go_num, Htb'.out, by rw [← e]; exact Hlog1.out.more hcur, by rw [← e]; exact HM.out, HB.out⟩, by simp [intOf]; omega⟩
          · rw [if_neg hcd] at hlf; cases hlf
    · obtain rfl : s = 256 := by omega
      go_wp2_with fail
      go_ret
      have e := Htb.out
      rw [HP.finalIs] at e
      obtain rfl := Option.some.inj e
      exact ⟨by rw [HN.out]; rfl, by rw [HN.out]; exact Hmem.out, by rw [HN.out]; exact Hbel.out⟩
#print axioms tree_any
end Go.Proofs.YtmlnmllnlekcgaaDoor
/-
  bytes.Buffer's contracts, laid here by the shelf's command.
-/
namespace Go.Proofs.YtmlnmllnlekcgaaDoor
open Go.Shelf Go.RowKit
def lays179_ren : Go.Shelf.Ren := ⟨fun | 179 => 75 | 251 => 53 | 252 => 54 | 181 => 42 | 184 => 45 | 290 => 58 | 324 => 67 | n => n, fun | 130 => 105 | 5 => 5 | 75 => 80 | 0 => 0 | 93 => 75 | 91 => 73 | 3 => 3 | 131 => 106 | 4 => 4 | 37 => 28 | 20 => 20 | 80 => 130 | 9 => 9 | n => n, fun | 14 => 4 | n => n⟩
theorem lays179 : Go.Proofs.LaysM.n179 Tryd.prog lays179_ren := {
  mixed := by kernel_rfl
  f179 := Tryd.func75.trans (congrArg some (by kernel_rfl))
  f181 := Tryd.func42.trans (congrArg some (by kernel_rfl))
  f184 := Tryd.func45.trans (congrArg some (by kernel_rfl))
  f251 := Tryd.func53.trans (congrArg some (by kernel_rfl))
  f252 := Tryd.func54.trans (congrArg some (by kernel_rfl))
  f290 := Tryd.func58.trans (congrArg some (by kernel_rfl))
  f324 := Tryd.func67.trans (congrArg some (by kernel_rfl))
  t0 := Tryd.underlying0
  a0 := Tryd.isAgg0
  z0 := Tryd.sizeOf0
  v0 := Tryd.zeroValue0
  t3 := Tryd.underlying3
  a3 := Tryd.isAgg3
  z3 := Tryd.sizeOf3
  v3 := Tryd.zeroValue3
  t4 := Tryd.underlying4
  a4 := Tryd.isAgg4
  z4 := Tryd.sizeOf4
  v4 := Tryd.zeroValue4
  t5 := Tryd.underlying5
  a5 := Tryd.isAgg5
  z5 := Tryd.sizeOf5
  v5 := Tryd.zeroValue5
  t20 := Tryd.underlying20
  a20 := Tryd.isAgg20
  z20 := Tryd.sizeOf20
  v20 := Tryd.zeroValue20
  t37 := Tryd.underlying28
  a37 := Tryd.isAgg28
  z37 := Tryd.sizeOf28
  v37 := Tryd.zeroValue28
  t75 := Tryd.underlying80
  a75 := Tryd.isAgg80
  z75 := Tryd.sizeOf80
  v75 := Tryd.zeroValue80
  t91 := Tryd.underlying73
  a91 := Tryd.isAgg73
  z91 := Tryd.sizeOf73
  v91 := Tryd.zeroValue73
  t93 := Tryd.underlying75
  a93 := Tryd.isAgg75
  z93 := Tryd.sizeOf75
  v93 := Tryd.zeroValue75
  t130 := Tryd.underlying105
  a130 := Tryd.isAgg105
  z130 := Tryd.sizeOf105
  v130 := Tryd.zeroValue105
  t131 := Tryd.underlying106
  a131 := Tryd.isAgg106
  z131 := Tryd.sizeOf106
  v131 := Tryd.zeroValue106
  g14 := by kernel_rfl
  t9 := Tryd.underlying9
  a9 := Tryd.isAgg9
  z9 := Tryd.sizeOf9
  v9 := Tryd.zeroValue9
  t80 := Tryd.underlying130
  a80 := Tryd.isAgg130
  z80 := Tryd.sizeOf130
  v80 := Tryd.zeroValue130
  i0 := by kernel_rfl
  i3 := by kernel_rfl
  i4 := by kernel_rfl
  i5 := by kernel_rfl
  i9 := by kernel_rfl
  i20 := by kernel_rfl
  i37 := by kernel_rfl
  i75 := by kernel_rfl
  i80 := by kernel_rfl
  i91 := by kernel_rfl
  i93 := by kernel_rfl
  i130 := by kernel_rfl
  i131 := by kernel_rfl
  m14 := by kernel_rfl }
def lays182_ren : Go.Shelf.Ren := ⟨fun | 182 => 72 | n => n, fun | 130 => 105 | 9 => 9 | 4 => 4 | 0 => 0 | 93 => 75 | 37 => 28 | 3 => 3 | 91 => 73 | 5 => 5 | n => n, fun | n => n⟩
theorem lays182 : Go.Proofs.LaysM.n182 Tryd.prog lays182_ren := {
  mixed := by kernel_rfl
  f182 := Tryd.func72.trans (congrArg some (by kernel_rfl))
  t0 := Tryd.underlying0
  a0 := Tryd.isAgg0
  z0 := Tryd.sizeOf0
  v0 := Tryd.zeroValue0
  t3 := Tryd.underlying3
  a3 := Tryd.isAgg3
  z3 := Tryd.sizeOf3
  v3 := Tryd.zeroValue3
  t4 := Tryd.underlying4
  a4 := Tryd.isAgg4
  z4 := Tryd.sizeOf4
  v4 := Tryd.zeroValue4
  t9 := Tryd.underlying9
  a9 := Tryd.isAgg9
  z9 := Tryd.sizeOf9
  v9 := Tryd.zeroValue9
  t37 := Tryd.underlying28
  a37 := Tryd.isAgg28
  z37 := Tryd.sizeOf28
  v37 := Tryd.zeroValue28
  t93 := Tryd.underlying75
  a93 := Tryd.isAgg75
  z93 := Tryd.sizeOf75
  v93 := Tryd.zeroValue75
  t130 := Tryd.underlying105
  a130 := Tryd.isAgg105
  z130 := Tryd.sizeOf105
  v130 := Tryd.zeroValue105
  t5 := Tryd.underlying5
  a5 := Tryd.isAgg5
  z5 := Tryd.sizeOf5
  v5 := Tryd.zeroValue5
  t91 := Tryd.underlying73
  a91 := Tryd.isAgg73
  z91 := Tryd.sizeOf73
  v91 := Tryd.zeroValue73
  i0 := by kernel_rfl
  i3 := by kernel_rfl
  i4 := by kernel_rfl
  i5 := by kernel_rfl
  i9 := by kernel_rfl
  i37 := by kernel_rfl
  i91 := by kernel_rfl
  i93 := by kernel_rfl
  i130 := by kernel_rfl }
def lays183_ren : Go.Shelf.Ren := ⟨fun | 183 => 44 | n => n, fun | 130 => 105 | 37 => 28 | 0 => 0 | 93 => 75 | 3 => 3 | 5 => 5 | 91 => 73 | n => n, fun | n => n⟩
theorem lays183 : Go.Proofs.LaysM.n183 Tryd.prog lays183_ren := {
  mixed := by kernel_rfl
  f183 := Tryd.func44.trans (congrArg some (by kernel_rfl))
  t0 := Tryd.underlying0
  a0 := Tryd.isAgg0
  z0 := Tryd.sizeOf0
  v0 := Tryd.zeroValue0
  t3 := Tryd.underlying3
  a3 := Tryd.isAgg3
  z3 := Tryd.sizeOf3
  v3 := Tryd.zeroValue3
  t37 := Tryd.underlying28
  a37 := Tryd.isAgg28
  z37 := Tryd.sizeOf28
  v37 := Tryd.zeroValue28
  t93 := Tryd.underlying75
  a93 := Tryd.isAgg75
  z93 := Tryd.sizeOf75
  v93 := Tryd.zeroValue75
  t130 := Tryd.underlying105
  a130 := Tryd.isAgg105
  z130 := Tryd.sizeOf105
  v130 := Tryd.zeroValue105
  t5 := Tryd.underlying5
  a5 := Tryd.isAgg5
  z5 := Tryd.sizeOf5
  v5 := Tryd.zeroValue5
  t91 := Tryd.underlying73
  a91 := Tryd.isAgg73
  z91 := Tryd.sizeOf73
  v91 := Tryd.zeroValue73
  i0 := by kernel_rfl
  i3 := by kernel_rfl
  i5 := by kernel_rfl
  i37 := by kernel_rfl
  i91 := by kernel_rfl
  i93 := by kernel_rfl
  i130 := by kernel_rfl }
def lays184_ren : Go.Shelf.Ren := ⟨fun | 184 => 45 | n => n, fun | 130 => 105 | 0 => 0 | 93 => 75 | 37 => 28 | 3 => 3 | 91 => 73 | 5 => 5 | n => n, fun | n => n⟩
theorem lays184 : Go.Proofs.LaysM.n184 Tryd.prog lays184_ren := {
  mixed := by kernel_rfl
  f184 := Tryd.func45.trans (congrArg some (by kernel_rfl))
  t0 := Tryd.underlying0
  a0 := Tryd.isAgg0
  z0 := Tryd.sizeOf0
  v0 := Tryd.zeroValue0
  t3 := Tryd.underlying3
  a3 := Tryd.isAgg3
  z3 := Tryd.sizeOf3
  v3 := Tryd.zeroValue3
  t37 := Tryd.underlying28
  a37 := Tryd.isAgg28
  z37 := Tryd.sizeOf28
  v37 := Tryd.zeroValue28
  t91 := Tryd.underlying73
  a91 := Tryd.isAgg73
  z91 := Tryd.sizeOf73
  v91 := Tryd.zeroValue73
  t93 := Tryd.underlying75
  a93 := Tryd.isAgg75
  z93 := Tryd.sizeOf75
  v93 := Tryd.zeroValue75
  t130 := Tryd.underlying105
  a130 := Tryd.isAgg105
  z130 := Tryd.sizeOf105
  v130 := Tryd.zeroValue105
  t5 := Tryd.underlying5
  a5 := Tryd.isAgg5
  z5 := Tryd.sizeOf5
  v5 := Tryd.zeroValue5
  i0 := by kernel_rfl
  i3 := by kernel_rfl
  i5 := by kernel_rfl
  i37 := by kernel_rfl
  i91 := by kernel_rfl
  i93 := by kernel_rfl
  i130 := by kernel_rfl }

theorem Buffer_WriteByte (B b : Nat) (bs : List Value) (c : Int) (w : World) (h : Lib.IsBuffer 75 5 B b bs w) (hBw : B ≤ w.heap.size) (h1 : ∀ v ∈ bs, v.oneCell' = true) (hlim : bs.length + 1 ≤ 140737488355328) :
    Calls Tryd.prog 75 #[.pointer (some ⟨b, 0, none⟩), .int .u8 c] w fun e w' => e = .returned .nilIface ∧ Lib.IsBuffer 75 5 B b (bs ++ [.int .u8 c]) w' ∧ Below B w w' ∧ Lib.OthersKept 5 (some b) w w' := Any.Buffer_WriteByte_kept lays179 B b bs c w h hBw h1 hlim
theorem Buffer_String (B b : Nat) (l : List UInt8) (w : World) (h : Lib.IsBuffer 75 5 B b (Lib.byteCells l) w) :
    Calls Tryd.prog 72 #[.pointer (some ⟨b, 0, none⟩)] w fun e w' => e = .returned (.string ⟨l.toArray⟩) ∧ ∃ n, w' = w.drewN n := Any.Buffer_String lays182 B b l w h
theorem Buffer_Reset (B b : Nat) (bs : List Value) (w : World) (h : Lib.IsBuffer 75 5 B b bs w) :
    Calls Tryd.prog 45 #[.pointer (some ⟨b, 0, none⟩)] w fun e w' => e = .returned (.tuple #[]) ∧ Lib.IsBuffer 75 5 B b [] w' ∧ Below B w w' := Any.Buffer_Reset lays184 B b bs w h
end Go.Proofs.YtmlnmllnlekcgaaDoor
/-
  PLAIN: how the decoder's number of pending bits goes with the bits themselves.
-/
namespace Go.Proofs.YtmlnmllnlekcgaaDoor.HP

theorem split_bits {q : List Bool} (cl : Nat) {m : Nat} (hq : q.length = m + cl) : ofBits q = ofBits (q.take cl) * 2 ^ m + ofBits (q.drop cl) := by
  have e : ofBits (q.take cl ++ q.drop cl) = ofBits (q.take cl) * 2 ^ (q.drop cl).length + ofBits (q.drop cl) := ofBits_append _ _
  rw [List.take_append_drop, List.length_drop, hq, Nat.add_sub_cancel] at e
  exact e

theorem low_bits {C m cl : Nat} {q : List Bool} (hq : q.length = m + cl) (hC : C % 2 ^ (m + cl) = ofBits q) : C % 2 ^ m = ofBits (q.drop cl) := by
  have h1 := split_bits cl hq
  have h2 : ofBits (q.drop cl) < 2 ^ m := by
    have := ofBits_lt (q.drop cl)
    rw [List.length_drop, hq, Nat.add_sub_cancel] at this
    exact this
  have h3 : C % 2 ^ m = C % 2 ^ (m + cl) % 2 ^ m := by
    rw [Nat.mod_mod_of_dvd _ (Nat.pow_dvd_pow 2 (Nat.le_add_right m cl))]
  rw [h3, hC, h1, Nat.mul_comm, Nat.mul_add_mod, Nat.mod_eq_of_lt h2]

theorem top8 {C m : Nat} {q : List Bool} (hq : q.length = m + 8) (hC : C % 2 ^ (m + 8) = ofBits q) : C / 2 ^ m % 256 = ofBits (q.take 8) := by
  have h1 := split_bits 8 hq
  have h2 : ofBits (q.drop 8) < 2 ^ m := by
    have := ofBits_lt (q.drop 8)
    rw [List.length_drop, hq, Nat.add_sub_cancel] at this
    exact this
  have h3 : C / 2 ^ m % 256 = C % 2 ^ (m + 8) / 2 ^ m := by
    rw [Nat.pow_add, Nat.mod_mul_right_div_self]
  rw [h3, hC, h1, Nat.mul_comm, Nat.mul_add_div (Nat.two_pow_pos m), Nat.div_eq_of_lt h2, Nat.add_zero]

theorem ofBits_zeros (j : Nat) : ofBits (List.replicate j false) = 0 := by
  induction j with
  | zero => rfl
  | succ j ih => rw [List.replicate_succ, ofBits_cons, ih]; simp

theorem pad_bits {C m : Nat} {q : List Bool} (_hq : q.length = m) (hm : m ≤ 8) (hC : C % 2 ^ m = ofBits q) : C * 2 ^ (8 - m) % 256 = ofBits (q ++ List.replicate (8 - m) false) := by
  rw [ofBits_append, ofBits_zeros, List.length_replicate, Nat.add_zero, ← hC, ← Nat.mul_mod_mul_right, ← Nat.pow_add, Nat.add_sub_of_le hm]

theorem ones_bits (m : Nat) : ofBits (List.replicate m true) = 2 ^ m - 1 := by
  rw [← bitsOf_ones, ofBits_bitsOf, Nat.mod_eq_of_lt (by have := Nat.two_pow_pos m; omega)]

theorem all_ones {C m : Nat} {q : List Bool} (hq : q.length = m) (hC : C % 2 ^ m = ofBits q) : C % 2 ^ m = 2 ^ m - 1 ↔ q.all id = true := by
  rw [hC, ← ones_bits]
  constructor
  · intro h
    have := ofBits_inj (by rw [hq, List.length_replicate]) h
    rw [this]; simp
  · intro h
    have : q = List.replicate m true := by
      rw [← hq, List.eq_replicate_iff]
      exact ⟨rfl, fun b hb => by simpa using List.all_eq_true.1 h b hb⟩
    rw [← this]

theorem pl_le : ∀ k, k < 15 → pl k ≤ 24 := by decide
theorem leaf_cl {k i s cl : Nat} (h : tab k i = .leaf s cl) : s < 256 ∧ 1 ≤ cl ∧ cl ≤ 8 ∧ (hlen s - 1) % 8 + 1 = cl := by
  obtain ⟨h1, h2, h3, _, h4, _⟩ := leaf_ok h
  have e : pl k = 8 * (pathL.getD k []).length := rfl
  exact ⟨h1, h2, h3, by omega⟩
end Go.Proofs.YtmlnmllnlekcgaaDoor.HP
