/-
  Texts of this seat, one behind the other: TabAdd, TabAdd2, ETable, EShould, ELit, EMem, ESink. What each one shows stands at its head. No condition.
-/
import Derived.Test.YtjdmaflkafmmpaaDoorMe4
import Derived.Deep.DeepMust
import Derived.OneCell
/-
  Contracts of addEntry and add.
-/
namespace Go.Proofs.YtjdmaflkafmmpaaDoor
open Go.ChangeShapes Go.WideShapes Go.ChangeAt Go.RowKit

def zeroHF : Value := .agg #[.string ByteArray.empty, .string ByteArray.empty, .bool false]
theorem infoHFs : (Tryd.prog.info? 57).map (fun i => (i.zero, i.size, i.bytes)) = some (some zeroHF, 3, 40) := by kernel_rfl

theorem step_append_own_at {P : Program} {w : World} {ops : Array Oper} {o : Oper} {a : Act} {K : Act → World → Prop} {Q : Exit → Act → World → Prop} {E : Prop} (hgd : o.guard = none) (d : Nat) (hdst : o.dst = some d) (s x : Operand) (t : TypeId)
    (ho : o.op = .call { callee := .builtin .append, args := #[s, x], argTypes := #[t, t] })
    (base : Nat) (e : TypeId) (i : TypeInfo) (z : Value) (size bytes : Nat) (ht : P.underlying t = some (.slice e)) (hi : P.info? e = some i) (hz : i.zero = some z)
    (hsize : i.size = size) (hby : i.bytes = bytes) (hzs : z.cells.size = size) (hsz : 0 < size)
    (v : Value) (n : Nat) (xs : List Value) (hs : a.eval s = v) (hown : w.ownsRow base e size v n xs)
    (ad : Addr) (m c : Nat) (news : List Value) (hx : a.eval x = .slice (some ad) m c) (hl : news.length = m * size) (hnews : ∀ j u, news[j]? = some u → w.cell? (ad.add j) = some u) (h1 : ∀ u ∈ news, u.oneCell' = true)
    (h63 : n + m ≤ maxLen) (hbytes : (n + m) * bytes ≤ 140737488355328) (hbase : base ≤ w.heap.size)
    (h : ∀ v' w', w'.ownsRow base e size v' (n + m) (xs ++ news) → w.grownBy w' v.ownBlock → (v' = .slice none 0 0 ↔ v = .slice none 0 0 ∧ m = 0) → (v'.ownBlock = v.ownBlock ∨ v'.ownBlock = some w.heap.size) → K { a with tmps := a.tmps.setIfInBounds d v' } w') :
    if Region.wanted o (yielded ops a.tmps) = true then Oper.wp P o a w K Q else E := by
  rw [if_pos (by simp [Region.wanted, hgd])]
  obtain ⟨v', w', hr, h2, h3, h4, h5⟩ := run_append_own_at (P := P) w base t o.type e i z size bytes ht hi hz hsize hby hzs hsz v n xs hown ad m c news hl hnews h1 h63 hbytes hbase
  unfold Oper.wp execOp
  simp only [ho, resolve, invoke, builtin, Sem.run_bind, Sem.run_pure, Result.andThen_ok, List.map_toArray, List.map_cons, List.map_nil, hs, hx, hr]
  have h' := h v' w' h2 h3 h4 h5
  show K (a.put o.dst v') w'
  rw [hdst]
  exact h'

theorem add_end {B : Nat} {w2 w3 : World} {b n : Nat} {f : Nat → Value} {ents : List (HD.Bs × HD.Bs)} {cnt : Nat} {ev v3 u : Value} {m1 m2 : Nat} {l1 : List (HD.Bs × Nat)} {l2 : List ((HD.Bs × HD.Bs) × Nat)} {es : HD.Bs × HD.Bs} {o : Obj}
    (h : TabMem B w2 b n f ents cnt ev m1 m2 l1 l2) (hu : ev = u) (hg : (w2.alloc o).grownBy w3 u.ownBlock) (hown : w3.ownsRow B 57 3 v3 (ents.length + 1) (entCells ents ++ eCells es)) (hat : v3.ownBlock = u.ownBlock ∨ v3.ownBlock = some (w2.alloc o).heap.size) :
    TabMem B (w3.setCell ⟨b, 1, none⟩ v3) b n (putF f 1 v3) (ents ++ [es]) cnt v3 m1 m2 l1 l2 ∧ Upd (tabOwn b ev m1 m2) w2 (w3.setCell ⟨b, 1, none⟩ v3) ∧ (v3.ownBlock = ev.ownBlock ∨ ∃ g, v3.ownBlock = some g ∧ w2.heap.size ≤ g) := by
  subst hu
  have hsz : (w2.alloc o).heap.size = w2.heap.size + 1 := by simp
  have hold : ∀ i, i < w2.heap.size → ev.ownBlock ≠ some i → w3.heap[i]? = w2.heap[i]? := fun i hi hn => (hg.block i (by omega) (fun e => hn e.symm)).trans (Below.heap_alloc w2 o i hi)
  have hv3 : v3.ownBlock = ev.ownBlock ∨ ∃ g, v3.ownBlock = some g ∧ w2.heap.size ≤ g := hat.imp id fun e => ⟨_, e, by omega⟩
  have hne : v3.ownBlock ≠ some b := by
    rcases hv3 with e | ⟨g, e, hle⟩
    · rw [e]; exact h.ne
    · rw [e]; intro e2; have := Option.some.inj e2; have := h.row.lt; omega
  have hr : Row w3 b n f := h.row.of_heap (hold b h.row.lt h.ne)
  refine ⟨⟨hr.set 1 v3, h.big, by simp [putF, h.c0], by simp [putF], by simp [putF, h.c2], by simp [putF, h.c3], by simp [putF, h.c4], ?_, hne, h.mm, h.lo, ?_, ?_⟩, ?_, hv3⟩
  · rw [List.length_append, List.length_singleton, entCells_append]
    have e : entCells [es] = eCells es := by simp [entCells]
    rw [e]
    exact ownsRow_setCell_other hown (a := ⟨b, 1, none⟩) hne v3
  · exact h.map1.of_heap ((other_set h.b_m1).trans (hold m1 h.map1.lt h.ev_m1))
  · exact h.map2.of_heap ((other_set h.b_m2).trans (hold m2 h.map2.lt h.ev_m2))
  · have h0 : Upd (tabOwn b ev m1 m2) w2 w3 := ⟨hg.os, hg.tape, hg.output, by have := hg.size; omega, fun k hk hn => hold k hk (fun e => hn (Or.inr (Or.inl e)))⟩
    exact h0.setCell (Or.inl (Or.inl rfl)) _

set_option maxHeartbeats 4000000 in
set_option maxRecDepth 100000 in
theorem addEntry_any (B : Nat) (w : World) (b n : Nat) (f : Nat → Value) (ents : List (HD.Bs × HD.Bs)) (cnt : Nat) (ev : Value) (m1 m2 : Nat) (l1 : List (HD.Bs × Nat)) (l2 : List ((HD.Bs × HD.Bs) × Nat)) (es : HD.Bs × HD.Bs)
    (hT : TabMem B w b n f ents cnt ev m1 m2 l1 l2) (hB : B ≤ w.heap.size) (hc : cnt + ents.length < 2 ^ 62) (hlen : ents.length ≤ 2 ^ 40) :
    Calls Tryd.prog 62 #[.pointer (some ⟨b, 0, none⟩), .agg #[.string ⟨es.1.toArray⟩, .string ⟨es.2.toArray⟩, .bool false]] w fun e w' => e = .returned (.tuple #[]) ∧
      ∃ (ev' : Value), (ev'.ownBlock = ev.ownBlock ∨ ∃ g, ev'.ownBlock = some g ∧ w.heap.size ≤ g) ∧
        TabMem B w' b n (putF f 1 ev') (ents ++ [es]) cnt ev' m1 m2 (mput l1 es.1 (ents.length + cnt + 1)) (mput l2 es (ents.length + cnt + 1)) ∧ Upd (tabOwn b ev m1 m2) w w' := by
  have hbig := hT.big
  obtain ⟨a, cap, hev⟩ := own_form hT.own
  have c1 := hT.row.cell' (i := 1) (v := .slice a ents.length cap) (by omega) (by rw [hT.c1, hev])
  have c2 := hT.row.cell' (i := 2) (by omega) hT.c2
  have c3 := hT.row.cell' (i := 3) (by omega) hT.c3
  have hbl := hT.row.lt
  obtain ⟨idn, hid⟩ : ∃ idn, idn = ents.length + cnt + 1 := ⟨_, rfl⟩
  have hw1 : IntKind.u64.wrap (ents.length : Int) = (ents.length : Int) := by simp only [IntKind.wrap, IntKind.bits, IntKind.signed]; simp; omega
  have hw2 : IntKind.u64.wrap ((ents.length : Int) + (cnt : Int)) = (ents.length : Int) + (cnt : Int) := by simp only [IntKind.wrap, IntKind.bits, IntKind.signed]; simp; omega
  have hw3 : IntKind.u64.wrap ((ents.length : Int) + (cnt : Int) + 1) = (idn : Int) := by simp only [IntKind.wrap, IntKind.bits, IntKind.signed]; simp; omega
  have HTW := Lib.hid (hT.alloc (.cells #[.string ⟨es.1.toArray⟩, .string ⟨es.2.toArray⟩, .bool false] 57))
  have HUW : Hid (Upd (tabOwn b ev m1 m2) w (w.alloc (.cells #[.string ⟨es.1.toArray⟩, .string ⟨es.2.toArray⟩, .bool false] 57))) := (Upd.refl _ w).alloc _
  have hc1w := HTW.out.row.cell' (i := 1) (v := .slice a ents.length cap) (by omega) (by rw [HTW.out.c1, hev])
  have Hc1w := Lib.hid hc1w
  have Hm1 := Lib.hid hT.map1.lt
  have Hm2 := Lib.hid hT.map2.lt
  have Hbl0 := Lib.hid hbl
  have Hown0 := Lib.hid hT.own
  have Hev := Lib.hid hev
  have Hid' := Lib.hid hid
  rw [← hid]
  clear hT hev hid hc1w
  go_enter Tryd.func62, Tryd.ntmps62
  go_wp2_with fail
  go_quiet ((go_at_call 56; exact Calls.quiet_of_same (len_same b _ _ _ _ (by exact Hc1w.out))))
  go_wp2_with fail
  refine stillTail 7 (by kernel_rfl) (by kernel_rfl) ?_
  simp only [List.take_succ_cons, List.take_zero, List.drop_succ_cons, List.drop_zero]
  repeat (refine wpStill_step (fun K hK => ?_); go_simp; (refine hK _ ?_; clear hK K))
  refine wpStill_nil ?_
  refine wpList_mput (key_string Tryd.underlying9) Tryd.underlying67 (b := m1) (l := l1) (by exact HTW.out.map1) es.1 idn rfl (.tmp 17) (.tmp 19) (.tmp 20) rfl rfl rfl rfl ?_
  intro w1 hm1 hg1 hz1
  have HT1 := Lib.hid (TabMem.put1 HTW.out hm1 ⟨hg1.os, hg1.tape, hg1.output, hg1.size, hg1.block⟩)
  have HU1 := Lib.hid (Upd.step HUW.out ⟨hg1.os, hg1.tape, hg1.output, hg1.size, fun i hi hn => hg1.block i hi (fun e => hn (Or.inr (Or.inr (Or.inl (Option.some.inj e)))))⟩)
  have hbx := (hg1.block w.heap.size (by show _ < (w.alloc _).heap.size; simp) (fun e => by have := Hm1.out; have := Option.some.inj e; omega)).trans (heap_alloc_new w (.cells #[.string ⟨es.1.toArray⟩, .string ⟨es.2.toArray⟩, .bool false] 57))
  have b0 := Lib.cell_of_heap hbx 0
  have b1 := Lib.cell_of_heap hbx 1
  have b2 := Lib.cell_of_heap hbx 2
  rw [show ((#[Value.string ⟨es.1.toArray⟩, .string ⟨es.2.toArray⟩, .bool false] : Array Value))[0]? = some (.string ⟨es.1.toArray⟩) from rfl] at b0
  rw [show ((#[Value.string ⟨es.1.toArray⟩, .string ⟨es.2.toArray⟩, .bool false] : Array Value))[1]? = some (.string ⟨es.2.toArray⟩) from rfl] at b1
  rw [show ((#[Value.string ⟨es.1.toArray⟩, .string ⟨es.2.toArray⟩, .bool false] : Array Value))[2]? = some (.bool false) from rfl] at b2
  have Hbx := Lib.hid hbx
  have d4 := HT1.out.row.cell' (i := 4) (by omega) HT1.out.c4
  have hbl1 := HT1.out.row.lt
  clear c1 c2 c3 hbl hw1 hw2 hw3 hm1 hg1 hz1 hbx HTW HUW
  go_wp2_with fail
  refine stillTail 10 (by kernel_rfl) (by kernel_rfl) ?_
  simp only [List.take_succ_cons, List.take_zero, List.drop_succ_cons, List.drop_zero]
  repeat (refine wpStill_step (fun K hK => ?_); go_simp; (refine hK _ ?_; clear hK K))
  refine wpStill_nil ?_
  refine wpList_mput key_pair Tryd.underlying68 (b := m2) (l := l2) (by exact HT1.out.map2) es idn rfl (.tmp 24) (.tmp 29) (.tmp 30) rfl rfl rfl rfl ?_
  intro w2 hm2 hg2 hz2
  have HT2 := Lib.hid (TabMem.put2 HT1.out hm2 ⟨hg2.os, hg2.tape, hg2.output, hg2.size, hg2.block⟩)
  have HU2 := Lib.hid (Upd.step HU1.out ⟨hg2.os, hg2.tape, hg2.output, hg2.size, fun i hi hn => hg2.block i hi (fun e => hn (Or.inr (Or.inr (Or.inr (Option.some.inj e)))))⟩)
  have hbx := (hg2.block w.heap.size (by exact Lib.lt_of_heap Hbx.out) (fun e => by have := Hm2.out; have := Option.some.inj e; omega)).trans Hbx.out
  have Hbx2 := Lib.hid hbx
  have hz2' : w.heap.size ≤ w2.heap.size := Nat.le_of_lt (Lib.lt_of_heap hbx)
  clear b0 b1 b2
  have b0 := Lib.cell_of_heap hbx 0
  have b1 := Lib.cell_of_heap hbx 1
  have b2 := Lib.cell_of_heap hbx 2
  rw [show ((#[Value.string ⟨es.1.toArray⟩, .string ⟨es.2.toArray⟩, .bool false] : Array Value))[0]? = some (.string ⟨es.1.toArray⟩) from rfl] at b0
  rw [show ((#[Value.string ⟨es.1.toArray⟩, .string ⟨es.2.toArray⟩, .bool false] : Array Value))[1]? = some (.string ⟨es.2.toArray⟩) from rfl] at b1
  rw [show ((#[Value.string ⟨es.1.toArray⟩, .string ⟨es.2.toArray⟩, .bool false] : Array Value))[2]? = some (.bool false) from rfl] at b2
  have e1 := HT2.out.row.cell' (i := 1) (v := .slice a ents.length cap) (by omega) (by rw [HT2.out.c1, Hev.out])
  have hf1 := fun i => HT2.out.row.unfrozen i none
  have hbl2 := HT2.out.row.lt
  clear d4 hbl1 hm2 hg2 hz2 hbx HT1 HU1
  obtain ⟨i0, hi, hz0, hz1, hzb⟩ := info_parts infoHFs
  go_wp2_with fail
  have hown2 := (HT2.out.alloc (.cells #[.string ⟨es.1.toArray⟩, .string ⟨es.2.toArray⟩, .bool false] 57)).own
  rw [Hev.out] at hown2
  have Hown2 := Lib.hid hown2
  have HN := Lib.hid (news_of_new w2 (eCells es) 57)
  have h1c : ∀ u ∈ eCells es, u.oneCell' = true := fun u hu => by
    simp [eCells] at hu
    rcases hu with rfl | rfl | rfl <;> rfl
  have H1c := Lib.hid h1c
  have hne := HT2.out.ne
  rw [Hev.out] at hne
  have Hne := Lib.hid hne
  clear hown2 h1c hne
  have Hbl2 := Lib.hid (Lib.lt_of_heap Hbx2.out)
  have Hbw := Lib.hid (show b ≠ w.heap.size by have := Hbl0.out; omega)
  have Hbn : Hid ((Value.slice a ents.length cap).ownBlock ≠ some w.heap.size) := by
    intro e
    have := (Hown0.out.lt _ (by rw [Hev.out]; exact e)).2
    omega
  have hS0 : w2.cell? ⟨w.heap.size, 0, none⟩ = some (.string ⟨es.1.toArray⟩) ∧ w2.cell? ⟨w.heap.size, 1, none⟩ = some (.string ⟨es.2.toArray⟩) ∧ w2.cell? ⟨w.heap.size, 2, none⟩ = some (.bool false) := ⟨b0, b1, b2⟩
  have HS0 := Lib.hid hS0
  have hS1 : (w2.alloc (.cells #[.string ⟨es.1.toArray⟩, .string ⟨es.2.toArray⟩, .bool false] 57)).cell? ⟨w.heap.size, 0, none⟩ = some (.string ⟨es.1.toArray⟩) ∧ (w2.alloc (.cells #[.string ⟨es.1.toArray⟩, .string ⟨es.2.toArray⟩, .bool false] 57)).cell? ⟨w.heap.size, 1, none⟩ = some (.string ⟨es.2.toArray⟩) ∧ (w2.alloc (.cells #[.string ⟨es.1.toArray⟩, .string ⟨es.2.toArray⟩, .bool false] 57)).cell? ⟨w.heap.size, 2, none⟩ = some (.bool false) := by
    have h := (Below.heap_alloc w2 (.cells #[.string ⟨es.1.toArray⟩, .string ⟨es.2.toArray⟩, .bool false] 57) w.heap.size Hbl2.out).trans Hbx2.out
    exact ⟨(Lib.cell_of_heap h 0).trans rfl, (Lib.cell_of_heap h 1).trans rfl, (Lib.cell_of_heap h 2).trans rfl⟩
  have HS1 := Lib.hid hS1
  clear hS0 hS1
  simp only [Act.put]
  refine wp_region_held_drew (S := (fun w' => w'.cell? ⟨w.heap.size, 0, none⟩ = some (.string ⟨es.1.toArray⟩) ∧ w'.cell? ⟨w.heap.size, 1, none⟩ = some (.string ⟨es.2.toArray⟩) ∧ w'.cell? ⟨w.heap.size, 2, none⟩ = some (.bool false))) (by kernel_rfl) ((by exact HS0.out)) (fun hHeld => ?_)
  refine takeH 0 (v := ?_) rfl rfl (by kernel_rfl) (by kernel_rfl) (by kernel_rfl) (fun _ _ _ h => h) (Or.inl ⟨by rfl, ?_⟩) (by assumption) ?_
  rotate_left
  · (intro w hSw; (try dsimp only at hSw); go_simp <;> with_reducible rfl)
  simp only [List.setIfInBounds_toArray, List.set_cons_zero, List.set_cons_succ]
  refine takeH 1 (v := ?_) rfl rfl (by kernel_rfl) (by kernel_rfl) (by kernel_rfl) (fun _ _ _ h => h) (Or.inl ⟨by rfl, ?_⟩) (by assumption) ?_
  rotate_left
  · (intro w hSw; (try dsimp only at hSw); go_simp <;> with_reducible rfl)
  simp only [List.setIfInBounds_toArray, List.set_cons_zero, List.set_cons_succ]
  refine takeH 2 (v := ?_) rfl rfl (by kernel_rfl) (by kernel_rfl) (by kernel_rfl) (fun _ _ _ h => h) (Or.inl ⟨by rfl, ?_⟩) (by assumption) ?_
  rotate_left
  · (intro w hSw; (try dsimp only at hSw); go_simp <;> with_reducible rfl)
  simp only [List.setIfInBounds_toArray, List.set_cons_zero, List.set_cons_succ]
  refine takeH 3 (v := ?_) rfl rfl (by kernel_rfl) (by kernel_rfl) (by kernel_rfl) (fun _ _ _ h => h) (Or.inl ⟨by rfl, ?_⟩) (by assumption) ?_
  rotate_left
  · (intro w hSw; (try dsimp only at hSw); go_simp <;> with_reducible rfl)
  simp only [List.setIfInBounds_toArray, List.set_cons_zero, List.set_cons_succ]
  refine takeH 5 (v := ?_) rfl rfl (by kernel_rfl) (by kernel_rfl) (by kernel_rfl) (fun _ _ _ h => h) (Or.inl ⟨by rfl, ?_⟩) (by assumption) ?_
  rotate_left
  · (intro w hSw; (try dsimp only at hSw); go_simp <;> with_reducible rfl)
  simp only [List.setIfInBounds_toArray, List.set_cons_zero, List.set_cons_succ]
  refine wpAnyH_ready (rs := [4, 6]) (by kernel_rfl) (by simp) ?_
  refine AllReadyH.cons rfl (fun K hK => ?_) (AllReadyH.cons rfl (fun K hK => ?_) AllReadyH.nil)
  · go_simp
    refine hK.out _ _ (by exact HS0.out) (fun hHeld => ?_)
    clear hK K
    refine wpAnyH_ready (rs := [6]) (by kernel_rfl) (by simp) ?_
    refine AllReadyH.cons rfl (fun K hK => ?_) AllReadyH.nil
    go_simp
    refine hK.out _ _ (by exact HS1.out) (fun hHeld => ?_)
    clear hK K
    refine wpAnyH_ready (rs := [7]) (by kernel_rfl) (by simp) ?_
    refine AllReadyH.cons rfl (fun K hK => ?_) AllReadyH.nil
    refine step_append_own_at rfl 38 rfl _ _ 65 rfl B 57 i0 zeroHF 3 40 Tryd.underlying65 hi hz0 hz1 hzb rfl (by decide) (.slice a ents.length cap) ents.length (entCells ents) rfl (by exact Hown2.out) ⟨w2.heap.size, 0, none⟩ 1 1 (eCells es) rfl rfl (by exact HN.out) H1c.out (by unfold maxLen; omega) (by omega) (by show B ≤ (w2.alloc _).heap.size; simp; omega) ?_
    intro v3 w3 hown3 hgrow3 _ hat3
    have hbx3 := (hgrow3.block w.heap.size (by show w.heap.size < (w2.alloc _).heap.size; simp; omega) (fun e => Hbn.out e.symm)).trans ((Below.heap_alloc w2 (.cells #[.string ⟨es.1.toArray⟩, .string ⟨es.2.toArray⟩, .bool false] 57) w.heap.size Hbl2.out).trans Hbx2.out)
    refine hK.out _ _ (by exact ⟨(Lib.cell_of_heap hbx3 0).trans rfl, (Lib.cell_of_heap hbx3 1).trans rfl, (Lib.cell_of_heap hbx3 2).trans rfl⟩) (fun hHeld => ?_)
    clear hK K
    have Hgb := Lib.hid ((hgrow3.block b (by show b < (w2.alloc _).heap.size; simp; omega) (fun e => Hne.out e.symm)).trans (Below.heap_alloc w2 (.cells #[.string ⟨es.1.toArray⟩, .string ⟨es.2.toArray⟩, .bool false] 57) b hbl2))
    have hr3 := HT2.out.row.of_heap Hgb.out
    have e3 := hr3.cell' (i := 1) (v := .slice a ents.length cap) (by omega) (by rw [HT2.out.c1, Hev.out])
    have hf3 := fun i => hr3.unfrozen i none
    have Hr3 := Lib.hid hr3
    have Hown3 := Lib.hid hown3
    have Hgrow3 := Lib.hid hgrow3
    have Hat3 := Lib.hid hat3
    obtain ⟨a3, cap3, hv3⟩ := own_form hown3
    subst hv3
    clear hown3 hgrow3 hat3 hr3 e1 hf1 b0 b1 b2
    simp only [List.setIfInBounds_toArray, List.set_cons_zero, List.set_cons_succ]
    refine takeH 8 (v := ?_) rfl rfl (by kernel_rfl) (by kernel_rfl) (by kernel_rfl) (fun _ _ _ h => h) (Or.inl ⟨by rfl, ?_⟩) (by assumption) ?_
    rotate_left
    · (intro w hSw; (try dsimp only at hSw); go_simp <;> with_reducible rfl)
    simp only [List.setIfInBounds_toArray, List.set_cons_zero, List.set_cons_succ]
    refine takeH 9 (v := ?_) rfl rfl (by kernel_rfl) (by kernel_rfl) (by kernel_rfl) (fun _ _ _ h => h) (Or.inl ⟨by rfl, ?_⟩) (by assumption) ?_
    rotate_left
    · (intro w hSw; (try dsimp only at hSw); go_simp <;> with_reducible rfl)
    simp only [List.setIfInBounds_toArray, List.set_cons_zero, List.set_cons_succ]
    refine wpAnyH_ready (rs := [10]) (by kernel_rfl) (by simp) ?_
    refine AllReadyH.cons rfl (fun K hK => ?_) AllReadyH.nil
    go_simp
    refine hK.out _ _ (by exact ⟨(cell_other Hbw.out).trans ((Lib.cell_of_heap hbx3 0).trans rfl), (cell_other Hbw.out).trans ((Lib.cell_of_heap hbx3 1).trans rfl), (cell_other Hbw.out).trans ((Lib.cell_of_heap hbx3 2).trans rfl)⟩) (fun hHeld => ?_)
    clear hK K
    refine wpAnyH_done (by kernel_rfl) ?_ _
    clear hHeld hbx3
    go_wp2_with fail
    go_end0
    obtain ⟨t1, t2, t3⟩ := add_end (o := (.cells #[.string ⟨es.1.toArray⟩, .string ⟨es.2.toArray⟩, .bool false] 57)) HT2.out Hev.out ⟨Hgrow3.out.os, Hgrow3.out.tape, Hgrow3.out.output, Hgrow3.out.size, Hgrow3.out.block⟩ Hown3.out Hat3.out
    refine ⟨rfl, _, ?_, t1, HU2.out.step t2⟩
    rcases t3 with h | ⟨g, h1, h2⟩
    · exact Or.inl h
    · exact Or.inr ⟨g, h1, by omega⟩
  · go_simp
    refine hK.out _ _ (by exact HS1.out) (fun hHeld => ?_)
    clear hK K
    refine wpAnyH_ready (rs := [4]) (by kernel_rfl) (by simp) ?_
    refine AllReadyH.cons rfl (fun K hK => ?_) AllReadyH.nil
    go_simp
    refine hK.out _ _ (by exact HS1.out) (fun hHeld => ?_)
    clear hK K
    refine wpAnyH_ready (rs := [7]) (by kernel_rfl) (by simp) ?_
    refine AllReadyH.cons rfl (fun K hK => ?_) AllReadyH.nil
    refine step_append_own_at rfl 38 rfl _ _ 65 rfl B 57 i0 zeroHF 3 40 Tryd.underlying65 hi hz0 hz1 hzb rfl (by decide) (.slice a ents.length cap) ents.length (entCells ents) rfl (by exact Hown2.out) ⟨w2.heap.size, 0, none⟩ 1 1 (eCells es) rfl rfl (by exact HN.out) H1c.out (by unfold maxLen; omega) (by omega) (by show B ≤ (w2.alloc _).heap.size; simp; omega) ?_
    intro v3 w3 hown3 hgrow3 _ hat3
    have hbx3 := (hgrow3.block w.heap.size (by show w.heap.size < (w2.alloc _).heap.size; simp; omega) (fun e => Hbn.out e.symm)).trans ((Below.heap_alloc w2 (.cells #[.string ⟨es.1.toArray⟩, .string ⟨es.2.toArray⟩, .bool false] 57) w.heap.size Hbl2.out).trans Hbx2.out)
    refine hK.out _ _ (by exact ⟨(Lib.cell_of_heap hbx3 0).trans rfl, (Lib.cell_of_heap hbx3 1).trans rfl, (Lib.cell_of_heap hbx3 2).trans rfl⟩) (fun hHeld => ?_)
    clear hK K
    have Hgb := Lib.hid ((hgrow3.block b (by show b < (w2.alloc _).heap.size; simp; omega) (fun e => Hne.out e.symm)).trans (Below.heap_alloc w2 (.cells #[.string ⟨es.1.toArray⟩, .string ⟨es.2.toArray⟩, .bool false] 57) b hbl2))
    have hr3 := HT2.out.row.of_heap Hgb.out
    have e3 := hr3.cell' (i := 1) (v := .slice a ents.length cap) (by omega) (by rw [HT2.out.c1, Hev.out])
    have hf3 := fun i => hr3.unfrozen i none
    have Hr3 := Lib.hid hr3
    have Hown3 := Lib.hid hown3
    have Hgrow3 := Lib.hid hgrow3
    have Hat3 := Lib.hid hat3
    obtain ⟨a3, cap3, hv3⟩ := own_form hown3
    subst hv3
    clear hown3 hgrow3 hat3 hr3 e1 hf1 b0 b1 b2
    simp only [List.setIfInBounds_toArray, List.set_cons_zero, List.set_cons_succ]
    refine takeH 8 (v := ?_) rfl rfl (by kernel_rfl) (by kernel_rfl) (by kernel_rfl) (fun _ _ _ h => h) (Or.inl ⟨by rfl, ?_⟩) (by assumption) ?_
    rotate_left
    · (intro w hSw; (try dsimp only at hSw); go_simp <;> with_reducible rfl)
    simp only [List.setIfInBounds_toArray, List.set_cons_zero, List.set_cons_succ]
    refine takeH 9 (v := ?_) rfl rfl (by kernel_rfl) (by kernel_rfl) (by kernel_rfl) (fun _ _ _ h => h) (Or.inl ⟨by rfl, ?_⟩) (by assumption) ?_
    rotate_left
    · (intro w hSw; (try dsimp only at hSw); go_simp <;> with_reducible rfl)
    simp only [List.setIfInBounds_toArray, List.set_cons_zero, List.set_cons_succ]
    refine wpAnyH_ready (rs := [10]) (by kernel_rfl) (by simp) ?_
    refine AllReadyH.cons rfl (fun K hK => ?_) AllReadyH.nil
    go_simp
    refine hK.out _ _ (by exact ⟨(cell_other Hbw.out).trans ((Lib.cell_of_heap hbx3 0).trans rfl), (cell_other Hbw.out).trans ((Lib.cell_of_heap hbx3 1).trans rfl), (cell_other Hbw.out).trans ((Lib.cell_of_heap hbx3 2).trans rfl)⟩) (fun hHeld => ?_)
    clear hK K
    refine wpAnyH_done (by kernel_rfl) ?_ _
    clear hHeld hbx3
    go_wp2_with fail
    go_end0
    obtain ⟨t1, t2, t3⟩ := add_end (o := (.cells #[.string ⟨es.1.toArray⟩, .string ⟨es.2.toArray⟩, .bool false] 57)) HT2.out Hev.out ⟨Hgrow3.out.os, Hgrow3.out.tape, Hgrow3.out.output, Hgrow3.out.size, Hgrow3.out.block⟩ Hown3.out Hat3.out
    refine ⟨rfl, _, ?_, t1, HU2.out.step t2⟩
    rcases t3 with h | ⟨g, h1, h2⟩
    · exact Or.inl h
    · exact Or.inr ⟨g, h1, by omega⟩
end Go.Proofs.YtjdmaflkafmmpaaDoor
/-
  The contract of add.
-/
namespace Go.Proofs.YtjdmaflkafmmpaaDoor
open Go.ChangeShapes Go.WideShapes Go.ChangeAt Go.RowKit

set_option maxHeartbeats 4000000 in
set_option maxRecDepth 100000 in
theorem add_any (B : Nat) (w : World) (b n : Nat) (f : Nat → Value) (ents : List (HD.Bs × HD.Bs)) (cnt max : Nat) (ev : Value) (m1 m2 : Nat) (l1 : List (HD.Bs × Nat)) (l2 : List ((HD.Bs × HD.Bs) × Nat)) (es : HD.Bs × HD.Bs)
    (hT : TabMem B w b n f ents cnt ev m1 m2 l1 l2) (hS : Sized f ents max) (hB : B ≤ w.heap.size) (hc : cnt + ents.length + 1 < 2 ^ 62) (hlen : ents.length ≤ 2 ^ 40) (hmax : max < 2 ^ 32) (hts : HD.tsize ents + HD.esize es < 2 ^ 32) :
    Calls Tryd.prog 45 #[.pointer (some ⟨b, 0, none⟩), .agg #[.string ⟨es.1.toArray⟩, .string ⟨es.2.toArray⟩, .bool false]] w fun e w' => e = .returned (.tuple #[]) ∧
      ∃ (q : Nat) (ev' : Value) (f' : Nat → Value), q ≤ ents.length + 1 ∧ HD.evict max (ents ++ [es]) = (ents ++ [es]).drop q ∧ (ev'.ownBlock = ev.ownBlock ∨ ∃ g, ev'.ownBlock = some g ∧ w.heap.size ≤ g) ∧ (∀ i, 6 ≤ i → f' i = f i) ∧ Sized f' (HD.evict max (ents ++ [es])) max ∧
        TabMem B w' b n f' (HD.evict max (ents ++ [es])) (cnt + q) ev' m1 m2 (delS (cnt + 1) ((ents ++ [es]).take q) (mput l1 es.1 (ents.length + cnt + 1))) (delP (cnt + 1) ((ents ++ [es]).take q) (mput l2 es (ents.length + cnt + 1))) ∧ Upd (tabOwn b ev m1 m2) w w' := by
  have hbig := hT.big
  have hT0 := hT
  have HTW := Lib.hid (hT.alloc (.cells #[.string ⟨es.1.toArray⟩, .string ⟨es.2.toArray⟩, .bool false] 57))
  have HS := Lib.hid hS
  have hbl := hT.row.lt
  have Hnot : Hid (¬ tabOwn b ev m1 m2 w.heap.size) := fun h => Nat.lt_irrefl _ (hT.own_lt h)
  have HT0 := Lib.hid hT0
  clear hT hS hT0
  go_enter Tryd.func45, Tryd.ntmps45
  go_wp2_with fail
  refine stillTail 4 (by kernel_rfl) (by kernel_rfl) ?_
  simp only [List.take_succ_cons, List.take_zero, List.drop_succ_cons, List.drop_zero]
  repeat (refine wpStill_step (fun K hK => ?_); go_simp; (refine hK _ ?_; clear hK K))
  refine wpStill_nil ?_
  go_wp2_with fail
  refine (addEntry_any B _ b n f ents cnt ev m1 m2 l1 l2 es HTW.out.drew (by show B ≤ (w.alloc _).heap.size; simp; omega) (by omega) hlen).mono ?_
  rintro e w1 ⟨rfl, ev1, hev1, hT1, hu1⟩
  have hbx := (hu1.block w.heap.size (by show w.heap.size < (w.alloc _).heap.size; simp) Hnot.out).trans (heap_alloc_new w (.cells #[.string ⟨es.1.toArray⟩, .string ⟨es.2.toArray⟩, .bool false] 57))
  have HU1 : Hid (Upd (tabOwn b ev m1 m2) w w1) := Upd.step ((Upd.refl _ w).alloc (.cells #[.string ⟨es.1.toArray⟩, .string ⟨es.2.toArray⟩, .bool false] 57)) ⟨hu1.os, hu1.tape, hu1.output, hu1.size, hu1.block⟩
  have Hev1 := Lib.hid hev1
  have HT1 := Lib.hid hT1
  obtain ⟨s, hs⟩ : ∃ s, s = HD.tsize ents := ⟨_, rfl⟩
  have c5 := hT1.row.cell' (i := 5) (v := .int .u32 (s : Nat)) (by omega) (by simp [putF, HS.out.size, hs])
  have fz := fun i => hT1.row.unfrozen i none
  have hbl1 := hT1.row.lt
  have Hs := Lib.hid hs
  have Hbx := Lib.hid hbx
  have hw1 := Lib.lt_of_heap hbx
  obtain ⟨z, hz⟩ : ∃ z, es.1.length + es.2.length + 32 = z := ⟨_, rfl⟩
  have hzs : s + z < 4294967296 := by unfold HD.esize at hts; omega
  have Hz := Lib.hid hz
  obtain ⟨t, ht⟩ : ∃ t, t = HD.tsize (ents ++ [es]) := ⟨_, rfl⟩
  have hst : t = s + z := by rw [ht, HD.tsize_append, hs, ← hz]; simp [HD.tsize, HD.esize]
  have hsum : IntKind.u32.wrap ((s : Int) + (z : Int)) = (t : Int) := by simp only [IntKind.wrap, IntKind.bits, IntKind.signed]; simp; omega
  have Ht := Lib.hid ht
  have hf0 := HT0.out.c0
  have hf2 := HT0.out.c2
  have hf3 := HT0.out.c3
  have hf4 := HT0.out.c4
  clear ht
  have hS0 : w1.cell? ⟨w.heap.size, 0, none⟩ = some (.string ⟨es.1.toArray⟩) ∧ w1.cell? ⟨w.heap.size, 1, none⟩ = some (.string ⟨es.2.toArray⟩) ∧ w1.cell? ⟨w.heap.size, 2, none⟩ = some (.bool false) :=
    ⟨(Lib.cell_of_heap hbx 0).trans rfl, (Lib.cell_of_heap hbx 1).trans rfl, (Lib.cell_of_heap hbx 2).trans rfl⟩
  have HS0 := Lib.hid hS0
  have Hbw := Lib.hid (show b ≠ w.heap.size by omega)
  clear hu1 hev1 hT1 hs hbx hz hS0
  go_wp2_with fail
  refine wp_region_held_drew (S := (fun w' => w'.cell? ⟨w.heap.size, 0, none⟩ = some (.string ⟨es.1.toArray⟩) ∧ w'.cell? ⟨w.heap.size, 1, none⟩ = some (.string ⟨es.2.toArray⟩) ∧ w'.cell? ⟨w.heap.size, 2, none⟩ = some (.bool false))) (by kernel_rfl) ((by exact HS0.out)) (fun hHeld => ?_)
  refine takeH 0 (v := ?_) rfl rfl (by kernel_rfl) (by kernel_rfl) (by kernel_rfl) (fun _ _ _ h => h) (Or.inl ⟨by rfl, ?_⟩) (by assumption) ?_
  rotate_left
  · (intro w hSw; (try dsimp only at hSw); go_simp <;> with_reducible rfl)
  simp only [List.setIfInBounds_toArray, List.set_cons_zero, List.set_cons_succ]
  refine takeH 1 (v := ?_) rfl rfl (by kernel_rfl) (by kernel_rfl) (by kernel_rfl) (fun _ _ _ h => h) (Or.inl ⟨by rfl, ?_⟩) (by assumption) ?_
  rotate_left
  · (intro w hSw; (try dsimp only at hSw); go_simp <;> with_reducible rfl)
  simp only [List.setIfInBounds_toArray, List.set_cons_zero, List.set_cons_succ]
  refine takeH 2 (v := ?_) rfl rfl (by kernel_rfl) (by kernel_rfl) (by kernel_rfl) (fun _ _ _ h => h) (Or.inl ⟨by rfl, ?_⟩) (by assumption) ?_
  rotate_left
  · (intro w hSw; (try dsimp only at hSw); go_simp <;> with_reducible rfl)
  simp only [List.setIfInBounds_toArray, List.set_cons_zero, List.set_cons_succ]
  refine takeH 4 (v := ?_) rfl rfl (by kernel_rfl) (by kernel_rfl) (by kernel_rfl) (fun _ _ _ h => h) (Or.inl ⟨by rfl, ?_⟩) (by assumption) ?_
  rotate_left
  · (intro w hSw; (try dsimp only at hSw); go_simp <;> with_reducible rfl)
  simp only [List.setIfInBounds_toArray, List.set_cons_zero, List.set_cons_succ]
  refine wpAnyH_ready (rs := [3, 5]) (by kernel_rfl) (by simp) ?_
  refine AllReadyH.cons rfl (fun K hK => ?_) (AllReadyH.cons rfl (fun K hK => ?_) AllReadyH.nil)
  · go_simp
    refine hK.out _ _ (by exact HS0.out) (fun hHeld => ?_)
    clear hK K
    refine wpAnyH_ready (rs := [5]) (by kernel_rfl) (by simp) ?_
    refine AllReadyH.cons rfl (fun K hK => ?_) AllReadyH.nil
    go_simp
    refine (size_any es.1 es.2 false _ (by rw [Hz.out]; omega)).mono ?_
    rintro e w4 ⟨rfl, hb4⟩
    rw [Hz.out]
    have hS4 : w4.cell? ⟨w.heap.size, 0, none⟩ = some (.string ⟨es.1.toArray⟩) ∧ w4.cell? ⟨w.heap.size, 1, none⟩ = some (.string ⟨es.2.toArray⟩) ∧ w4.cell? ⟨w.heap.size, 2, none⟩ = some (.bool false) := ⟨(hb4.cell (p := ⟨w.heap.size, 0, none⟩) hw1).trans HS0.out.1, (hb4.cell (p := ⟨w.heap.size, 1, none⟩) hw1).trans HS0.out.2.1, (hb4.cell (p := ⟨w.heap.size, 2, none⟩) hw1).trans HS0.out.2.2⟩
    refine hK.out _ _ hS4 (fun hHeld => ?_)
    clear hK K
    have HT4 := Lib.hid (HT1.out.below (w' := w4) ⟨hb4.os, hb4.tape, hb4.output, hb4.size, hb4.block⟩)
    have d5 := HT4.out.row.cell' (i := 5) (v := .int .u32 (s : Nat)) (by omega) (by simp [putF, HS.out.size, Hs.out])
    have fz4 := fun i => HT4.out.row.unfrozen i none
    have HU4 : Hid (Upd (tabOwn b ev m1 m2) w w4) := HU1.out.step ⟨hb4.os, hb4.tape, hb4.output, hb4.size, fun i hi _ => hb4.block i hi⟩
    clear hb4 c5 fz
    refine takeH 6 (v := ?_) rfl rfl (by kernel_rfl) (by kernel_rfl) (by kernel_rfl) (fun _ _ _ h => h) (Or.inl ⟨by rfl, ?_⟩) (by assumption) ?_
    rotate_left
    · (intro w hSw; (try dsimp only at hSw); go_simp <;> with_reducible rfl)
    simp only [List.setIfInBounds_toArray, List.set_cons_zero, List.set_cons_succ]
    refine takeH 7 (v := ?_) rfl rfl (by kernel_rfl) (by kernel_rfl) (by kernel_rfl) (fun _ _ _ h => h) (Or.inl ⟨by rfl, ?_⟩) (by assumption) ?_
    rotate_left
    · (intro w hSw; (try dsimp only at hSw); go_simp <;> with_reducible rfl)
    simp only [List.setIfInBounds_toArray, List.set_cons_zero, List.set_cons_succ]
    refine takeH 8 (v := ?_) rfl rfl (by kernel_rfl) (by kernel_rfl) (by kernel_rfl) (fun _ _ _ h => h) (Or.inl ⟨by rfl, ?_⟩) (by assumption) ?_
    rotate_left
    · (intro w hSw; (try dsimp only at hSw); go_simp <;> with_reducible rfl)
    simp only [List.setIfInBounds_toArray, List.set_cons_zero, List.set_cons_succ]
    refine wpAnyH_ready (rs := [9]) (by kernel_rfl) (by simp) ?_
    refine AllReadyH.cons rfl (fun K hK => ?_) AllReadyH.nil
    go_simp
    obtain ⟨y1, y2, y3⟩ := hS4
    refine hK.out _ _ (by exact ⟨(cell_other Hbw.out).trans y1, (cell_other Hbw.out).trans y2, (cell_other Hbw.out).trans y3⟩) (fun hHeld => ?_)
    clear hK K
    refine wpAnyH_done (by kernel_rfl) ?_ _
    clear hHeld y1 y2 y3
    have hT5 := HT4.out.write (cnt' := cnt) (w' := w4.setCell ⟨b, 5, none⟩ (.int .u32 (t : Nat))) (f' := putF (putF f 1 ev1) 5 (.int .u32 (t : Nat))) (HT4.out.row.set 5 _) (fun i _ hi => other_set hi) (by simp [putF, hf0]) (by simp [putF]) (by simp [putF, hf2]) (by simp [putF, hf3]) (by simp [putF, hf4])
    have hS5 : Sized (putF (putF f 1 ev1) 5 (.int .u32 (t : Nat))) (ents ++ [es]) max := ⟨by simp [putF, Ht.out], by simp [putF, HS.out.max]⟩
    have HT5 := Lib.hid hT5
    have HS5 := Lib.hid hS5
    have HU5 := Lib.hid (HU4.out.setCell (a := ⟨b, 5, none⟩) (Or.inl (Or.inl rfl)) (.int .u32 (t : Nat)))
    clear hT5 hS5 d5 fz4
    go_wp2_with fail
    rw [show (s : Int) + (z : Int) = (t : Int) by omega]
    refine (evict_any B _ b n _ (ents ++ [es]) cnt max ev1 m1 m2 _ _ HT5.out HS5.out (by simp; omega) hmax (by rw [← Ht.out]; omega)).mono ?_
    rintro e w6 ⟨rfl, q, ev', f', hq, he, hev', hf, hs6, ht6, hu6⟩
    have H1 := Lib.hid he
    have H2 := Lib.hid hev'
    have H3 := Lib.hid hf
    have H4 := Lib.hid hs6
    have H5 := Lib.hid ht6
    have H6 := Lib.hid hu6
    clear he hev' hf hs6 ht6 hu6
    go_wp2_with fail
    go_end0
    have hl1 : (ents ++ [es]).length = ents.length + 1 := by simp
    refine ⟨rfl, q, ev', f', by omega, H1.out, ?_, fun i hi => (H3.out i hi).trans (by simp only [putF]; rw [if_neg (by omega), if_neg (by omega)]), H4.out, H5.out, HU5.out.trans H6.out fun i hi ho => ?_⟩
    · rw [H2.out]
      exact Hev1.out.imp id fun ⟨g, h1, h2⟩ => ⟨g, h1, by have : (w.alloc (.cells #[.string ⟨es.1.toArray⟩, .string ⟨es.2.toArray⟩, .bool false] 57)).heap.size ≤ g := h2; simp at this; omega⟩
    · rcases ho with rfl | ho | rfl | rfl
      · exact Or.inl rfl
      · rcases Hev1.out with h | ⟨g, h1, h2⟩
        · exact Or.inr (Or.inl (by rw [← h]; exact ho))
        · rw [h1] at ho
          have := Option.some.inj ho
          have h2' : (w.alloc (.cells #[.string ⟨es.1.toArray⟩, .string ⟨es.2.toArray⟩, .bool false] 57)).heap.size ≤ g := h2
          simp at h2'
          omega
      · exact Or.inr (Or.inr (Or.inl rfl))
      · exact Or.inr (Or.inr (Or.inr rfl))
  · go_simp
    refine (size_any es.1 es.2 false _ (by rw [Hz.out]; omega)).mono ?_
    rintro e w4 ⟨rfl, hb4⟩
    rw [Hz.out]
    have hS4 : w4.cell? ⟨w.heap.size, 0, none⟩ = some (.string ⟨es.1.toArray⟩) ∧ w4.cell? ⟨w.heap.size, 1, none⟩ = some (.string ⟨es.2.toArray⟩) ∧ w4.cell? ⟨w.heap.size, 2, none⟩ = some (.bool false) := ⟨(hb4.cell (p := ⟨w.heap.size, 0, none⟩) hw1).trans HS0.out.1, (hb4.cell (p := ⟨w.heap.size, 1, none⟩) hw1).trans HS0.out.2.1, (hb4.cell (p := ⟨w.heap.size, 2, none⟩) hw1).trans HS0.out.2.2⟩
    refine hK.out _ _ hS4 (fun hHeld => ?_)
    clear hK K
    have HT4 := Lib.hid (HT1.out.below (w' := w4) ⟨hb4.os, hb4.tape, hb4.output, hb4.size, hb4.block⟩)
    have d5 := HT4.out.row.cell' (i := 5) (v := .int .u32 (s : Nat)) (by omega) (by simp [putF, HS.out.size, Hs.out])
    have fz4 := fun i => HT4.out.row.unfrozen i none
    have HU4 : Hid (Upd (tabOwn b ev m1 m2) w w4) := HU1.out.step ⟨hb4.os, hb4.tape, hb4.output, hb4.size, fun i hi _ => hb4.block i hi⟩
    clear hb4 c5 fz
    refine wpAnyH_ready (rs := [3]) (by kernel_rfl) (by simp) ?_
    refine AllReadyH.cons rfl (fun K hK => ?_) AllReadyH.nil
    go_simp
    refine hK.out _ _ hS4 (fun hHeld => ?_)
    clear hK K
    refine takeH 6 (v := ?_) rfl rfl (by kernel_rfl) (by kernel_rfl) (by kernel_rfl) (fun _ _ _ h => h) (Or.inl ⟨by rfl, ?_⟩) (by assumption) ?_
    rotate_left
    · (intro w hSw; (try dsimp only at hSw); go_simp <;> with_reducible rfl)
    simp only [List.setIfInBounds_toArray, List.set_cons_zero, List.set_cons_succ]
    refine takeH 7 (v := ?_) rfl rfl (by kernel_rfl) (by kernel_rfl) (by kernel_rfl) (fun _ _ _ h => h) (Or.inl ⟨by rfl, ?_⟩) (by assumption) ?_
    rotate_left
    · (intro w hSw; (try dsimp only at hSw); go_simp <;> with_reducible rfl)
    simp only [List.setIfInBounds_toArray, List.set_cons_zero, List.set_cons_succ]
    refine takeH 8 (v := ?_) rfl rfl (by kernel_rfl) (by kernel_rfl) (by kernel_rfl) (fun _ _ _ h => h) (Or.inl ⟨by rfl, ?_⟩) (by assumption) ?_
    rotate_left
    · (intro w hSw; (try dsimp only at hSw); go_simp <;> with_reducible rfl)
    simp only [List.setIfInBounds_toArray, List.set_cons_zero, List.set_cons_succ]
    refine wpAnyH_ready (rs := [9]) (by kernel_rfl) (by simp) ?_
    refine AllReadyH.cons rfl (fun K hK => ?_) AllReadyH.nil
    go_simp
    obtain ⟨y1, y2, y3⟩ := hS4
    refine hK.out _ _ (by exact ⟨(cell_other Hbw.out).trans y1, (cell_other Hbw.out).trans y2, (cell_other Hbw.out).trans y3⟩) (fun hHeld => ?_)
    clear hK K
    refine wpAnyH_done (by kernel_rfl) ?_ _
    clear hHeld y1 y2 y3
    have hT5 := HT4.out.write (cnt' := cnt) (w' := w4.setCell ⟨b, 5, none⟩ (.int .u32 (t : Nat))) (f' := putF (putF f 1 ev1) 5 (.int .u32 (t : Nat))) (HT4.out.row.set 5 _) (fun i _ hi => other_set hi) (by simp [putF, hf0]) (by simp [putF]) (by simp [putF, hf2]) (by simp [putF, hf3]) (by simp [putF, hf4])
    have hS5 : Sized (putF (putF f 1 ev1) 5 (.int .u32 (t : Nat))) (ents ++ [es]) max := ⟨by simp [putF, Ht.out], by simp [putF, HS.out.max]⟩
    have HT5 := Lib.hid hT5
    have HS5 := Lib.hid hS5
    have HU5 := Lib.hid (HU4.out.setCell (a := ⟨b, 5, none⟩) (Or.inl (Or.inl rfl)) (.int .u32 (t : Nat)))
    clear hT5 hS5 d5 fz4
    go_wp2_with fail
    rw [show (s : Int) + (z : Int) = (t : Int) by omega]
    refine (evict_any B _ b n _ (ents ++ [es]) cnt max ev1 m1 m2 _ _ HT5.out HS5.out (by simp; omega) hmax (by rw [← Ht.out]; omega)).mono ?_
    rintro e w6 ⟨rfl, q, ev', f', hq, he, hev', hf, hs6, ht6, hu6⟩
    have H1 := Lib.hid he
    have H2 := Lib.hid hev'
    have H3 := Lib.hid hf
    have H4 := Lib.hid hs6
    have H5 := Lib.hid ht6
    have H6 := Lib.hid hu6
    clear he hev' hf hs6 ht6 hu6
    go_wp2_with fail
    go_end0
    have hl1 : (ents ++ [es]).length = ents.length + 1 := by simp
    refine ⟨rfl, q, ev', f', by omega, H1.out, ?_, fun i hi => (H3.out i hi).trans (by simp only [putF]; rw [if_neg (by omega), if_neg (by omega)]), H4.out, H5.out, HU5.out.trans H6.out fun i hi ho => ?_⟩
    · rw [H2.out]
      exact Hev1.out.imp id fun ⟨g, h1, h2⟩ => ⟨g, h1, by have : (w.alloc (.cells #[.string ⟨es.1.toArray⟩, .string ⟨es.2.toArray⟩, .bool false] 57)).heap.size ≤ g := h2; simp at this; omega⟩
    · rcases ho with rfl | ho | rfl | rfl
      · exact Or.inl rfl
      · rcases Hev1.out with h | ⟨g, h1, h2⟩
        · exact Or.inr (Or.inl (by rw [← h]; exact ho))
        · rw [h1] at ho
          have := Option.some.inj ho
          have h2' : (w.alloc (.cells #[.string ⟨es.1.toArray⟩, .string ⟨es.2.toArray⟩, .bool false] 57)).heap.size ≤ g := h2
          simp at h2'
          omega
      · exact Or.inr (Or.inr (Or.inl rfl))
      · exact Or.inr (Or.inr (Or.inr rfl))
end Go.Proofs.YtjdmaflkafmmpaaDoor
/-
  Contracts of searchTable and shouldIndex.
-/
namespace Go.Proofs.YtjdmaflkafmmpaaDoor
open Go.ChangeShapes Go.WideShapes Go.ChangeAt Go.RowKit

theorem static_len61 (b : Nat) (st : Bool) (n cnt : Nat) (l1 : List (HD.Bs × Nat)) (l2 : List ((HD.Bs × HD.Bs) × Nat)) (w : World) (h : TabView w b st n cnt l1 l2) :
    Calls Tryd.prog 56 #[.pointer (some ⟨b, 0, none⟩)] w fun e w' => e = .returned (.int .i64 (n : Nat)) ∧ w = w' := by
  obtain ⟨a, c, h1⟩ := h.c1
  exact len_any b n c a w h1
def boxS (w : World) (f : HD.Fld) (w' : World) : Prop := w'.cell? ⟨w.heap.size, 0, none⟩ = some (.string ⟨f.name.toArray⟩) ∧ w'.cell? ⟨w.heap.size, 1, none⟩ = some (.string ⟨f.value.toArray⟩) ∧ w'.cell? ⟨w.heap.size, 2, none⟩ = some (.bool f.sens)
theorem boxS.below {w w' w'' : World} {f : HD.Fld} (h : boxS w f w') (hb : Below w'.heap.size w' w'') : boxS w f w'' := by
  have hlt := World.block_lt_of_cell? w' _ h.1
  have key : ∀ i, w''.cell? ⟨w.heap.size, i, none⟩ = w'.cell? ⟨w.heap.size, i, none⟩ := fun i => hb.cell (p := ⟨w.heap.size, i, none⟩) hlt
  exact ⟨(key 0).trans h.1, (key 1).trans h.2.1, (key 2).trans h.2.2⟩
theorem boxS.new (w : World) (f : HD.Fld) : boxS w f (w.alloc (.cells #[.string ⟨f.name.toArray⟩, .string ⟨f.value.toArray⟩, .bool f.sens] 57)) :=
  ⟨(Lib.cell_of_heap (heap_alloc_new w _) 0).trans rfl, (Lib.cell_of_heap (heap_alloc_new w _) 1).trans rfl, (Lib.cell_of_heap (heap_alloc_new w _) 2).trans rfl⟩

/-- How searchTable ends. -/
def Looked (ents : List (HD.Bs × HD.Bs)) (f : HD.Fld) (e : Ending) : Prop := ∃ (m : Bool) (i : Nat), e = .returned (.tuple #[.int .u64 (i : Nat), .bool m]) ∧ HD.Found ents f m i

set_option maxHeartbeats 4000000 in
set_option maxRecDepth 100000 in
theorem searchTable_any (B : Nat) (w : World) (d n : Nat) (g : Nat → Value) (ents : List (HD.Bs × HD.Bs)) (cnt : Nat) (ev : Value) (m1 m2 : Nat) (l1 : List (HD.Bs × Nat)) (l2 : List ((HD.Bs × HD.Bs) × Nat)) (f : HD.Fld)
    (hT : TabMem B w d n g ents cnt ev m1 m2 l1 l2) (hO : MOk cnt ents l1 l2) (hl : ents.length ≤ 2 ^ 40) (hc : cnt < 2 ^ 62) :
    Calls Tryd.prog 42 #[.pointer (some ⟨d, 0, none⟩), .agg #[.string ⟨f.name.toArray⟩, .string ⟨f.value.toArray⟩, .bool f.sens]] w fun e w' => Looked ents f e ∧ Below w.heap.size w w' := by
  have HT := Lib.hid hT
  have HO := Lib.hid hO
  have Hbox := Lib.hid (boxS.new w f)
  have hb0 : Below w.heap.size w (w.alloc (.cells #[.string ⟨f.name.toArray⟩, .string ⟨f.value.toArray⟩, .bool f.sens] 57)) := (Below.refl _ w).alloc (Nat.le_refl _) _
  have Hb0 := Lib.hid hb0
  have hdl := hT.row.lt
  clear hT hO hb0
  go_enter Tryd.func42, Tryd.ntmps42
  go_wp2_with fail
  refine wp_region_held_drew (S := (fun w' => w'.cell? ⟨w.heap.size, 0, none⟩ = some (.string ⟨f.name.toArray⟩) ∧ w'.cell? ⟨w.heap.size, 1, none⟩ = some (.string ⟨f.value.toArray⟩) ∧ w'.cell? ⟨w.heap.size, 2, none⟩ = some (.bool f.sens))) (by kernel_rfl) ((by exact Hbox.out)) (fun hHeld => ?_)
  refine takeH 1 (v := ?_) rfl rfl (by kernel_rfl) (by kernel_rfl) (by kernel_rfl) (fun _ _ _ h => h) (Or.inl ⟨by rfl, ?_⟩) (by assumption) ?_
  rotate_left
  · (intro w hSw; (try dsimp only at hSw); go_simp <;> with_reducible rfl)
  simp only [List.setIfInBounds_toArray, List.set_cons_zero, List.set_cons_succ]
  refine wpAnyH_ready (rs := [0]) (by kernel_rfl) (by simp) ?_
  refine AllReadyH.cons rfl (fun K hK => ?_) AllReadyH.nil
  go_simp
  refine (static_any _).mono ?_
  rintro e w2 ⟨Bs, rfl, hS, hb2⟩
  have hbx := Hbox.out.below ⟨hb2.os, hb2.tape, hb2.output, hb2.size, hb2.block⟩
  have Hb2 : Hid (Below w.heap.size w w2) := Lib.hid (Hb0.out.trans ⟨hb2.os, hb2.tape, hb2.output, hb2.size, fun k hk => hb2.block k (by show k < (w.alloc _).heap.size; simp; omega)⟩)
  obtain ⟨s1, s2, hv, hs⟩ := hS.view
  have Hv := Lib.hid hv
  have Hs := Lib.hid hs
  have Hbx := Lib.hid hbx
  clear hb2 hS hv hs hbx
  refine hK.out _ _ (by exact Hbx.out) (fun hHeld => ?_)
  clear hK K
  refine wpAnyH_ready (rs := [2]) (by kernel_rfl) (by simp) ?_
  refine AllReadyH.cons rfl (fun K hK => ?_) AllReadyH.nil
  go_simp
  refine (search_any Bs.x true 61 0 s1 s2 f _ (by exact Hv.out) Hs.out.in (by decide) (by decide)).mono ?_
  rintro e w3 ⟨rfl, hb3⟩
  have hfound := found HO.out Hs.out hl f
  obtain ⟨ra, hra⟩ : ∃ r, r = sFind true 61 0 s1 s2 f := ⟨_, rfl⟩
  obtain ⟨rb, hrb⟩ : ∃ r, r = sFind false ents.length cnt l1 l2 f := ⟨_, rfl⟩
  rw [← hra] at hfound ⊢
  rw [← hrb] at hfound
  have Hrb := Lib.hid hrb
  obtain ⟨a1, a2⟩ := ra
  have hbx := Hbx.out.below hb3
  have Hb3 := Lib.hid (Hb2.out.trans (hb3.mono Hb2.out.size))
  have Hbx3 := Lib.hid hbx
  have Hf := Lib.hid hfound
  clear hb3 hbx hra hrb hfound
  dsimp only
  refine hK.out _ _ (by exact Hbx3.out) (fun hHeld => ?_)
  clear hK K
  cases a2 with
  | true =>
    refine takeH 3 (v := ?_) rfl rfl (by kernel_rfl) (by kernel_rfl) (by kernel_rfl) (fun _ _ _ h => h) (Or.inl ⟨by rfl, ?_⟩) (by assumption) ?_
    rotate_left
    · (intro w hSw; (try dsimp only at hSw); go_simp <;> with_reducible rfl)
    simp only [List.setIfInBounds_toArray, List.set_cons_zero, List.set_cons_succ]
    refine takeH 4 (v := ?_) rfl rfl (by kernel_rfl) (by kernel_rfl) (by kernel_rfl) (fun _ _ _ h => h) (Or.inl ⟨by rfl, ?_⟩) (by assumption) ?_
    rotate_left
    · (intro w hSw; (try dsimp only at hSw); go_simp <;> with_reducible rfl)
    simp only [List.setIfInBounds_toArray, List.set_cons_zero, List.set_cons_succ]
    refine takeH 5 (v := ?_) rfl rfl (by kernel_rfl) (by kernel_rfl) (by kernel_rfl) (fun _ _ _ h => h) (Or.inl ⟨by rfl, ?_⟩) (by assumption) ?_
    rotate_left
    · (intro w hSw; (try dsimp only at hSw); go_simp <;> with_reducible rfl)
    simp only [List.setIfInBounds_toArray, List.set_cons_zero, List.set_cons_succ]
    refine takeH 6 (v := ?_) rfl rfl (by kernel_rfl) (by kernel_rfl) (by kernel_rfl) (fun _ _ _ h => h) (Or.inl ⟨by rfl, ?_⟩) (by assumption) ?_
    rotate_left
    · (intro w hSw; (try dsimp only at hSw); go_simp <;> with_reducible rfl)
    simp only [List.setIfInBounds_toArray, List.set_cons_zero, List.set_cons_succ]
    refine takeH 7 (v := ?_) rfl rfl (by kernel_rfl) (by kernel_rfl) (by kernel_rfl) (fun _ _ _ h => h) (Or.inl ⟨by rfl, ?_⟩) (by assumption) ?_
    rotate_left
    · (intro w hSw; (try dsimp only at hSw); go_simp <;> with_reducible rfl)
    simp only [List.setIfInBounds_toArray, List.set_cons_zero, List.set_cons_succ]
    refine wpAnyH_done (by kernel_rfl) ?_ _
    clear hHeld
    go_wp2_with fail
    go_ret2
    exact ⟨⟨true, a1, rfl, by simpa [eFind] using Hf.out⟩, Hb3.out⟩
  | false =>
    refine takeH 3 (v := ?_) rfl rfl (by kernel_rfl) (by kernel_rfl) (by kernel_rfl) (fun _ _ _ h => h) (Or.inl ⟨by rfl, ?_⟩) (by assumption) ?_
    rotate_left
    · (intro w hSw; (try dsimp only at hSw); go_simp <;> with_reducible rfl)
    simp only [List.setIfInBounds_toArray, List.set_cons_zero, List.set_cons_succ]
    refine takeH 4 (v := ?_) rfl rfl (by kernel_rfl) (by kernel_rfl) (by kernel_rfl) (fun _ _ _ h => h) (Or.inl ⟨by rfl, ?_⟩) (by assumption) ?_
    rotate_left
    · (intro w hSw; (try dsimp only at hSw); go_simp <;> with_reducible rfl)
    simp only [List.setIfInBounds_toArray, List.set_cons_zero, List.set_cons_succ]
    refine takeH 5 (v := ?_) rfl rfl (by kernel_rfl) (by kernel_rfl) (by kernel_rfl) (fun _ _ _ h => h) (Or.inl ⟨by rfl, ?_⟩) (by assumption) ?_
    rotate_left
    · (intro w hSw; (try dsimp only at hSw); go_simp <;> with_reducible rfl)
    simp only [List.setIfInBounds_toArray, List.set_cons_zero, List.set_cons_succ]
    refine takeH 6 (v := ?_) rfl rfl (by kernel_rfl) (by kernel_rfl) (by kernel_rfl) (fun _ _ _ h => h) (Or.inl ⟨by rfl, ?_⟩) (by assumption) ?_
    rotate_left
    · (intro w hSw; (try dsimp only at hSw); go_simp <;> with_reducible rfl)
    simp only [List.setIfInBounds_toArray, List.set_cons_zero, List.set_cons_succ]
    refine takeH 7 (v := ?_) rfl rfl (by kernel_rfl) (by kernel_rfl) (by kernel_rfl) (fun _ _ _ h => h) (Or.inl ⟨by rfl, ?_⟩) (by assumption) ?_
    rotate_left
    · (intro w hSw; (try dsimp only at hSw); go_simp <;> with_reducible rfl)
    simp only [List.setIfInBounds_toArray, List.set_cons_zero, List.set_cons_succ]
    refine wpAnyH_done (by kernel_rfl) ?_ _
    clear hHeld
    go_wp2_with fail
    refine wp_region_held_drew (S := (fun w' => w'.cell? ⟨w.heap.size, 0, none⟩ = some (.string ⟨f.name.toArray⟩) ∧ w'.cell? ⟨w.heap.size, 1, none⟩ = some (.string ⟨f.value.toArray⟩) ∧ w'.cell? ⟨w.heap.size, 2, none⟩ = some (.bool f.sens))) (by kernel_rfl) ((by exact Hbx3.out)) (fun hHeld => ?_)
    refine takeH 0 (v := ?_) rfl rfl (by kernel_rfl) (by kernel_rfl) (by kernel_rfl) (fun _ _ _ h => h) (Or.inl ⟨by rfl, ?_⟩) (by assumption) ?_
    rotate_left
    · (intro w hSw; (try dsimp only at hSw); go_simp <;> with_reducible rfl)
    simp only [List.setIfInBounds_toArray, List.set_cons_zero, List.set_cons_succ]
    refine takeH 1 (v := ?_) rfl rfl (by kernel_rfl) (by kernel_rfl) (by kernel_rfl) (fun _ _ _ h => h) (Or.inl ⟨by rfl, ?_⟩) (by assumption) ?_
    rotate_left
    · (intro w hSw; (try dsimp only at hSw); go_simp <;> with_reducible rfl)
    simp only [List.setIfInBounds_toArray, List.set_cons_zero, List.set_cons_succ]
    refine takeH 2 (v := ?_) rfl rfl (by kernel_rfl) (by kernel_rfl) (by kernel_rfl) (fun _ _ _ h => h) (Or.inl ⟨by rfl, ?_⟩) (by assumption) ?_
    rotate_left
    · (intro w hSw; (try dsimp only at hSw); go_simp <;> with_reducible rfl)
    simp only [List.setIfInBounds_toArray, List.set_cons_zero, List.set_cons_succ]
    refine takeH 3 (v := ?_) rfl rfl (by kernel_rfl) (by kernel_rfl) (by kernel_rfl) (fun _ _ _ h => h) (Or.inl ⟨by rfl, ?_⟩) (by assumption) ?_
    rotate_left
    · (intro w hSw; (try dsimp only at hSw); go_simp <;> with_reducible rfl)
    simp only [List.setIfInBounds_toArray, List.set_cons_zero, List.set_cons_succ]
    refine takeH 4 (v := ?_) rfl rfl (by kernel_rfl) (by kernel_rfl) (by kernel_rfl) (fun _ _ _ h => h) (Or.inl ⟨by rfl, ?_⟩) (by assumption) ?_
    rotate_left
    · (intro w hSw; (try dsimp only at hSw); go_simp <;> with_reducible rfl)
    simp only [List.setIfInBounds_toArray, List.set_cons_zero, List.set_cons_succ]
    refine wpAnyH_ready (rs := [5]) (by kernel_rfl) (by simp) ?_
    refine AllReadyH.cons rfl (fun K hK => ?_) AllReadyH.nil
    go_simp
    refine (search_any d false ents.length cnt l1 l2 f _ (by exact (HT.out.below Hb3.out).view.below ⟨rfl, rfl, rfl, Nat.le_refl _, fun _ _ => rfl⟩) HO.out.in hl hc).mono ?_
    rintro e w4 ⟨rfl, hb4⟩
    rw [← Hrb.out]
    obtain ⟨b1, b2⟩ := rb
    have Hbx4 := Lib.hid (Hbx3.out.below ⟨hb4.os, hb4.tape, hb4.output, hb4.size, hb4.block⟩)
    have Hb4 : Hid (Below w.heap.size w w4) := Lib.hid (Hb3.out.trans ⟨hb4.os, hb4.tape, hb4.output, hb4.size, fun k hk => hb4.block k (Nat.lt_of_lt_of_le hk Hb3.out.size)⟩)
    have hb1 : b1 ≤ 2 ^ 40 := by have := (sFind_dyn HO.out f).1; rw [← Hrb.out] at this; exact Nat.le_trans this hl
    clear hb4 Hrb
    dsimp only
    refine hK.out _ _ (by exact Hbx4.out) (fun hHeld => ?_)
    clear hK K
    refine takeH 6 (v := ?_) rfl rfl (by kernel_rfl) (by kernel_rfl) (by kernel_rfl) (fun _ _ _ h => h) (Or.inl ⟨by rfl, ?_⟩) (by assumption) ?_
    rotate_left
    · (intro w hSw; (try dsimp only at hSw); go_simp <;> with_reducible rfl)
    simp only [List.setIfInBounds_toArray, List.set_cons_zero, List.set_cons_succ]
    refine takeH 7 (v := ?_) rfl rfl (by kernel_rfl) (by kernel_rfl) (by kernel_rfl) (fun _ _ _ h => h) (Or.inl ⟨by rfl, ?_⟩) (by assumption) ?_
    rotate_left
    · (intro w hSw; (try dsimp only at hSw); go_simp <;> with_reducible rfl)
    simp only [List.setIfInBounds_toArray, List.set_cons_zero, List.set_cons_succ]
    refine takeH 8 (v := ?_) rfl rfl (by kernel_rfl) (by kernel_rfl) (by kernel_rfl) (fun _ _ _ h => h) (Or.inl ⟨by rfl, ?_⟩) (by assumption) ?_
    rotate_left
    · (intro w hSw; (try dsimp only at hSw); go_simp <;> with_reducible rfl)
    simp only [List.setIfInBounds_toArray, List.set_cons_zero, List.set_cons_succ]
    refine takeH 9 (v := ?_) rfl rfl (by kernel_rfl) (by kernel_rfl) (by kernel_rfl) (fun _ _ _ h => h) (Or.inl ⟨by rfl, ?_⟩) (by assumption) ?_
    rotate_left
    · (intro w hSw; (try dsimp only at hSw); go_simp <;> with_reducible rfl)
    simp only [List.setIfInBounds_toArray, List.set_cons_zero, List.set_cons_succ]
    refine takeH 10 (v := ?_) rfl rfl (by kernel_rfl) (by kernel_rfl) (by kernel_rfl) (fun _ _ _ h => h) (Or.inl ⟨by rfl, ?_⟩) (by assumption) ?_
    rotate_left
    · (intro w hSw; (try dsimp only at hSw); go_simp <;> with_reducible rfl)
    simp only [List.setIfInBounds_toArray, List.set_cons_zero, List.set_cons_succ]
    refine wpAnyH_done (by kernel_rfl) ?_ _
    clear hHeld
    have hw61 : IntKind.u64.wrap ((b1 : Int) + 61) = ((b1 + 61 : Nat) : Int) := by simp only [IntKind.wrap, IntKind.bits, IntKind.signed]; simp; omega
    cases b2 with
    | true =>
      go_wp2_with fail
      refine (static_any _).mono ?_
      rintro e w5 ⟨B5, rfl, hS5, hb5⟩
      obtain ⟨t1, t2, hv5, -⟩ := hS5.view
      have Hv5 := Lib.hid hv5
      have Hb5 : Hid (Below w.heap.size w w5) := Lib.hid (Hb4.out.trans (hb5.mono Hb4.out.size))
      clear hS5 hb5 hv5
      go_wp2_with fail
      refine (static_len61 B5.x true 61 0 t1 t2 _ (by exact Hv5.out)).mono ?_
      rintro e w6 ⟨rfl, rfl⟩
      go_wp2_with fail
      go_ret2
      exact ⟨⟨true, b1 + 61, by simp, by simpa [eFind, *] using Hf.out⟩, Hb5.out⟩
    | false =>
      rcases Nat.eq_zero_or_pos a1 with rfl | ha
      · rcases Nat.eq_zero_or_pos b1 with rfl | hb
        · go_wp2_with fail
          go_ret2
          exact ⟨⟨false, 0, rfl, by simpa [eFind] using Hf.out⟩, Hb4.out⟩
        · have hbI : (b1 : Int) ≠ 0 := by omega
          have hbn : b1 ≠ 0 := by omega
          go_wp2_with fail
          refine (static_any _).mono ?_
          rintro e w5 ⟨B5, rfl, hS5, hb5⟩
          obtain ⟨t1, t2, hv5, -⟩ := hS5.view
          have Hv5 := Lib.hid hv5
          have Hb5 : Hid (Below w.heap.size w w5) := Lib.hid (Hb4.out.trans (hb5.mono Hb4.out.size))
          clear hS5 hb5 hv5
          go_wp2_with fail
          refine (static_len61 B5.x true 61 0 t1 t2 _ (by exact Hv5.out)).mono ?_
          rintro e w6 ⟨rfl, rfl⟩
          go_wp2_with fail
          go_ret2
          exact ⟨⟨false, b1 + 61, by simp, by simpa [eFind, *] using Hf.out⟩, Hb5.out⟩
      · have haI : (a1 : Int) ≠ 0 := by omega
        have han : a1 ≠ 0 := by omega
        have d0 : decide ((a1 : Int) = 0) = false := decide_eq_false haI
        go_wp2_with fail
        go_ret2
        exact ⟨⟨false, a1, rfl, by simpa [eFind, han] using Hf.out⟩, Hb4.out⟩
end Go.Proofs.YtjdmaflkafmmpaaDoor
/-
  The contract of shouldIndex.
-/
namespace Go.Proofs.YtjdmaflkafmmpaaDoor
open Go.ChangeShapes Go.WideShapes Go.ChangeAt Go.RowKit

set_option maxHeartbeats 2000000 in
set_option maxRecDepth 100000 in
theorem should_any (d max : Nat) (f : HD.Fld) (w : World) (h6 : w.cell? ⟨d, 6, none⟩ = some (.int .u32 (max : Nat))) (hsz : f.name.length + f.value.length + 32 < 2 ^ 32) :
    Calls Tryd.prog 44 #[.pointer (some ⟨d, 0, none⟩), .agg #[.string ⟨f.name.toArray⟩, .string ⟨f.value.toArray⟩, .bool f.sens]] w fun e w' => e = .returned (.bool (!f.sens && decide (f.name.length + f.value.length + 32 ≤ max))) ∧ Below w.heap.size w w' := by
  have hdl := World.block_lt_of_cell? w _ h6
  have hbx := boxS.new w f
  obtain ⟨nm, vl, ss⟩ := f
  have hb0 : Below w.heap.size w (w.alloc (.cells #[.string ⟨nm.toArray⟩, .string ⟨vl.toArray⟩, .bool ss] 57)) := (Below.refl _ w).alloc (Nat.le_refl _) _
  have h6' := (hb0.cell (p := ⟨d, 6, none⟩) hdl).trans h6
  have Hbx := Lib.hid hbx
  have Hb0 := Lib.hid hb0
  have H6 := Lib.hid h6'
  obtain ⟨z, hz⟩ : ∃ z, nm.length + vl.length + 32 = z := ⟨_, rfl⟩
  have Hz := Lib.hid hz
  have hz32 : z < 2 ^ 32 := by rw [← hz]; exact hsz
  dsimp only
  rw [hz]
  clear hbx hb0 h6' h6 hz hsz
  cases ss with
  | true =>
    go_enter Tryd.func44, Tryd.ntmps44
    go_wp2_with fail
    refine wp_region_held_drew (S := (fun w' => w'.cell? ⟨w.heap.size, 0, none⟩ = some (.string ⟨nm.toArray⟩) ∧ w'.cell? ⟨w.heap.size, 1, none⟩ = some (.string ⟨vl.toArray⟩) ∧ w'.cell? ⟨w.heap.size, 2, none⟩ = some (.bool true) ∧ w'.cell? ⟨d, 6, none⟩ = some (.int .u32 (max : Nat)))) (by kernel_rfl) ((by exact ⟨Hbx.out.1, Hbx.out.2.1, Hbx.out.2.2, H6.out⟩)) (fun hHeld => ?_)
    refine takeH 0 (v := ?_) rfl rfl (by kernel_rfl) (by kernel_rfl) (by kernel_rfl) (fun _ _ _ h => h) (Or.inl ⟨by rfl, ?_⟩) (by assumption) ?_
    rotate_left
    · (intro w hSw; (try dsimp only at hSw); go_simp <;> with_reducible rfl)
    simp only [List.setIfInBounds_toArray, List.set_cons_zero, List.set_cons_succ]
    refine takeH 1 (v := ?_) rfl rfl (by kernel_rfl) (by kernel_rfl) (by kernel_rfl) (fun _ _ _ h => h) (Or.inl ⟨by rfl, ?_⟩) (by assumption) ?_
    rotate_left
    · (intro w hSw; (try dsimp only at hSw); go_simp <;> with_reducible rfl)
    simp only [List.setIfInBounds_toArray, List.set_cons_zero, List.set_cons_succ]
    refine takeH 2 (v := ?_) rfl rfl (by kernel_rfl) (by kernel_rfl) (by kernel_rfl) (fun _ _ _ h => h) (Or.inl ⟨by rfl, ?_⟩) (by assumption) ?_
    rotate_left
    · (intro w hSw; (try dsimp only at hSw); go_simp <;> with_reducible rfl)
    simp only [List.setIfInBounds_toArray, List.set_cons_zero, List.set_cons_succ]
    refine takeH 3 (v := ?_) rfl rfl (by kernel_rfl) (by kernel_rfl) (by kernel_rfl) (fun _ _ _ h => h) (Or.inl ⟨by rfl, ?_⟩) (by assumption) ?_
    rotate_left
    · (intro w hSw; (try dsimp only at hSw); go_simp <;> with_reducible rfl)
    simp only [List.setIfInBounds_toArray, List.set_cons_zero, List.set_cons_succ]
    refine takeH 4 (v := undef) rfl rfl (by kernel_rfl) (by kernel_rfl) (by kernel_rfl) (fun _ _ _ h => h) (Or.inr ⟨by rfl, rfl⟩) (by assumption) ?_
    simp only [List.setIfInBounds_toArray, List.set_cons_zero, List.set_cons_succ]
    refine takeH 5 (v := undef) rfl rfl (by kernel_rfl) (by kernel_rfl) (by kernel_rfl) (fun _ _ _ h => h) (Or.inr ⟨by rfl, rfl⟩) (by assumption) ?_
    simp only [List.setIfInBounds_toArray, List.set_cons_zero, List.set_cons_succ]
    refine takeH 6 (v := undef) rfl rfl (by kernel_rfl) (by kernel_rfl) (by kernel_rfl) (fun _ _ _ h => h) (Or.inr ⟨by rfl, rfl⟩) (by assumption) ?_
    simp only [List.setIfInBounds_toArray, List.set_cons_zero, List.set_cons_succ]
    refine takeH 7 (v := undef) rfl rfl (by kernel_rfl) (by kernel_rfl) (by kernel_rfl) (fun _ _ _ h => h) (Or.inr ⟨by rfl, rfl⟩) (by assumption) ?_
    simp only [List.setIfInBounds_toArray, List.set_cons_zero, List.set_cons_succ]
    refine takeH 8 (v := undef) rfl rfl (by kernel_rfl) (by kernel_rfl) (by kernel_rfl) (fun _ _ _ h => h) (Or.inr ⟨by rfl, rfl⟩) (by assumption) ?_
    simp only [List.setIfInBounds_toArray, List.set_cons_zero, List.set_cons_succ]
    refine takeH 9 (v := undef) rfl rfl (by kernel_rfl) (by kernel_rfl) (by kernel_rfl) (fun _ _ _ h => h) (Or.inr ⟨by rfl, rfl⟩) (by assumption) ?_
    simp only [List.setIfInBounds_toArray, List.set_cons_zero, List.set_cons_succ]
    refine takeH 10 (v := undef) rfl rfl (by kernel_rfl) (by kernel_rfl) (by kernel_rfl) (fun _ _ _ h => h) (Or.inr ⟨by rfl, rfl⟩) (by assumption) ?_
    simp only [List.setIfInBounds_toArray, List.set_cons_zero, List.set_cons_succ]
    refine takeH 11 (v := undef) rfl rfl (by kernel_rfl) (by kernel_rfl) (by kernel_rfl) (fun _ _ _ h => h) (Or.inr ⟨by rfl, rfl⟩) (by assumption) ?_
    simp only [List.setIfInBounds_toArray, List.set_cons_zero, List.set_cons_succ]
    refine takeH 12 (v := ?_) rfl rfl (by kernel_rfl) (by kernel_rfl) (by kernel_rfl) (fun _ _ _ h => h) (Or.inl ⟨by rfl, ?_⟩) (by assumption) ?_
    rotate_left
    · (intro w hSw; (try dsimp only at hSw); go_simp <;> with_reducible rfl)
    simp only [List.setIfInBounds_toArray, List.set_cons_zero, List.set_cons_succ]
    refine takeH 13 (v := ?_) rfl rfl (by kernel_rfl) (by kernel_rfl) (by kernel_rfl) (fun _ _ _ h => h) (Or.inl ⟨by rfl, ?_⟩) (by assumption) ?_
    rotate_left
    · (intro w hSw; (try dsimp only at hSw); go_simp <;> with_reducible rfl)
    simp only [List.setIfInBounds_toArray, List.set_cons_zero, List.set_cons_succ]
    refine wpAnyH_done (by kernel_rfl) ?_ _
    go_wp2_with fail
    go_ret
    exact ⟨rfl, Hb0.out.trans ⟨rfl, rfl, rfl, Nat.le_refl _, fun _ _ => rfl⟩⟩
  | false =>
    go_enter Tryd.func44, Tryd.ntmps44
    go_wp2_with fail
    refine wp_region_held_drew (S := (fun w' => w'.cell? ⟨w.heap.size, 0, none⟩ = some (.string ⟨nm.toArray⟩) ∧ w'.cell? ⟨w.heap.size, 1, none⟩ = some (.string ⟨vl.toArray⟩) ∧ w'.cell? ⟨w.heap.size, 2, none⟩ = some (.bool false) ∧ w'.cell? ⟨d, 6, none⟩ = some (.int .u32 (max : Nat)))) (by kernel_rfl) ((by exact ⟨Hbx.out.1, Hbx.out.2.1, Hbx.out.2.2, H6.out⟩)) (fun hHeld => ?_)
    refine takeH 0 (v := ?_) rfl rfl (by kernel_rfl) (by kernel_rfl) (by kernel_rfl) (fun _ _ _ h => h) (Or.inl ⟨by rfl, ?_⟩) (by assumption) ?_
    rotate_left
    · (intro w hSw; (try dsimp only at hSw); go_simp <;> with_reducible rfl)
    simp only [List.setIfInBounds_toArray, List.set_cons_zero, List.set_cons_succ]
    refine takeH 1 (v := ?_) rfl rfl (by kernel_rfl) (by kernel_rfl) (by kernel_rfl) (fun _ _ _ h => h) (Or.inl ⟨by rfl, ?_⟩) (by assumption) ?_
    rotate_left
    · (intro w hSw; (try dsimp only at hSw); go_simp <;> with_reducible rfl)
    simp only [List.setIfInBounds_toArray, List.set_cons_zero, List.set_cons_succ]
    refine takeH 2 (v := ?_) rfl rfl (by kernel_rfl) (by kernel_rfl) (by kernel_rfl) (fun _ _ _ h => h) (Or.inl ⟨by rfl, ?_⟩) (by assumption) ?_
    rotate_left
    · (intro w hSw; (try dsimp only at hSw); go_simp <;> with_reducible rfl)
    simp only [List.setIfInBounds_toArray, List.set_cons_zero, List.set_cons_succ]
    refine takeH 3 (v := ?_) rfl rfl (by kernel_rfl) (by kernel_rfl) (by kernel_rfl) (fun _ _ _ h => h) (Or.inl ⟨by rfl, ?_⟩) (by assumption) ?_
    rotate_left
    · (intro w hSw; (try dsimp only at hSw); go_simp <;> with_reducible rfl)
    simp only [List.setIfInBounds_toArray, List.set_cons_zero, List.set_cons_succ]
    refine takeH 4 (v := ?_) rfl rfl (by kernel_rfl) (by kernel_rfl) (by kernel_rfl) (fun _ _ _ h => h) (Or.inl ⟨by rfl, ?_⟩) (by assumption) ?_
    rotate_left
    · (intro w hSw; (try dsimp only at hSw); go_simp <;> with_reducible rfl)
    simp only [List.setIfInBounds_toArray, List.set_cons_zero, List.set_cons_succ]
    refine takeH 6 (v := ?_) rfl rfl (by kernel_rfl) (by kernel_rfl) (by kernel_rfl) (fun _ _ _ h => h) (Or.inl ⟨by rfl, ?_⟩) (by assumption) ?_
    rotate_left
    · (intro w hSw; (try dsimp only at hSw); go_simp <;> with_reducible rfl)
    simp only [List.setIfInBounds_toArray, List.set_cons_zero, List.set_cons_succ]
    refine takeH 7 (v := ?_) rfl rfl (by kernel_rfl) (by kernel_rfl) (by kernel_rfl) (fun _ _ _ h => h) (Or.inl ⟨by rfl, ?_⟩) (by assumption) ?_
    rotate_left
    · (intro w hSw; (try dsimp only at hSw); go_simp <;> with_reducible rfl)
    simp only [List.setIfInBounds_toArray, List.set_cons_zero, List.set_cons_succ]
    refine takeH 8 (v := ?_) rfl rfl (by kernel_rfl) (by kernel_rfl) (by kernel_rfl) (fun _ _ _ h => h) (Or.inl ⟨by rfl, ?_⟩) (by assumption) ?_
    rotate_left
    · (intro w hSw; (try dsimp only at hSw); go_simp <;> with_reducible rfl)
    simp only [List.setIfInBounds_toArray, List.set_cons_zero, List.set_cons_succ]
    refine takeH 9 (v := ?_) rfl rfl (by kernel_rfl) (by kernel_rfl) (by kernel_rfl) (fun _ _ _ h => h) (Or.inl ⟨by rfl, ?_⟩) (by assumption) ?_
    rotate_left
    · (intro w hSw; (try dsimp only at hSw); go_simp <;> with_reducible rfl)
    simp only [List.setIfInBounds_toArray, List.set_cons_zero, List.set_cons_succ]
    refine takeH 10 (v := ?_) rfl rfl (by kernel_rfl) (by kernel_rfl) (by kernel_rfl) (fun _ _ _ h => h) (Or.inl ⟨by rfl, ?_⟩) (by assumption) ?_
    rotate_left
    · (intro w hSw; (try dsimp only at hSw); go_simp <;> with_reducible rfl)
    simp only [List.setIfInBounds_toArray, List.set_cons_zero, List.set_cons_succ]
    refine wpAnyH_ready (rs := [5]) (by kernel_rfl) (by simp) ?_
    refine AllReadyH.cons rfl (fun K hK => ?_) AllReadyH.nil
    go_simp
    refine (size_any nm vl false _ (by rw [Hz.out]; exact hz32)).mono ?_
    rintro e w4 ⟨rfl, hb4⟩
    rw [Hz.out]
    have hbx4 := Hbx.out.below ⟨hb4.os, hb4.tape, hb4.output, hb4.size, hb4.block⟩
    have h64 : w4.cell? ⟨d, 6, none⟩ = some (.int .u32 (max : Nat)) := (hb4.cell (p := ⟨d, 6, none⟩) (by show d < (w.alloc _).heap.size; simp; omega)).trans H6.out
    have Hb4 : Hid (Below w.heap.size w w4) := Lib.hid (Hb0.out.trans ⟨hb4.os, hb4.tape, hb4.output, hb4.size, fun k hk => hb4.block k (by show k < (w.alloc _).heap.size; simp; omega)⟩)
    clear hb4
    refine hK.out _ _ (by exact ⟨hbx4.1, hbx4.2.1, hbx4.2.2, h64⟩) (fun hHeld => ?_)
    clear hK K hbx4 h64
    refine takeH 11 (v := ?_) rfl rfl (by kernel_rfl) (by kernel_rfl) (by kernel_rfl) (fun _ _ _ h => h) (Or.inl ⟨by rfl, ?_⟩) (by assumption) ?_
    rotate_left
    · (intro w hSw; (try dsimp only at hSw); go_simp <;> with_reducible rfl)
    simp only [List.setIfInBounds_toArray, List.set_cons_zero, List.set_cons_succ]
    refine takeH 12 (v := ?_) rfl rfl (by kernel_rfl) (by kernel_rfl) (by kernel_rfl) (fun _ _ _ h => h) (Or.inl ⟨by rfl, ?_⟩) (by assumption) ?_
    rotate_left
    · (intro w hSw; (try dsimp only at hSw); go_simp <;> with_reducible rfl)
    simp only [List.setIfInBounds_toArray, List.set_cons_zero, List.set_cons_succ]
    refine takeH 13 (v := ?_) rfl rfl (by kernel_rfl) (by kernel_rfl) (by kernel_rfl) (fun _ _ _ h => h) (Or.inl ⟨by rfl, ?_⟩) (by assumption) ?_
    rotate_left
    · (intro w hSw; (try dsimp only at hSw); go_simp <;> with_reducible rfl)
    simp only [List.setIfInBounds_toArray, List.set_cons_zero, List.set_cons_succ]
    refine wpAnyH_done (by kernel_rfl) ?_ _
    clear hHeld
    go_wp2_with fail
    go_ret
    exact ⟨ret_bool (by simp), Hb4.out⟩
end Go.Proofs.YtjdmaflkafmmpaaDoor
/-
  Contracts of appendNewName and appendIndexedName.
-/
namespace Go.Proofs.YtjdmaflkafmmpaaDoor
open Go.ChangeShapes Go.WideShapes Go.ChangeAt Go.RowKit

theorem Grew.ne {w1 w2 : World} {v v' : Value} {k : Nat} (h : Grew w1 w2 v v') (hk : k < w1.heap.size) (hv : v.ownBlock ≠ some k) : v'.ownBlock ≠ some k := by
  rcases h.at_ with e | ⟨g, e, hg⟩
  · rw [e]; exact hv
  · rw [e]; intro h0; have := Option.some.inj h0; omega
theorem boxS.grew {w w1 w2 : World} {f : HD.Fld} {v v' : Value} (h : boxS w f w1) (hg : Grew w1 w2 v v') (hv : v.ownBlock ≠ some w.heap.size) : boxS w f w2 := by
  have hlt := World.block_lt_of_cell? w1 _ h.1
  have key : ∀ i, w2.cell? ⟨w.heap.size, i, none⟩ = w1.cell? ⟨w.heap.size, i, none⟩ := fun i => World.cell?_of_block (a := ⟨w.heap.size, i, none⟩) (hg.grown.block _ hlt (fun e => hv e.symm))
  exact ⟨(key 0).trans h.1, (key 1).trans h.2.1, (key 2).trans h.2.2⟩

def fldA (f : HD.Fld) : Value := .agg #[.string ⟨f.name.toArray⟩, .string ⟨f.value.toArray⟩, .bool f.sens]
def boxO (f : HD.Fld) : Obj := .cells #[.string ⟨f.name.toArray⟩, .string ⟨f.value.toArray⟩, .bool f.sens] 57

set_option maxHeartbeats 1000000 in
set_option maxRecDepth 100000 in
theorem newName_any (B n : Nat) (v : Value) (xs : List Value) (f : HD.Fld) (idx : Bool) (w : World) (hown : w.ownsRow B 5 1 v n xs) (hB : B ≤ w.heap.size) (hG : 5 < B ∧ 6 < B) (hnm : f.name.length ≤ 1048576) (hvl : f.value.length ≤ 1048576) (hn : n ≤ 2 ^ 38) (ht : LenTab w) (hc : CodeTab w) :
    Calls Tryd.prog 46 #[v, .agg #[.string ⟨f.name.toArray⟩, .string ⟨f.value.toArray⟩, .bool f.sens], .bool idx] w (App B n xs v w (HD.efld false 0 idx f)) := by
  obtain ⟨sa, sc, rfl⟩ := own_form hown
  have hT : HD.efld false 0 idx f = [UInt8.ofNat (HD.tbyte idx f.sens)] ++ HD.estr f.name ++ HD.estr f.value := by simp [HD.efld]
  have htb : HD.tbyte idx f.sens < 256 := by cases idx <;> cases f.sens <;> decide
  have hl1 := HD.estr_le (s := f.name) (by omega)
  rw [hT]
  obtain ⟨nm, vl, ss⟩ := f
  dsimp only at *
  have hbx := boxS.new w ⟨nm, vl, ss⟩
  have hown0 := hown.alloc (.cells #[.string ⟨nm.toArray⟩, .string ⟨vl.toArray⟩, .bool ss] 57)
  have hg0 : Grew w (w.alloc (.cells #[.string ⟨nm.toArray⟩, .string ⟨vl.toArray⟩, .bool ss] 57)) (.slice sa n sc) (.slice sa n sc) := (Grew.refl _ _).alloc _
  have hne : (Value.slice sa n sc).ownBlock ≠ some w.heap.size := fun e => by have := (hown.lt _ e).2; omega
  obtain ⟨i0, hi0, hz0, hz1, hz2⟩ := info_parts infoU8
  obtain ⟨tb, htbe⟩ : ∃ tb, tb = HD.tbyte idx ss := ⟨_, rfl⟩
  rw [← htbe] at htb ⊢
  obtain ⟨T, hTe⟩ : ∃ T, T = [UInt8.ofNat tb] ++ HD.estr nm ++ HD.estr vl := ⟨_, rfl⟩
  rw [← hTe]
  have HT := Lib.hid hTe
  have Htb := Lib.hid htbe
  have Hown := Lib.hid hown
  have Hown0 := Lib.hid hown0
  have Hg0 := Lib.hid hg0
  have Hbx := Lib.hid hbx
  have Ht := Lib.hid ht
  have Hc := Lib.hid hc
  have HG := Lib.hid hG
  have Hne := Lib.hid hne
  clear hT hown hown0 hg0 hbx ht hc hG hne htbe hTe
  go_enter Tryd.func46, Tryd.ntmps46
  go_wp2_with fail
  refine (typeByte_any idx ss _).mono ?_
  rintro e w1 ⟨rfl, rfl⟩
  rw [← Htb.out]
  obtain ⟨W0, hW0⟩ : ∃ W0, W0 = w.alloc (.cells #[.string ⟨nm.toArray⟩, .string ⟨vl.toArray⟩, .bool ss] 57) := ⟨_, rfl⟩
  rw [← hW0] at Hown0 Hg0 Hbx ⊢
  have hs0 : W0.heap.size = w.heap.size + 1 := by rw [hW0]; simp
  have Hs0 := Lib.hid hs0
  have hB0 : B ≤ W0.heap.size := by omega
  have hlt0 : w.heap.size < W0.heap.size := by omega
  clear hs0 hW0
  go_wp2_with (at_builtin; go_must (refine wpList_append_own_at _ rfl _ _ 30 rfl B 5 i0 (.int .u8 0) 1 1 Tryd.underlying30 hi0 hz0 hz1 hz2 rfl (by decide) _ _ _ rfl (Hown0.out.alloc _) ⟨W0.heap.size, 0, none⟩ 1 1 [.int .u8 (tb : Nat)] rfl rfl (news_of_new W0 [.int .u8 (tb : Nat)] 5) (by simp [Value.oneCell']) (by unfold maxLen; omega) (by omega) (by simp; omega) ?_); intro v1 w1 hown1 hgrow1 _ hat1; have hgw := (Grew.refl W0 (Value.slice sa n sc)).app hgrow1 hat1; obtain ⟨q0, q1, q2⟩ := Hbx.out.grew hgw Hne.out; have Hne1 := Lib.hid (hgw.ne hlt0 Hne.out); have Hg1 := Lib.hid (Hg0.out.trans hgw); have Hown1 := Lib.hid hown1; clear hgw hown1 hgrow1 hat1)
  have hb1 := Hg1.out.below Hown.out hB
  have HT1 := Lib.hid (Ht.out.below hb1 HG.out.1)
  have HC1 := Lib.hid (Hc.out.below hb1 HG.out.2)
  have hB1 : B ≤ w1.heap.size := Nat.le_trans hB hb1.size
  have hw1 : w.heap.size < w1.heap.size := World.block_lt_of_cell? w1 _ q0
  have Hq1 : Hid (boxS w ⟨nm, vl, ss⟩ w1) := ⟨q0, q1, q2⟩
  clear hb1 q0 q1 q2
  refine (strApp_any B (n + 1) v1 _ nm _ Hown1.out hB1 HG.out hnm (by omega) HT1.out HC1.out).mono ?_
  rintro e w2 ⟨v2, rfl, hown2, hg2⟩
  obtain ⟨q0, q1, q2⟩ := Hq1.out.grew hg2 Hne1.out
  have hb2 := (Hg1.out.trans hg2).below Hown.out hB
  have HT2 := Lib.hid (Ht.out.below hb2 HG.out.1)
  have HC2 := Lib.hid (Hc.out.below hb2 HG.out.2)
  have hB2 : B ≤ w2.heap.size := Nat.le_trans hB hb2.size
  obtain ⟨N2, hN2⟩ : ∃ N2, N2 = n + 1 + (HD.estr nm).length := ⟨_, rfl⟩
  have hN2b : N2 ≤ 2 ^ 39 := by omega
  rw [← hN2] at hown2
  have HN2 := Lib.hid hN2
  have Hg2 := Lib.hid (Hg1.out.trans hg2)
  have Hown2 := Lib.hid hown2
  clear hb2 hown2 hg2 hN2
  go_wp2_with fail
  refine (strApp_any B N2 v2 _ vl _ Hown2.out hB2 HG.out hvl hN2b HT2.out HC2.out).mono ?_
  rintro e w3 ⟨v3, rfl, hown3, hg3⟩
  have Hown3 := Lib.hid hown3
  have Hg3 := Lib.hid (Hg2.out.trans hg3)
  clear hown3 hg3 q0 q1 q2
  go_wp2_with fail
  go_ret
  refine ⟨v3, rfl, ?_, Hg3.out⟩
  have h3 := Hown3.out
  rw [HN2.out] at h3
  rw [HT.out, byteCells_app, byteCells_app, byteCells_one _ htb, List.length_append, List.length_append, List.length_singleton, ← List.append_assoc, ← List.append_assoc, ← Nat.add_assoc, ← Nat.add_assoc]
  exact h3

theorem typeByte_same (idx sens : Bool) (w : World) : Calls Tryd.prog 63 #[.bool idx, .bool sens] w fun e w' => e = .returned (.int .u8 (HD.tbyte idx sens : Nat)) ∧ w' = w := (typeByte_any idx sens w).mono fun _ _ ⟨h1, h2⟩ => ⟨h1, h2.symm⟩
theorem or_tb (idx sens : Bool) (x : Nat) (h : x < 2 ^ HD.tbits idx) (hx : idx = true → sens = false) : bits BinOp.or IntKind.u8 (x : Int) (HD.tbyte idx sens : Nat) = ((HD.tbyte idx sens + x : Nat) : Int) := by
  have k6 : ∀ b : Fin 64, bits BinOp.or IntKind.u8 (b.val : Int) 64 = ((64 + b.val : Nat) : Int) := by decide +kernel
  have k4 : ∀ b : Fin 16, bits BinOp.or IntKind.u8 (b.val : Int) 16 = ((16 + b.val : Nat) : Int) := by decide +kernel
  have k0 : ∀ b : Fin 16, bits BinOp.or IntKind.u8 (b.val : Int) 0 = ((0 + b.val : Nat) : Int) := by decide +kernel
  cases idx with
  | true =>
    obtain rfl := hx rfl
    exact k6 ⟨x, by simpa [HD.tbits] using h⟩
  | false =>
    cases sens with
    | true => exact k4 ⟨x, by simpa [HD.tbits] using h⟩
    | false => exact k0 ⟨x, by simpa [HD.tbits] using h⟩

set_option maxHeartbeats 1000000 in
set_option maxRecDepth 100000 in
theorem idxName_any (B n : Nat) (v : Value) (xs : List Value) (f : HD.Fld) (i : Nat) (idx : Bool) (w : World) (hown : w.ownsRow B 5 1 v n xs) (hB : B ≤ w.heap.size) (hG : 5 < B ∧ 6 < B) (hvl : f.value.length ≤ 1048576) (hn : n ≤ 2 ^ 38) (ht : LenTab w) (hc : CodeTab w) (hi : i < 2 ^ 62) (h0 : i ≠ 0) (hx : idx = true → f.sens = false) :
    Calls Tryd.prog 47 #[v, .agg #[.string ⟨f.name.toArray⟩, .string ⟨f.value.toArray⟩, .bool f.sens], .int .u64 (i : Nat), .bool idx] w (App B n xs v w (HD.efld false i idx f)) := by
  obtain ⟨sa, sc, rfl⟩ := own_form hown
  have hT : HD.efld false i idx f = HD.intg (HD.tbyte idx f.sens) (HD.tbits idx) i ++ HD.estr f.value := by simp [HD.efld, h0]
  rw [hT]
  have hxl : xs.length = n := by simpa using hown.1
  have hil := HD.intg_le (above := HD.tbyte idx f.sens) (bits := HD.tbits idx) hi
  obtain ⟨nm, vl, ss⟩ := f
  dsimp only at *
  have hbx := boxS.new w ⟨nm, vl, ss⟩
  have hown0 := hown.alloc (.cells #[.string ⟨nm.toArray⟩, .string ⟨vl.toArray⟩, .bool ss] 57)
  have hg0 : Grew w (w.alloc (.cells #[.string ⟨nm.toArray⟩, .string ⟨vl.toArray⟩, .bool ss] 57)) (.slice sa n sc) (.slice sa n sc) := (Grew.refl _ _).alloc _
  have hne : (Value.slice sa n sc).ownBlock ≠ some w.heap.size := fun e => by have := (hown.lt _ e).2; omega
  obtain ⟨T, hTe⟩ : ∃ T, T = HD.intg (HD.tbyte idx ss) (HD.tbits idx) i ++ HD.estr vl := ⟨_, rfl⟩
  rw [← hTe]
  have HT := Lib.hid hTe
  have Hxl := Lib.hid hxl
  have Hown := Lib.hid hown
  have Hown0 := Lib.hid hown0
  have Hg0 := Lib.hid hg0
  have Hbx := Lib.hid hbx
  have Ht := Lib.hid ht
  have Hc := Lib.hid hc
  have HG := Lib.hid hG
  have Hne := Lib.hid hne
  have Hx := Lib.hid hx
  have hB0 : B ≤ (w.alloc (.cells #[.string ⟨nm.toArray⟩, .string ⟨vl.toArray⟩, .bool ss] 57)).heap.size := by simp; omega
  clear hT hown hown0 hg0 hbx ht hc hG hne hTe hxl h0 hx
  have main : ∀ (W : World) (Q : Ending → World → Prop), (∀ w1 v1, w1.ownsRow B 5 1 v1 (n + (HD.intg 0 (HD.tbits idx) i).length) (xs ++ Lib.byteCells (HD.intg 0 (HD.tbits idx) i)) → Grew W w1 (.slice sa n sc) v1 → Q (.returned v1) w1) →
      W.ownsRow B 5 1 (.slice sa n sc) n xs → B ≤ W.heap.size → Calls Tryd.prog 59 #[.slice sa n sc, .int .u8 (HD.tbits idx : Nat), .int .u64 (i : Nat)] W Q := by
    intro W Q hQ ho hb
    refine (varApp_any (HD.tbits idx) (2 ^ HD.tbits idx - 1) (by cases idx <;> simp [HD.tbits]) B n _ xs i W ho hb (by omega) (by omega)).mono ?_
    rintro e w1 ⟨v1, rfl, h1, h2⟩
    exact hQ w1 v1 h1 h2
  have Hmain := Lib.hid main
  clear main
  cases idx with
  | true =>
    go_enter Tryd.func47, Tryd.ntmps47
    go_wp2_with fail
    refine Hmain.out _ _ ?_ (by exact Hown0.out) hB0
    intro w1 v1 hown1 hg1
    have hbx1 := Hbx.out.grew hg1 Hne.out
    have hne1 := hg1.ne (by simp) Hne.out
    obtain ⟨g, cap, x, N, rfl, hN, hNc, hcm, hNe, hx, hcl, hf, hown2, hg2⟩ := head_set (HD.tbyte true ss) (w := w) (w1 := w1.drew) (ownsRow_of_heap hown1 fun _ _ => rfl) (Hg0.out.trans hg1).drew Hxl.out (by cases ss <;> decide)
    have hor := or_tb true ss x hx (fun h => by first | (cases h; done) | exact Hx.out trivial)
    obtain ⟨tb, htb⟩ : ∃ tb, tb = HD.tbyte true ss := ⟨_, rfl⟩
    have hty : ∀ W, Calls Tryd.prog 63 #[.bool true, .bool ss] W fun e w' => e = .returned (.int .u8 (tb : Nat)) ∧ w' = W := fun W => by rw [htb]; exact typeByte_same true ss W
    rw [← htb] at hor hown2 hg2
    have hgne : g ≠ w.heap.size := fun e => hne1 (by rw [e]; rfl)
    have hbx2 : boxS w ⟨nm, vl, ss⟩ (w1.drew.setCell ⟨g, n, none⟩ (.int .u8 ((tb + x : Nat) : Int))) := ⟨(cell_other hgne).trans hbx1.1, (cell_other hgne).trans hbx1.2.1, (cell_other hgne).trans hbx1.2.2⟩
    obtain ⟨q0, q1, q2⟩ := hbx1
    have hNI : (n : Int) < (N : Int) := by omega
    have hc1 : w1.cell? ⟨g, n, none⟩ = some (.int .u8 (x : Nat)) := hcl
    have hf1 : w1.frozen? ⟨g, n, none⟩ = false := hf
    have hb2 := hg2.below Hown.out hB
    have HT2 := Lib.hid (Ht.out.below hb2 HG.out.1)
    have HC2 := Lib.hid (Hc.out.below hb2 HG.out.2)
    have hB2 : B ≤ (w1.drew.setCell ⟨g, n, none⟩ (.int .u8 ((tb + x : Nat) : Int))).heap.size := Nat.le_trans hB hb2.size
    have hNb : N ≤ 2 ^ 39 := by omega
    have HN := Lib.hid hNe
    have Htb := Lib.hid htb
    have Hbx2 := Lib.hid hbx2
    have Hown2 := Lib.hid hown2
    have Hg2 := Lib.hid hg2
    clear hown1 hg1 hne1 hNe hown2 hg2 hb2 hbx2 htb hcl hf
    go_wp2_with fail
    refine stillTail 9 (by kernel_rfl) (by kernel_rfl) ?_
    simp only [List.take_succ_cons, List.take_zero, List.drop_succ_cons, List.drop_zero]
    repeat (refine wpStill_step (fun K hK => ?_); go_simp; (first | (refine hK _ ?_; clear hK K) | (refine ⟨_, (hty _), hK _ ?_⟩; clear hK K)))
    refine wpStill_nil ?_
    go_wp2_with fail
    rw [show (tb : Int) + (x : Int) = ((tb + x : Nat) : Int) by omega]
    refine (strApp_any B N _ _ vl _ (by exact Hown2.out) (by exact hB2) HG.out hvl hNb (by exact HT2.out) (by exact HC2.out)).mono ?_
    rintro e w3 ⟨v3, rfl, hown3, hg3⟩
    have Hown3 := Lib.hid hown3
    have Hg3 := Lib.hid (Hg2.out.trans (w2 := w1.drew.setCell ⟨g, n, none⟩ (.int .u8 ((tb + x : Nat) : Int))) ⟨⟨hg3.grown.os, hg3.grown.tape, hg3.grown.output, hg3.grown.size, hg3.grown.block⟩, hg3.at_⟩)
    clear hown3 hg3
    go_wp2_with fail
    go_ret
    refine ⟨v3, rfl, ?_, Hg3.out⟩
    have h3 := Hown3.out
    rw [HN.out, Htb.out] at h3
    rw [HT.out, byteCells_app, List.length_append, ← List.append_assoc, ← Nat.add_assoc]
    exact h3
  | false =>
    go_enter Tryd.func47, Tryd.ntmps47
    go_wp2_with fail
    refine Hmain.out _ _ ?_ (by exact Hown0.out) hB0
    intro w1 v1 hown1 hg1
    have hbx1 := Hbx.out.grew hg1 Hne.out
    have hne1 := hg1.ne (by simp) Hne.out
    obtain ⟨g, cap, x, N, rfl, hN, hNc, hcm, hNe, hx, hcl, hf, hown2, hg2⟩ := head_set (HD.tbyte false ss) (w := w) (w1 := w1.drew) (ownsRow_of_heap hown1 fun _ _ => rfl) (Hg0.out.trans hg1).drew Hxl.out (by cases ss <;> decide)
    have hor := or_tb false ss x hx (fun h => by first | (cases h; done) | exact Hx.out trivial)
    obtain ⟨tb, htb⟩ : ∃ tb, tb = HD.tbyte false ss := ⟨_, rfl⟩
    have hty : ∀ W, Calls Tryd.prog 63 #[.bool false, .bool ss] W fun e w' => e = .returned (.int .u8 (tb : Nat)) ∧ w' = W := fun W => by rw [htb]; exact typeByte_same false ss W
    rw [← htb] at hor hown2 hg2
    have hgne : g ≠ w.heap.size := fun e => hne1 (by rw [e]; rfl)
    have hbx2 : boxS w ⟨nm, vl, ss⟩ (w1.drew.setCell ⟨g, n, none⟩ (.int .u8 ((tb + x : Nat) : Int))) := ⟨(cell_other hgne).trans hbx1.1, (cell_other hgne).trans hbx1.2.1, (cell_other hgne).trans hbx1.2.2⟩
    obtain ⟨q0, q1, q2⟩ := hbx1
    have hNI : (n : Int) < (N : Int) := by omega
    have hc1 : w1.cell? ⟨g, n, none⟩ = some (.int .u8 (x : Nat)) := hcl
    have hf1 : w1.frozen? ⟨g, n, none⟩ = false := hf
    have hb2 := hg2.below Hown.out hB
    have HT2 := Lib.hid (Ht.out.below hb2 HG.out.1)
    have HC2 := Lib.hid (Hc.out.below hb2 HG.out.2)
    have hB2 : B ≤ (w1.drew.setCell ⟨g, n, none⟩ (.int .u8 ((tb + x : Nat) : Int))).heap.size := Nat.le_trans hB hb2.size
    have hNb : N ≤ 2 ^ 39 := by omega
    have HN := Lib.hid hNe
    have Htb := Lib.hid htb
    have Hbx2 := Lib.hid hbx2
    have Hown2 := Lib.hid hown2
    have Hg2 := Lib.hid hg2
    clear hown1 hg1 hne1 hNe hown2 hg2 hb2 hbx2 htb hcl hf
    go_wp2_with fail
    refine stillTail 9 (by kernel_rfl) (by kernel_rfl) ?_
    simp only [List.take_succ_cons, List.take_zero, List.drop_succ_cons, List.drop_zero]
    repeat (refine wpStill_step (fun K hK => ?_); go_simp; (first | (refine hK _ ?_; clear hK K) | (refine ⟨_, (hty _), hK _ ?_⟩; clear hK K)))
    refine wpStill_nil ?_
    go_wp2_with fail
    rw [show (tb : Int) + (x : Int) = ((tb + x : Nat) : Int) by omega]
    refine (strApp_any B N _ _ vl _ (by exact Hown2.out) (by exact hB2) HG.out hvl hNb (by exact HT2.out) (by exact HC2.out)).mono ?_
    rintro e w3 ⟨v3, rfl, hown3, hg3⟩
    have Hown3 := Lib.hid hown3
    have Hg3 := Lib.hid (Hg2.out.trans (w2 := w1.drew.setCell ⟨g, n, none⟩ (.int .u8 ((tb + x : Nat) : Int))) ⟨⟨hg3.grown.os, hg3.grown.tape, hg3.grown.output, hg3.grown.size, hg3.grown.block⟩, hg3.at_⟩)
    clear hown3 hg3
    go_wp2_with fail
    go_ret
    refine ⟨v3, rfl, ?_, Hg3.out⟩
    have h3 := Hown3.out
    rw [HN.out, Htb.out] at h3
    rw [HT.out, byteCells_app, List.length_append, ← List.append_assoc, ← Nat.add_assoc]
    exact h3
end Go.Proofs.YtjdmaflkafmmpaaDoor
/-
  PLAIN: an encoder in memory, and what becomes of it in the middle of WriteField.
-/
namespace Go.Proofs.YtjdmaflkafmmpaaDoor
open Go.ChangeShapes Go.WideShapes Go.ChangeAt Go.RowKit

/-- What an encoder's blocks hold. -/
structure EP where
  f : Nat → Value
  cnt : Nat
  ev : Value
  m1 : Nat
  m2 : Nat
  l1 : List (HD.Bs × Nat)
  l2 : List ((HD.Bs × HD.Bs) × Nat)
/-- An encoder in block d that writes to the sink in block sk. -/
structure EncAt (B : Nat) (w : World) (d sk : Nat) (s : HD.ES) (p : EP) : Prop where
  tab : TabMem B w d 13 p.f s.ents p.cnt p.ev p.m1 p.m2 p.l1 p.l2
  sized : Sized p.f s.ents s.max
  min : p.f 8 = .int .u32 (s.min : Nat)
  limit : p.f 9 = .int .u32 (s.limit : Nat)
  upd : p.f 10 = .bool s.upd
  out : p.f 11 = .iface 48 (.pointer (some ⟨sk, 0, none⟩))
  maps : MOk p.cnt s.ents p.l1 p.l2
/-- The blocks that are the encoder's own. -/
def EP.own (d : Nat) (p : EP) (k : Nat) : Prop := tabOwn d p.ev p.m1 p.m2 k ∨ (p.f 12).ownBlock = some k
theorem tab_not_u8 {B : Nat} {w : World} {b n : Nat} {f : Nat → Value} {ents : List (HD.Bs × HD.Bs)} {cnt : Nat} {ev : Value} {m1 m2 : Nat} {l1 : List (HD.Bs × Nat)} {l2 : List ((HD.Bs × HD.Bs) × Nat)} {g : Nat} {cs : Array Value} {fz : Nat × Nat}
    (h : TabMem B w b n f ents cnt ev m1 m2 l1 l2) (hg : w.heap[g]? = some (.cells cs 5 fz)) : ¬ tabOwn b ev m1 m2 g := by
  rintro (rfl | ho | rfl | rfl)
  · obtain ⟨cs', t, hb, -, -, ht⟩ := h.row
    rw [hg] at hb; injection hb with hb; injection hb with _ hb _; exact ht hb.symm
  · obtain ⟨c, fz', hk⟩ := Lib.ownsRow_kind h.own g ho
    rw [hg] at hk; injection hk with hk; injection hk with _ hk _; exact absurd hk (by decide)
  · obtain ⟨_, es, c, hb, -⟩ := h.map1
    rw [hg] at hb; injection hb with hb; cases hb
  · obtain ⟨_, es, c, hb, -⟩ := h.map2
    rw [hg] at hb; injection hb with hb; cases hb
theorem EncAt.frame {B : Nat} {w w' : World} {d sk : Nat} {s : HD.ES} {p : EP} (h : EncAt B w d sk s p) (hk : ∀ k, tabOwn d p.ev p.m1 p.m2 k → w'.heap[k]? = w.heap[k]?) : EncAt B w' d sk s p :=
  ⟨h.tab.frame hk, h.sized, h.min, h.limit, h.upd, h.out, h.maps⟩

/-- In the middle of WriteField, which began at w: the encoder's buffer holds t. -/
structure EMid (B : Nat) (w w' : World) (d sk : Nat) (fl : HD.Fld) (s : HD.ES) (p p' : EP) (t : HD.Bs) : Prop where
  enc : EncAt B w' d sk s p'
  buf : w'.ownsRow B 5 1 (p'.f 12) t.length (Lib.byteCells t)
  box : boxS w fl w'
  lo : B ≤ w.heap.size
  upd : Upd (fun k => p.own d k) w w'
  own : ∀ k, p'.own d k → (p.own d k ∨ w.heap.size ≤ k) ∧ k ≠ w.heap.size ∧ k < w'.heap.size
  m : p'.m1 = p.m1 ∧ p'.m2 = p.m2
namespace EMid
variable {B : Nat} {w w1 w2 : World} {d sk : Nat} {fl : HD.Fld} {s s' : HD.ES} {p p' : EP} {t : HD.Bs}
theorem dlt (h : EMid B w w1 d sk fl s p p' t) : d < w1.heap.size := h.enc.tab.row.lt
theorem nbuf (h : EMid B w w1 d sk fl s p p' t) {g : Nat} (hg : (p'.f 12).ownBlock = some g) : ¬ tabOwn d p'.ev p'.m1 p'.m2 g := by
  obtain ⟨c, fz, hk⟩ := Lib.ownsRow_kind h.buf g hg
  exact tab_not_u8 h.enc.tab hk
theorem d_ne (h : EMid B w w1 d sk fl s p p' t) : d ≠ w.heap.size := (h.own d (Or.inl (Or.inl rfl))).2.1
/-- Nothing that is the encoder's has changed. -/
theorem move (h : EMid B w w1 d sk fl s p p' t) (hb : Below w1.heap.size w1 w2) : EMid B w w2 d sk fl s p p' t :=
  ⟨h.enc.frame fun k hk => hb.block k (h.enc.tab.own_lt hk), ownsRow_of_heap h.buf fun g hg => hb.block g (h.buf.lt g hg).2, h.box.below hb, h.lo, h.upd.step ⟨hb.os, hb.tape, hb.output, hb.size, fun k hk _ => hb.block k hk⟩,
    fun k hk => ⟨(h.own k hk).1, (h.own k hk).2.1, Nat.lt_of_lt_of_le (h.own k hk).2.2 hb.size⟩, h.m⟩
theorem drew (h : EMid B w w1 d sk fl s p p' t) : EMid B w w1.drew d sk fl s p p' t := h.move ⟨rfl, rfl, rfl, Nat.le_refl _, fun _ _ => rfl⟩
/-- One of the encoder's cells behind the table is written. -/
theorem put (h : EMid B w w1 d sk fl s p p' t) (j : Nat) (v : Value) (hj : 7 ≤ j ∧ j ≠ 12) (he : s'.ents = s.ents) (hx : s'.max = s.max) (h8 : putF p'.f j v 8 = .int .u32 (s'.min : Nat)) (h9 : putF p'.f j v 9 = .int .u32 (s'.limit : Nat)) (h10 : putF p'.f j v 10 = .bool s'.upd) (h11 : putF p'.f j v 11 = p'.f 11) :
    EMid B w (w1.setCell ⟨d, j, none⟩ v) d sk fl s' p { p' with f := putF p'.f j v } t := by
  have hr := h.enc.tab.row.set j v
  have hf : ∀ i, i < 7 → putF p'.f j v i = p'.f i := fun i hi => by simp only [putF]; rw [if_neg (by omega)]
  have h12 : putF p'.f j v 12 = p'.f 12 := by simp only [putF]; rw [if_neg (fun e => hj.2 e.symm)]
  have hT := h.enc.tab.write (cnt' := p'.cnt) hr (fun i _ hi => other_set hi) ((hf 0 (by decide)).trans h.enc.tab.c0) ((hf 1 (by decide)).trans h.enc.tab.c1) ((hf 2 (by decide)).trans h.enc.tab.c2) ((hf 3 (by decide)).trans h.enc.tab.c3) ((hf 4 (by decide)).trans h.enc.tab.c4)
  have hpd : p.own d d := Or.inl (Or.inl rfl)
  refine ⟨⟨?_, ⟨?_, ?_⟩, h8, h9, h10, h11.trans h.enc.out, ?_⟩, ?_, ?_, h.lo, h.upd.setCell (Or.inl hpd) _, ?_, h.m⟩
  · rw [he]; exact hT
  · rw [he]; exact (hf 5 (by decide)).trans h.enc.sized.size
  · rw [hx]; exact (hf 6 (by decide)).trans h.enc.sized.max
  · rw [he]; exact h.enc.maps
  · show World.ownsRow _ _ _ _ (putF p'.f j v 12) _ _
    rw [h12]
    exact ownsRow_of_heap h.buf fun g hg => other_set (fun e => h.nbuf hg (Or.inl e.symm))
  · exact ⟨(cell_other h.d_ne).trans h.box.1, (cell_other h.d_ne).trans h.box.2.1, (cell_other h.d_ne).trans h.box.2.2⟩
  · intro k hk
    have hk' : p'.own d k := by
      rcases hk with hk | hk
      · exact Or.inl hk
      · exact Or.inr (by rw [← h12]; exact hk)
    rw [World.size_setCell]
    exact h.own k hk'
/-- The buffer has got more bytes. -/
theorem app (h : EMid B w w1 d sk fl s p p' t) {t2 : HD.Bs} {v2 : Value} (hown : w2.ownsRow B 5 1 v2 (t.length + t2.length) (Lib.byteCells t ++ Lib.byteCells t2)) (hg : Grew w1 w2 (p'.f 12) v2) :
    EMid B w (w2.setCell ⟨d, 12, none⟩ v2) d sk fl s p { p' with f := putF p'.f 12 v2 } (t ++ t2) := by
  have hkeep : ∀ k, k < w1.heap.size → (p'.f 12).ownBlock ≠ some k → w2.heap[k]? = w1.heap[k]? := fun k hk hn => hg.grown.block k hk (fun e => hn e.symm)
  have htab : ∀ k, tabOwn d p'.ev p'.m1 p'.m2 k → w2.heap[k]? = w1.heap[k]? := fun k hk => hkeep k (h.enc.tab.own_lt hk) (fun e => h.nbuf e hk)
  have hE := h.enc.frame htab
  have hr := hE.tab.row.set 12 v2
  have hf : ∀ i, i < 12 → putF p'.f 12 v2 i = p'.f i := fun i hi => by simp only [putF]; rw [if_neg (by omega)]
  have hT := hE.tab.write (cnt' := p'.cnt) hr (fun i _ hi => other_set hi) ((hf 0 (by decide)).trans h.enc.tab.c0) ((hf 1 (by decide)).trans h.enc.tab.c1) ((hf 2 (by decide)).trans h.enc.tab.c2) ((hf 3 (by decide)).trans h.enc.tab.c3) ((hf 4 (by decide)).trans h.enc.tab.c4)
  have hpd : p.own d d := Or.inl (Or.inl rfl)
  have h12 : putF p'.f 12 v2 12 = v2 := by simp [putF]
  have hv2 : ∀ g, v2.ownBlock = some g → g ≠ d := fun g hg2 e => by
    obtain ⟨c, fz, hk⟩ := Lib.ownsRow_kind hown g hg2
    exact tab_not_u8 hE.tab hk (Or.inl e)
  have hbuf : (w2.setCell ⟨d, 12, none⟩ v2).ownsRow B 5 1 v2 (t ++ t2).length (Lib.byteCells (t ++ t2)) := by
    rw [byteCells_app, List.length_append]
    exact ownsRow_of_heap hown fun g hg2 => other_set (fun e => hv2 g hg2 e.symm)
  have hu : Upd (fun k => p.own d k) w w2 := h.upd.trans (G := fun k => (p'.f 12).ownBlock = some k) ⟨hg.grown.os, hg.grown.tape, hg.grown.output, hg.grown.size, fun k hk hn => hkeep k hk hn⟩ (fun i hi e => by
    rcases (h.own i (Or.inr e)).1 with h1 | h1
    · exact h1
    · omega)
  have hbn : (p'.f 12).ownBlock ≠ some w.heap.size := fun e => (h.own _ (Or.inr e)).2.1 rfl
  have hbx := h.box.grew hg hbn
  refine ⟨⟨hT, ⟨(hf 5 (by decide)).trans h.enc.sized.size, (hf 6 (by decide)).trans h.enc.sized.max⟩, (hf 8 (by decide)).trans h.enc.min, (hf 9 (by decide)).trans h.enc.limit, (hf 10 (by decide)).trans h.enc.upd, (hf 11 (by decide)).trans h.enc.out, h.enc.maps⟩, ?_, ?_, h.lo, hu.setCell (Or.inl hpd) _, ?_, h.m⟩
  · show World.ownsRow _ _ _ _ (putF p'.f 12 v2 12) _ _
    rw [h12]; exact hbuf
  · exact ⟨(cell_other h.d_ne).trans hbx.1, (cell_other h.d_ne).trans hbx.2.1, (cell_other h.d_ne).trans hbx.2.2⟩
  · intro k hk
    rw [World.size_setCell]
    rcases hk with hk | hk
    · have := h.own k (Or.inl hk)
      exact ⟨this.1, this.2.1, Nat.lt_of_lt_of_le this.2.2 hg.grown.size⟩
    · have hk2 : v2.ownBlock = some k := by rw [← h12]; exact hk
      have hlt := (hown.lt k hk2).2
      rcases hg.at_ with e | ⟨g, e, hge⟩
      · have := h.own k (Or.inr (by rw [← e]; exact hk2))
        exact ⟨this.1, this.2.1, hlt⟩
      · rw [e] at hk2
        obtain rfl := Option.some.inj hk2
        have hb := World.block_lt_of_cell? w1 _ h.box.1
        have hb : w.heap.size < w1.heap.size := hb
        exact ⟨Or.inr (by omega), by omega, hlt⟩
end EMid
end Go.Proofs.YtjdmaflkafmmpaaDoor
/-
  The contract of the sink's Write at an empty sink, of bytes that the call owns.
-/
namespace Go.Proofs.YtjdmaflkafmmpaaDoor
open Go.ChangeShapes Go.WideShapes Go.ChangeAt Go.RowKit

def sinkO (v : Value) (k : Nat) : Obj := .cells #[v, .int .i64 (k : Nat)] 50 (0, 0)
set_option maxRecDepth 100000 in
theorem sinkW_any (B sk : Nat) (sa : Option Addr) (cap : Nat) (t : HD.Bs) (w : World) (hs : w.heap[sk]? = some (.cells #[.slice none 0 0, .int .i64 0] 50 (0, 0))) (hsrc : w.ownsRow B 5 1 (.slice sa t.length cap) t.length (Lib.byteCells t)) (hne : t ≠ []) (hn : t.length ≤ 2 ^ 40) :
    Calls Tryd.prog 104 #[.pointer (some ⟨sk, 0, none⟩), .slice sa t.length cap] w fun e w' => e = .returned (.tuple #[.int .i64 (t.length : Nat), .nilIface]) ∧ ∃ a c, w'.heap[sk]? = some (.cells #[.slice a t.length c, .int .i64 1] 50 (0, 0)) ∧
      w'.ownsRow w.heap.size 5 1 (.slice a t.length c) t.length (Lib.byteCells t) ∧ Upd (fun k => k = sk) w w' := by
  have c0 : w.cell? ⟨sk, 0, none⟩ = some (.slice none 0 0) := by rw [Lib.cell_of_heap hs]; rfl
  have c1 : w.cell? ⟨sk, 1, none⟩ = some (.int .i64 0) := by rw [Lib.cell_of_heap hs]; rfl
  have f0 := Lib.frozen_of_heap hs
  have hlt := Lib.lt_of_heap hs
  have Hs := Lib.hid hs
  have hpos : 0 < t.length := List.length_pos_iff.2 hne
  obtain ⟨g, rfl⟩ : ∃ g, sa = some ⟨g, 0, none⟩ := by
    rcases hsrc.2 with ⟨-, h0⟩ | ⟨g, cap', cur, e, -⟩
    · omega
    · injection e with e; exact ⟨g, e⟩
  have Hcells := Lib.hid (hsrc.cells (g := g) rfl)
  obtain ⟨i0, hi, hz0, hz1, hz2⟩ := info_parts infoU8
  clear hs hsrc hne
  go_enter Tryd.func104, Tryd.ntmps104
  go_wp2_with (at_builtin; go_must (refine wpList_append_own_at _ rfl _ _ 30 rfl w.heap.size 5 i0 (.int .u8 0) 1 1 Tryd.underlying30 hi hz0 hz1 hz2 rfl (by decide) (.slice none 0 0) 0 [] rfl (World.ownsRow_nil w _ _ _) ⟨g, 0, none⟩ t.length cap (Lib.byteCells t) rfl (by rw [Lib.byteCells_length, Nat.mul_one]) Hcells.out (Lib.byteCells_one _) (by unfold maxLen; omega) (by omega) (Nat.le_refl _) ?_); intro v1 w1 hown1 hgrow1 _ hat1; rw [Nat.zero_add, List.nil_append] at hown1; obtain ⟨sb, cb, rfl⟩ := own_form hown1; have hs1 := (hgrow1.block sk hlt (by simp [Value.ownBlock])).trans Hs.out; have d0 := Lib.cell_of_heap hs1 0; have d1 := Lib.cell_of_heap hs1 1; have g0 := Lib.frozen_of_heap hs1; have Hs1 := Lib.hid hs1; have Hown1 := Lib.hid hown1; have Hg1 := Lib.hid hgrow1; have Hat1 := Lib.hid hat1; clear hs1 hown1 hgrow1 hat1 c0 c1 f0; rw [show ((#[Value.slice none 0 0, .int .i64 0] : Array Value))[0]? = some (.slice none 0 0) from rfl] at d0; rw [show ((#[Value.slice none 0 0, .int .i64 0] : Array Value))[1]? = some (.int .i64 0) from rfl] at d1)
  go_ret2
  have hne : (Value.slice sb t.length cb).ownBlock ≠ some sk := fun e => by have := (Hown1.out.lt _ e).1; omega
  refine ⟨rfl, sb, cb, ?_, ownsRow_setCell_other (ownsRow_setCell_other Hown1.out (a := ⟨sk, 0, none⟩) hne _) (a := ⟨sk, 1, none⟩) hne _, ?_⟩
  · rw [Lib.heap_setCell_same (Lib.heap_setCell_same Hs1.out _) _]
    rfl
  · have hu : Upd (fun k => k = sk) w w1 := ⟨Hg1.out.os, Hg1.out.tape, Hg1.out.output, Hg1.out.size, fun k hk _ => Hg1.out.block k hk (by simp [Value.ownBlock])⟩
    exact (hu.setCell (a := ⟨sk, 0, none⟩) (Or.inl rfl) _).setCell (a := ⟨sk, 1, none⟩) (Or.inl rfl) _
end Go.Proofs.YtjdmaflkafmmpaaDoor
