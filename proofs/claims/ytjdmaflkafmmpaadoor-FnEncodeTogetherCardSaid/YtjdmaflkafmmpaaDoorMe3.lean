/-
  Texts of this seat, one behind the other: Evict, Evict2, TabOps, AppNil, EInt, EHead. What each one shows stands at its head. No condition.
-/
import Derived.Test.YtjdmaflkafmmpaaDoorMe2
import Derived.Maps.AppendAt
import Derived.Laws.AppendOwnNone
import Derived.Deep.DeepMust
import Derived.Laws.Bits64b
/-
  The contract of evictOldest.
-/
namespace Go.Proofs.YtjdmaflkafmmpaaDoor
open Go.ChangeShapes Go.WideShapes Go.ChangeAt Go.RowKit

/-- What is left of the two maps when entries go; the first one's number is id. -/
def delS : Nat → List (HD.Bs × HD.Bs) → List (HD.Bs × Nat) → List (HD.Bs × Nat)
  | _, [], l => l
  | id, e :: es, l => delS (id + 1) es (if (mget l e.1).getD 0 = id then mdel l e.1 else l)
def delP : Nat → List (HD.Bs × HD.Bs) → List ((HD.Bs × HD.Bs) × Nat) → List ((HD.Bs × HD.Bs) × Nat)
  | _, [], l => l
  | id, e :: es, l => delP (id + 1) es (if (mget l e).getD 0 = id then mdel l e else l)
theorem delS_snoc (e : HD.Bs × HD.Bs) : ∀ (es : List (HD.Bs × HD.Bs)) (id : Nat) (l : List (HD.Bs × Nat)), delS id (es ++ [e]) l = if (mget (delS id es l) e.1).getD 0 = id + es.length then mdel (delS id es l) e.1 else delS id es l
  | [], id, l => rfl
  | x :: es, id, l => by
    have h := delS_snoc e es (id + 1) (if (mget l x.1).getD 0 = id then mdel l x.1 else l)
    rw [show id + 1 + es.length = id + (x :: es).length by simp; omega] at h
    exact h
theorem delP_snoc (e : HD.Bs × HD.Bs) : ∀ (es : List (HD.Bs × HD.Bs)) (id : Nat) (l : List ((HD.Bs × HD.Bs) × Nat)), delP id (es ++ [e]) l = if (mget (delP id es l) e).getD 0 = id + es.length then mdel (delP id es l) e else delP id es l
  | [], id, l => rfl
  | x :: es, id, l => by
    have h := delP_snoc e es (id + 1) (if (mget l x).getD 0 = id then mdel l x else l)
    rw [show id + 1 + es.length = id + (x :: es).length by simp; omega] at h
    exact h

theorem run_copy_rows {P : Program} (w : World) (dT sT ty elem : TypeId) (g dLen dCap : Nat) (sp : Option Addr) (sLen sCap size : Nat) (cur : Array Value) (t : TypeId) (cs : List Value)
    (hu : P.underlying dT = some (.slice elem)) (hs : (P.info? elem).map (·.size) = some size)
    (hg : w.heap[g]? = some (.cells cur t (0, 0))) (hn : cs.length = Nat.min sLen dLen * size) (hsp : ∃ a, sp = some a ∧ ∀ j v, cs[j]? = some v → w.cell? (a.add j) = some v) (hfit : cs.length ≤ cur.size) (h1 : ∀ v ∈ cs, v.oneCell' = true) :
    (Builtin.copy_ #[dT, sT] ty #[.slice (some ⟨g, 0, none⟩) dLen dCap, .slice sp sLen sCap]).run P w =
      .ok (goInt (Nat.min sLen dLen)) (w.setRow g (cs ++ cur.toList.drop cs.length).toArray) := by
  obtain ⟨a, rfl, hsrc⟩ := hsp
  have hl := run_loadCells_list (P := P) w a cs hsrc
  have hst := run_storeCells_at P g 0 t cs 0 cur w hg (by simpa using hfit) h1
  cases hq : P.info? elem with
  | none => simp [hq] at hs
  | some i =>
    have hi : i.size = size := by simpa [hq] using hs
    rw [hn] at hl
    simp [Builtin.copy_, run_underlying hu, Builtin.lenOf, Builtin.firstCells, sizeOf, typeInfo, hq, hi, hl, hst]
theorem wpList_copy_rows {P : Program} {w : World} {ops : Array Oper} {rest : List Oper} {o : Oper} {a : Act} {Q : Exit → Act → World → Prop} (hgd : o.guard = none) (d s : Operand) (dT sT : TypeId)
    (ho : o.op = .call { callee := .builtin .copy, args := #[d, s], argTypes := #[dT, sT] }) (elem : TypeId) (g dLen dCap : Nat) (sp : Option Addr) (sLen sCap size : Nat) (hd : a.eval d = .slice (some ⟨g, 0, none⟩) dLen dCap) (hs : a.eval s = .slice sp sLen sCap)
    (hu : P.underlying dT = some (.slice elem)) (hz : (P.info? elem).map (·.size) = some size) (cur : Array Value) (t : TypeId) (cs : List Value)
    (hg : w.heap[g]? = some (.cells cur t (0, 0))) (hn : cs.length = Nat.min sLen dLen * size) (hsp : ∃ a, sp = some a ∧ ∀ j v, cs[j]? = some v → w.cell? (a.add j) = some v) (hfit : cs.length ≤ cur.size) (h1 : ∀ v ∈ cs, v.oneCell' = true)
    (h : ∀ w', w'.heap[g]? = some (.cells (cs ++ cur.toList.drop cs.length).toArray t (0, 0)) → w.grownBy w' (some g) → wpList P ops Q rest (a.put o.dst (goInt (Nat.min sLen dLen))) w') : wpList P ops Q (o :: rest) a w := by
  refine wpList_plain hgd fun K hK => ?_
  have hrun := run_copy_rows (P := P) w dT sT o.type elem g dLen dCap sp sLen sCap size cur t cs hu hz hg hn hsp hfit h1
  unfold Oper.wp
  simp [execOp, ho, resolve, invoke, builtin, hd, hs, hrun, Result.andThen]
  refine hK _ _ (h _ (setRow_heap w g cur _ t _ hg) ⟨rfl, rfl, rfl, by simp [World.setRow], fun k hk hne => ?_⟩)
  simp only [World.setRow, Array.getElem?_modify]
  rw [if_neg (fun e => hne (by rw [e]))]
theorem take_set_ge {l : List Value} {n i : Nat} (h : n ≤ i) (v : Value) : (l.set i v).take n = l.take n := by
  apply List.ext_getElem?
  intro j
  simp only [List.getElem?_take]
  by_cases hj : j < n
  · rw [if_pos hj, if_pos hj, List.getElem?_set_ne (by omega)]
  · rw [if_neg hj, if_neg hj]
theorem len_same (b k c : Nat) (a : Option Addr) (w : World) (h : w.cell? ⟨b, 1, none⟩ = some (.slice a k c)) :
    Calls Tryd.prog 56 #[.pointer (some ⟨b, 0, none⟩)] w fun e w' => e = .returned (.int .i64 (k : Nat)) ∧ w' = w := (len_any b k c a w h).mono fun _ _ ⟨h1, h2⟩ => ⟨h1, h2.symm⟩
theorem infoHF : (Tryd.prog.info? 57).map (·.size) = some 3 := by kernel_rfl
theorem eCells_one (l : List (HD.Bs × HD.Bs)) : ∀ v ∈ entCells l, v.oneCell' = true := by
  intro v hv
  simp only [entCells, List.mem_flatMap] at hv
  obtain ⟨e, -, he⟩ := hv
  simp [eCells] at he
  rcases he with rfl | rfl | rfl <;> rfl

/-- Behind an eviction: the table's fields. -/
def evF (f : Nat → Value) (ev : Value) (cnt : Nat) : Nat → Value := fun i => if i = 1 then ev else if i = 2 then .int .u64 (cnt : Nat) else f i

theorem evict_end {B g cap k : Nat} {wo wr : World} {b n : Nat} {f : Nat → Value} {ents : List (HD.Bs × HD.Bs)} {cnt m1 m2 : Nat} {l1 : List (HD.Bs × Nat)} {l2 : List ((HD.Bs × HD.Bs) × Nat)} {cur : Array Value}
    (HM : TabMem B wo b n f ents cnt (.slice (some ⟨g, 0, none⟩) ents.length cap) m1 m2 l1 l2) (hr : Row wr b n f) (hc : wr.heap[g]? = some (.cells cur 57 (0, 0))) (hs : cur.size = cap * 3)
    (ht : cur.toList.take ((ents.length - k) * 3) = entCells (ents.drop k)) (hu : Upd (fun i => i = g) wo wr) (hk : k ≤ ents.length) (hcap : ents.length ≤ cap) (hm : cap ≤ maxLen) (hB : B ≤ g) (hbg : b ≠ g)
    {v1 v2 : Value} (hv1 : v1 = .slice (some ⟨g, 0, none⟩) (ents.length - k) cap) (hv2 : v2 = .int .u64 ((cnt + k : Nat) : Int)) (q : Nat) :
    TabMem B (((wr.setCell ⟨b, 1, none⟩ v1).drewN q).setCell ⟨b, 2, none⟩ v2) b n (evF f v1 (cnt + k)) (ents.drop k) (cnt + k) v1 m1 m2 l1 l2 := by
  have hbig := HM.big
  have hgm1 : g ≠ m1 := fun e => HM.ev_m1 (by rw [← e]; rfl)
  have hgm2 : g ≠ m2 := fun e => HM.ev_m2 (by rw [← e]; rfl)
  have hother : ∀ i, b ≠ i → ((((wr.setCell ⟨b, 1, none⟩ v1).drewN q).setCell ⟨b, 2, none⟩ v2)).heap[i]? = wr.heap[i]? := fun i hi => by
    rw [Below.heap_setCell _ _ _ _ (fun e => hi e.symm)]
    show (wr.setCell ⟨b, 1, none⟩ v1).heap[i]? = _
    rw [Below.heap_setCell _ _ _ _ (fun e => hi e.symm)]
  have hrow : Row (((wr.setCell ⟨b, 1, none⟩ v1).drewN q).setCell ⟨b, 2, none⟩ v2) b n (evF f v1 (cnt + k)) := by
    have h1 : Row ((wr.setCell ⟨b, 1, none⟩ v1).drewN q) b n _ := (hr.set 1 v1).of_heap rfl
    refine (h1.set 2 v2).congr fun i _ => ?_
    unfold evF
    by_cases h2 : i = 2
    · subst h2; simp [hv2]
    · by_cases h1 : i = 1 <;> simp [h1, h2]
  refine ⟨hrow, hbig, by simp [evF, HM.c0], by simp [evF], by simp [evF], by simp [evF, HM.c3], by simp [evF, HM.c4], ?_, ?_, HM.mm, HM.lo, ?_, ?_⟩
  · refine ⟨by rw [entCells_len], Or.inr ⟨g, cap, cur, by rw [hv1, List.length_drop], hB, (hother g hbg).trans hc, by rw [List.length_drop]; omega, hm, hs, by rw [List.length_drop]; exact ht⟩⟩
  · rw [hv1]; intro e; exact hbg (Option.some.inj e).symm
  · exact HM.map1.of_heap ((hother m1 HM.b_m1).trans (hu.block m1 HM.map1.lt (fun e => hgm1 e.symm)))
  · exact HM.map2.of_heap ((hother m2 HM.b_m2).trans (hu.block m2 HM.map2.lt (fun e => hgm2 e.symm)))

set_option maxHeartbeats 4000000 in
set_option maxRecDepth 100000 in
theorem evictOldest_some (B g cap q : Nat) (w : World) (b n : Nat) (f : Nat → Value) (ents : List (HD.Bs × HD.Bs)) (cnt m1 m2 : Nat) (l1 : List (HD.Bs × Nat)) (l2 : List ((HD.Bs × HD.Bs) × Nat))
    (hT : TabMem B w b n f ents cnt (.slice (some ⟨g, 0, none⟩) ents.length cap) m1 m2 l1 l2) (hq : q ≤ ents.length) (hc : cnt + ents.length < 2 ^ 62) :
    Calls Tryd.prog 58 #[.pointer (some ⟨b, 0, none⟩), .int .i64 (q : Nat)] w fun e w' => e = .returned (.tuple #[]) ∧
      TabMem B w' b n (evF f (.slice (some ⟨g, 0, none⟩) (ents.length - q) cap) (cnt + q)) (ents.drop q) (cnt + q) (.slice (some ⟨g, 0, none⟩) (ents.length - q) cap) m1 m2 (delS (cnt + 1) (ents.take q) l1) (delP (cnt + 1) (ents.take q) l2) ∧
      Upd (tabOwn b (.slice (some ⟨g, 0, none⟩) ents.length cap) m1 m2) w w' := by
  have HT := Lib.hid hT
  have hc1 := hT.row.cell' (i := 1) (by have := hT.big; omega) hT.c1
  clear hT
  have hqI : decide (ents.length < q) = false := by simp; omega
  go_enter Tryd.func58, Tryd.ntmps58
  go_wp2_with fail
  refine (len_any b _ _ _ _ hc1).mono ?_
  rintro e w0 ⟨rfl, rfl⟩
  go_wp2_with fail
  go_loopw [4] (fun i wr => ∃ k : Nat, k ≤ q ∧ i = .int .i64 (k : Nat) ∧ TabMem B wr b n f ents cnt (.slice (some ⟨g, 0, none⟩) ents.length cap) m1 m2 (delS (cnt + 1) (ents.take k) l1) (delP (cnt + 1) (ents.take k) l2) ∧ Upd (tabOwn b (.slice (some ⟨g, 0, none⟩) ents.length cap) m1 m2) w wr) (fun i _ => q - (intOf i).toNat)
  case atStart => exact ⟨0, Nat.zero_le _, rfl, by simpa [delS, delP] using HT.out, Upd.refl _ _⟩
  case round =>
    obtain ⟨k, hk, rfl, hm, hu⟩ := hrel
    have HM := Lib.hid hm
    have HU := Lib.hid hu
    have c1 := hm.row.cell' (i := 1) (by have := hm.big; omega) hm.c1
    have c2 := hm.row.cell' (i := 2) (by have := hm.big; omega) hm.c2
    have c3 := hm.row.cell' (i := 3) (by have := hm.big; omega) hm.c3
    have c4 := hm.row.cell' (i := 4) (by have := hm.big; omega) hm.c4
    have hbl := hm.row.lt
    clear hm hu hc1 HT
    by_cases hlt : k < q
    · have hke : k < ents.length := by omega
      obtain ⟨x1, x2, x3⟩ := entCells_at ents k hke
      have hgr := (HM.out.own.cells (g := g) rfl)
      have e1 := hgr _ _ x1
      have e2 := hgr _ _ x2
      have e3 := hgr _ _ x3
      rw [Lib.addr_add, Nat.zero_add] at e1 e2 e3
      have hgl := World.block_lt_of_cell? wr _ e1
      obtain ⟨es, hes⟩ : ∃ es, es = ents[k] := ⟨_, rfl⟩
      rw [← hes] at e1 e2
      have Hes := Lib.hid hes
      clear hes x1 x2 x3 hgr
      have hS := delS_snoc es (ents.take k) (cnt + 1) l1
      have hP := delP_snoc es (ents.take k) (cnt + 1) l2
      rw [List.length_take, Nat.min_eq_left (by omega), Hes.out, ← List.take_succ_eq_append_getElem hke, ← Hes.out] at hS hP
      generalize delS (cnt + 1) (ents.take k) l1 = L1 at *
      generalize delP (cnt + 1) (ents.take k) l2 = L2 at *
      have HS := Lib.hid hS
      have HP := Lib.hid hP
      clear hS hP
      have HMW := Lib.hid (HM.out.alloc (.cells #[.string ⟨es.1.toArray⟩, .string ⟨es.2.toArray⟩, .bool false] 57))
      have HUW := Lib.hid (HU.out.alloc (.cells #[.string ⟨es.1.toArray⟩, .string ⟨es.2.toArray⟩, .bool false] 57))
      have look1 := fun q => look_name (HMW.out.drewN q).map1 es.1
      obtain ⟨x, hx⟩ : ∃ x, x = (mget L1 es.1).getD 0 := ⟨_, rfl⟩
      rw [← hx] at look1 HS
      have Hx := Lib.hid hx
      clear hx
      by_cases hxi : x = cnt + 1 + k
      · have hxI : ((x : Int) == (cnt : Int) + (k : Int) + 1) = true := by rw [beq_iff_eq]; omega
        rw [if_pos hxi] at HS
        have Hxi := Lib.hid hxi
        clear hxi
        go_wp2_with fail
        go_quiet (fail)
        go_wp2_with fail
        refine stillTail 6 (by kernel_rfl) (by kernel_rfl) ?_
        simp only [List.take_succ_cons, List.take_zero, List.drop_succ_cons, List.drop_zero]
        repeat (refine wpStill_step (fun K hK => ?_); go_simp; (refine hK _ ?_; clear hK K))
        refine wpStill_nil ?_
        refine wpList_mdel (key_string Tryd.underlying9) Tryd.underlying67 (b := m1) (l := L1) (by exact HMW.out.map1) es.1 9 rfl (.tmp 46) (.tmp 48) rfl rfl rfl ?_
        intro w1 hm1 hg1 hz1
        have HM1 := Lib.hid (TabMem.put1 HMW.out hm1 ⟨hg1.os, hg1.tape, hg1.output, hg1.size, hg1.block⟩); have HU1 := Lib.hid (Upd.step HUW.out ⟨hg1.os, hg1.tape, hg1.output, hg1.size, fun i hi hn => hg1.block i hi (fun e => hn (Or.inr (Or.inr (Or.inl (Option.some.inj e)))))⟩); have hbx := (hg1.block wr.heap.size (by show _ < (wr.alloc _).heap.size; simp) (fun e => by have := HM.out.map1.lt; have := Option.some.inj e; omega)).trans (heap_alloc_new wr (.cells #[.string ⟨es.1.toArray⟩, .string ⟨es.2.toArray⟩, .bool false] 57)); clear hm1 hg1 hz1
        clear HMW HUW
        have g1 := HM1.out.row.cell' (i := 1) (by have := HM1.out.big; omega) HM1.out.c1
        have g2 := HM1.out.row.cell' (i := 2) (by have := HM1.out.big; omega) HM1.out.c2
        have g3 := HM1.out.row.cell' (i := 3) (by have := HM1.out.big; omega) HM1.out.c3
        have g4 := HM1.out.row.cell' (i := 4) (by have := HM1.out.big; omega) HM1.out.c4
        have b0 := Lib.cell_of_heap hbx 0
        have b1 := Lib.cell_of_heap hbx 1
        have b2 := Lib.cell_of_heap hbx 2
        rw [show ((#[Value.string ⟨es.1.toArray⟩, .string ⟨es.2.toArray⟩, .bool false] : Array Value))[0]? = some (.string ⟨es.1.toArray⟩) from rfl] at b0
        rw [show ((#[Value.string ⟨es.1.toArray⟩, .string ⟨es.2.toArray⟩, .bool false] : Array Value))[1]? = some (.string ⟨es.2.toArray⟩) from rfl] at b1
        rw [show ((#[Value.string ⟨es.1.toArray⟩, .string ⟨es.2.toArray⟩, .bool false] : Array Value))[2]? = some (.bool false) from rfl] at b2
        have hbxl := Lib.lt_of_heap hbx
        have hbl1 := HM1.out.row.lt
        have HMV := Lib.hid (HM1.out.alloc (.cells #[.string ⟨es.1.toArray⟩, .string ⟨es.2.toArray⟩] 129))
        have HUV := Lib.hid (HU1.out.alloc (.cells #[.string ⟨es.1.toArray⟩, .string ⟨es.2.toArray⟩] 129))
        have look2 := fun q => look_pair (HMV.out.drewN q).map2 es
        obtain ⟨y, hy⟩ : ∃ y, y = (mget L2 es).getD 0 := ⟨_, rfl⟩
        rw [← hy] at look2 HP
        have Hy := Lib.hid hy
        clear hy hbx c1 c2 c3 c4 e1 e2 e3 look1 hxI hbl
        by_cases hyi : y = cnt + 1 + k
        · have hyI : ((y : Int) == (cnt : Int) + (k : Int) + 1) = true := by rw [beq_iff_eq]; omega
          rw [if_pos hyi] at HP
          have Hyi := Lib.hid hyi
          clear hyi
          go_wp2_with fail
          go_quiet (fail)
          go_wp2_with fail
          refine stillTail 5 (by kernel_rfl) (by kernel_rfl) ?_
          simp only [List.take_succ_cons, List.take_zero, List.drop_succ_cons, List.drop_zero]
          repeat (refine wpStill_step (fun K hK => ?_); go_simp; (refine hK _ ?_; clear hK K))
          refine wpStill_nil ?_
          refine wpList_mdel key_pair Tryd.underlying68 (b := m2) (l := L2) (by exact HMV.out.map2) es 129 rfl (.tmp 65) (.tmp 66) rfl rfl rfl ?_
          intro w5 hm5 hg5 hz5
          have HM5 := Lib.hid (TabMem.put2 HMV.out hm5 ⟨hg5.os, hg5.tape, hg5.output, hg5.size, hg5.block⟩)
          have HU5 := Lib.hid (Upd.step HUV.out ⟨hg5.os, hg5.tape, hg5.output, hg5.size, fun i hi hn => hg5.block i hi (fun e => hn (Or.inr (Or.inr (Or.inr (Option.some.inj e)))))⟩)
          clear hm5 hg5 hz5
          go_wp2_with fail
          exact ⟨⟨k + 1, hlt, by go_num, by rw [HS.out, HP.out]; exact HM5.out, HU5.out⟩, by simp [intOf]; omega⟩
        · have hyI : ((y : Int) == (cnt : Int) + (k : Int) + 1) = false := by rw [beq_eq_false_iff_ne]; omega
          rw [if_neg hyi] at HP
          have Hyi := Lib.hid hyi
          clear hyi
          go_wp2_with fail
          go_quiet (fail)
          go_wp2_with fail
          exact ⟨⟨k + 1, hlt, by go_num, by rw [HS.out, HP.out]; exact HMV.out.frame fun _ _ => rfl, HUV.out.step ⟨rfl, rfl, rfl, Nat.le_refl _, fun _ _ _ => rfl⟩⟩, by simp [intOf]; omega⟩
      · have hxI : ((x : Int) == (cnt : Int) + (k : Int) + 1) = false := by rw [beq_eq_false_iff_ne]; omega
        rw [if_neg hxi] at HS
        have Hxi := Lib.hid hxi
        clear hxi
        go_wp2_with fail
        go_quiet (fail)
        have HM1 := Lib.hid (HMW.out.drewN nq)
        have HU1 := Lib.hid (HUW.out.drewN nq)
        have hbx : ((wr.alloc (.cells #[.string ⟨es.1.toArray⟩, .string ⟨es.2.toArray⟩, .bool false] 57)).drewN nq).heap[wr.heap.size]? = _ := heap_alloc_new wr (.cells #[.string ⟨es.1.toArray⟩, .string ⟨es.2.toArray⟩, .bool false] 57)
        clear HMW HUW look1
        generalize (wr.alloc (.cells #[.string ⟨es.1.toArray⟩, .string ⟨es.2.toArray⟩, .bool false] 57)).drewN nq = w1 at *
        have g1 := HM1.out.row.cell' (i := 1) (by have := HM1.out.big; omega) HM1.out.c1
        have g2 := HM1.out.row.cell' (i := 2) (by have := HM1.out.big; omega) HM1.out.c2
        have g3 := HM1.out.row.cell' (i := 3) (by have := HM1.out.big; omega) HM1.out.c3
        have g4 := HM1.out.row.cell' (i := 4) (by have := HM1.out.big; omega) HM1.out.c4
        have b0 := Lib.cell_of_heap hbx 0
        have b1 := Lib.cell_of_heap hbx 1
        have b2 := Lib.cell_of_heap hbx 2
        rw [show ((#[Value.string ⟨es.1.toArray⟩, .string ⟨es.2.toArray⟩, .bool false] : Array Value))[0]? = some (.string ⟨es.1.toArray⟩) from rfl] at b0
        rw [show ((#[Value.string ⟨es.1.toArray⟩, .string ⟨es.2.toArray⟩, .bool false] : Array Value))[1]? = some (.string ⟨es.2.toArray⟩) from rfl] at b1
        rw [show ((#[Value.string ⟨es.1.toArray⟩, .string ⟨es.2.toArray⟩, .bool false] : Array Value))[2]? = some (.bool false) from rfl] at b2
        have hbxl := Lib.lt_of_heap hbx
        have hbl1 := HM1.out.row.lt
        have HMV := Lib.hid (HM1.out.alloc (.cells #[.string ⟨es.1.toArray⟩, .string ⟨es.2.toArray⟩] 129))
        have HUV := Lib.hid (HU1.out.alloc (.cells #[.string ⟨es.1.toArray⟩, .string ⟨es.2.toArray⟩] 129))
        have look2 := fun q => look_pair (HMV.out.drewN q).map2 es
        obtain ⟨y, hy⟩ : ∃ y, y = (mget L2 es).getD 0 := ⟨_, rfl⟩
        rw [← hy] at look2 HP
        have Hy := Lib.hid hy
        clear hy hbx c1 c2 c3 c4 e1 e2 e3 hxI hbl
        by_cases hyi : y = cnt + 1 + k
        · have hyI : ((y : Int) == (cnt : Int) + (k : Int) + 1) = true := by rw [beq_iff_eq]; omega
          rw [if_pos hyi] at HP
          have Hyi := Lib.hid hyi
          clear hyi
          go_wp2_with fail
          go_quiet (fail)
          go_wp2_with fail
          refine stillTail 5 (by kernel_rfl) (by kernel_rfl) ?_
          simp only [List.take_succ_cons, List.take_zero, List.drop_succ_cons, List.drop_zero]
          repeat (refine wpStill_step (fun K hK => ?_); go_simp; (refine hK _ ?_; clear hK K))
          refine wpStill_nil ?_
          refine wpList_mdel key_pair Tryd.underlying68 (b := m2) (l := L2) (by exact HMV.out.map2) es 129 rfl (.tmp 65) (.tmp 66) rfl rfl rfl ?_
          intro w5 hm5 hg5 hz5
          have HM5 := Lib.hid (TabMem.put2 HMV.out hm5 ⟨hg5.os, hg5.tape, hg5.output, hg5.size, hg5.block⟩)
          have HU5 := Lib.hid (Upd.step HUV.out ⟨hg5.os, hg5.tape, hg5.output, hg5.size, fun i hi hn => hg5.block i hi (fun e => hn (Or.inr (Or.inr (Or.inr (Option.some.inj e)))))⟩)
          clear hm5 hg5 hz5
          go_wp2_with fail
          exact ⟨⟨k + 1, hlt, by go_num, by rw [HS.out, HP.out]; exact HM5.out, HU5.out⟩, by simp [intOf]; omega⟩
        · have hyI : ((y : Int) == (cnt : Int) + (k : Int) + 1) = false := by rw [beq_eq_false_iff_ne]; omega
          rw [if_neg hyi] at HP
          have Hyi := Lib.hid hyi
          clear hyi
          go_wp2_with fail
          go_quiet (fail)
          go_wp2_with fail
          exact ⟨⟨k + 1, hlt, by go_num, by rw [HS.out, HP.out]; exact HMV.out.frame fun _ _ => rfl, HUV.out.step ⟨rfl, rfl, rfl, Nat.le_refl _, fun _ _ _ => rfl⟩⟩, by simp [intOf]; omega⟩
    · obtain rfl : k = q := by omega
      obtain ⟨wo, rfl⟩ : ∃ wo : World, wo = wr := ⟨_, rfl⟩
      have hdq := entCells_drop ents k
      obtain ⟨hol, hor⟩ := HM.out.own
      rcases hor with ⟨e, _⟩ | ⟨g', cap', cur, e, hBg, hgh, hnc, hcm, hcs, htk⟩
      · cases e
      · injection e with e1 e2 e3
        injection e1 with e1
        injection e1 with e1 _ _
        subst e1 e3
        have hgl := Lib.lt_of_heap hgh
        have htk2 : cur.toList.take (ents.length * 3) = entCells ents := htk
        have Hgh := Lib.hid hgh
        have hcm2 := hcm
        unfold maxLen at hcm2
        have hD : ((entCells ents).drop (k * 3)).length = (ents.length - k) * 3 := by rw [List.length_drop, entCells_len]; omega
        clear e2 hol htk hgh
        have hsrc : ∀ (j : Nat) v, ((entCells ents).drop (k * 3))[j]? = some v → wo.cell? ⟨g, k * 3 + j, none⟩ = some v := fun j v hj => by
          rw [Lib.cell_of_heap Hgh.out, ← Array.getElem?_toList]
          rw [List.getElem?_drop, ← htk2, List.getElem?_take] at hj
          split at hj
          · exact hj
          · cases hj
        have Hsrc := Lib.hid hsrc
        have Hdq := Lib.hid hdq
        have Htk := Lib.hid htk2
        clear hsrc hdq htk2
        by_cases hck : cap = k
        · have hle : ents.length = k := by omega
          have hck2 := hck.symm
          subst hck2
          have Hle := Lib.hid hle
          clear hck hle
          go_wp2_with fail
          refine stillTail 10 (by kernel_rfl) (by kernel_rfl) ?_
          simp only [List.take_succ_cons, List.take_zero, List.drop_succ_cons, List.drop_zero]
          repeat (refine wpStill_step (fun K hK => ?_); go_simp; (refine hK _ ?_; clear hK K))
          refine wpStill_nil ?_
          refine wpList_copy_rows rfl (.tmp 70) (.tmp 76) 65 65 rfl 57 g ents.length k (some ⟨g, 0, none⟩) 0 0 3 rfl rfl Tryd.underlying65 infoHF cur 57 ((entCells ents).drop (k * 3)) (by exact Hgh.out) ?_ ⟨_, rfl, fun j v hj => by rw [List.drop_eq_nil_of_le (by rw [entCells_len, Hle.out]; exact Nat.le_refl _)] at hj; cases hj⟩ ?_ ?_ ?_
          · rw [hD, Hle.out]; simp
          · rw [hD]; omega
          · intro v hv; exact eCells_one ents v (List.mem_of_mem_drop hv)
          intro w5 h5 hg5
          have hbg : b ≠ g := fun e => HM.out.ne (by rw [e]; rfl)
          have hr5 : Row w5 b n f := HM.out.row.of_heap (hg5.block b hbl (fun e => hbg (Option.some.inj e)))
          have hU5 : Upd (fun i => i = g) wo w5 := ⟨hg5.os, hg5.tape, hg5.output, hg5.size, fun i hi hn => hg5.block i hi (fun e => hn (Option.some.inj e))⟩
          have hw5 : w5.heap[g]? = some (.cells (entCells (ents.drop k) ++ cur.toList.drop ((ents.length - k) * 3)).toArray 57 (0, 0)) := by rw [hD, Hdq.out] at h5; exact h5
          have Hr5 := Lib.hid hr5
          have HU5 := Lib.hid hU5
          have H5 := Lib.hid hw5
          have hEl : (entCells (ents.drop k)).length = (ents.length - k) * 3 := by rw [entCells_len, List.length_drop]
          have d1 := hr5.cell' (i := 1) (by have := HM.out.big; omega) HM.out.c1
          clear h5 hg5 hr5 hU5 hw5 c1 c2 c3 c4 hbl hgl
          go_wp2_with fail
          refine (len_any b _ _ _ _ d1).mono ?_
          rintro e w0 ⟨rfl, rfl⟩
          go_wp2_with fail
          go_loopw [8] (fun i w2 => ∃ (k2 : Nat) (cur2 : Array Value), ents.length - k ≤ k2 ∧ k2 ≤ ents.length ∧ i = .int .i64 (k2 : Nat) ∧ Row w2 b n f ∧ w2.heap[g]? = some (.cells cur2 57 (0, 0)) ∧ cur2.size = k * 3 ∧ cur2.toList.take ((ents.length - k) * 3) = entCells (ents.drop k) ∧ Upd (fun i => i = g) wo w2) (fun i _ => ents.length - (intOf i).toNat)
          case atStart => exact ⟨ents.length - k, _, Nat.le_refl _, by omega, by go_num, Hr5.out, H5.out, by simp [hEl, hcs]; omega, by rw [← hEl]; simp, HU5.out⟩
          case round =>
            obtain ⟨k2, cur2, hk1, hk2, rfl, hr2, hc2, hs2, ht2, hu2⟩ := hrel
            have d1 := hr2.cell' (i := 1) (by have := HM.out.big; omega) HM.out.c1
            have Hr2 := Lib.hid hr2
            have Hc2 := Lib.hid hc2
            have Ht2 := Lib.hid ht2
            have Hu2 := Lib.hid hu2
            clear hr2 hc2 ht2 hu2 Hr5 H5 HU5
            go_wp2_with fail
            refine (len_any b _ _ _ _ d1).mono ?_
            rintro e w0 ⟨rfl, rfl⟩
            by_cases hl2 : k2 < ents.length
            · obtain ⟨x0, hx0⟩ : ∃ v, wr.cell? ⟨g, k2 * 3, none⟩ = some v := ⟨_, by rw [Lib.cell_of_heap Hc2.out]; exact Array.getElem?_eq_getElem (by omega)⟩
              obtain ⟨x1, hx1⟩ : ∃ v, wr.cell? ⟨g, k2 * 3 + 1, none⟩ = some v := ⟨_, by rw [Lib.cell_of_heap Hc2.out]; exact Array.getElem?_eq_getElem (by omega)⟩
              obtain ⟨x2, hx2⟩ : ∃ v, wr.cell? ⟨g, k2 * 3 + 2, none⟩ = some v := ⟨_, by rw [Lib.cell_of_heap Hc2.out]; exact Array.getElem?_eq_getElem (by omega)⟩
              have fz := Lib.frozen_of_heap Hc2.out
              go_wp2_with fail
              refine ⟨⟨k2 + 1, _, by omega, by omega, by go_num, ((Hr2.out.setOther hbg _).setOther hbg _).setOther hbg _, Lib.heap_setCell_same (Lib.heap_setCell_same (Lib.heap_setCell_same Hc2.out _) _) _, by simp [hs2], ?_, ((Hu2.out.setCell (Or.inl rfl) _).setCell (Or.inl rfl) _).setCell (Or.inl rfl) _⟩, by simp [intOf]; omega⟩
              rw [Array.toList_setIfInBounds, Array.toList_setIfInBounds, Array.toList_setIfInBounds, take_set_ge (by omega), take_set_ge (by omega), take_set_ge (by omega)]
              exact Ht2.out
            · obtain rfl : k2 = ents.length := by omega
              have d2 := Hr2.out.cell' (i := 2) (by have := HM.out.big; omega) HM.out.c2
              have fz := fun i => Hr2.out.unfrozen i none
              obtain ⟨r, hr⟩ : ∃ r, r = ents.length - k := ⟨_, rfl⟩
              have hsub : IntKind.i64.wrap ((ents.length : Int) - (k : Int)) = (r : Int) := by rw [IntWalk.i64_in _ (by omega)]; omega
              have hrc : r ≤ k := by omega
              have Hr := Lib.hid hr
              clear hr
              go_wp2_with fail
              refine stillTail 10 (by kernel_rfl) (by kernel_rfl) ?_
              simp only [List.take_succ_cons, List.take_zero, List.drop_succ_cons, List.drop_zero]
              repeat (refine wpStill_step (fun K hK => ?_); go_simp; (first | (refine hK _ ?_; clear hK K) | (refine ⟨_, (len_same b _ _ _ _ (by exact d1)), hK _ ?_⟩; clear hK K)))
              refine wpStill_nil ?_
              go_wp2_with fail
              have hadd : IntKind.u64.wrap ((cnt : Int) + (k : Int)) = (cnt : Int) + (k : Int) := by simp only [IntKind.wrap, IntKind.bits, IntKind.signed]; simp; omega
              go_quiet (fail)
              go_wp2_with fail
              go_end0
              have er := Hr.out
              subst er
              have hu3 : Upd (tabOwn b (.slice (some ⟨g, 0, none⟩) ents.length k) m1 m2) w wr := HU.out.step (Hu2.out.mono fun i hi => Or.inr (Or.inl (by rw [hi]; rfl)))
              exact ⟨rfl, evict_end HM.out Hr2.out Hc2.out hs2 Ht2.out Hu2.out hq hnc hcm hBg hbg rfl (by simp) _, ((hu3.setCell (Or.inl (Or.inl rfl)) _).drewN _).setCell (Or.inl (Or.inl rfl)) _⟩
        · go_wp2_with fail
          refine stillTail 10 (by kernel_rfl) (by kernel_rfl) ?_
          simp only [List.take_succ_cons, List.take_zero, List.drop_succ_cons, List.drop_zero]
          repeat (refine wpStill_step (fun K hK => ?_); go_simp; (refine hK _ ?_; clear hK K))
          refine wpStill_nil ?_
          refine wpList_copy_rows rfl (.tmp 70) (.tmp 76) 65 65 rfl 57 g ents.length cap (some ⟨g, k * 3, none⟩) (ents.length - k) (cap - k) 3 rfl rfl Tryd.underlying65 infoHF cur 57 ((entCells ents).drop (k * 3)) (by exact Hgh.out) ?_ ⟨_, rfl, fun j v hj => by rw [Lib.addr_add]; exact Hsrc.out j v hj⟩ ?_ ?_ ?_
          · rw [hD]; congr 1; exact (Nat.min_eq_left (by omega)).symm
          · rw [hD]; omega
          · intro v hv; exact eCells_one ents v (List.mem_of_mem_drop hv)
          intro w5 h5 hg5
          have hbg : b ≠ g := fun e => HM.out.ne (by rw [e]; rfl)
          have hr5 : Row w5 b n f := HM.out.row.of_heap (hg5.block b hbl (fun e => hbg (Option.some.inj e)))
          have hU5 : Upd (fun i => i = g) wo w5 := ⟨hg5.os, hg5.tape, hg5.output, hg5.size, fun i hi hn => hg5.block i hi (fun e => hn (Option.some.inj e))⟩
          have hw5 : w5.heap[g]? = some (.cells (entCells (ents.drop k) ++ cur.toList.drop ((ents.length - k) * 3)).toArray 57 (0, 0)) := by rw [hD, Hdq.out] at h5; exact h5
          have Hr5 := Lib.hid hr5
          have HU5 := Lib.hid hU5
          have H5 := Lib.hid hw5
          have hEl : (entCells (ents.drop k)).length = (ents.length - k) * 3 := by rw [entCells_len, List.length_drop]
          have d1 := hr5.cell' (i := 1) (by have := HM.out.big; omega) HM.out.c1
          clear h5 hg5 hr5 hU5 hw5 c1 c2 c3 c4 hbl hgl
          go_wp2_with fail
          refine (len_any b _ _ _ _ d1).mono ?_
          rintro e w0 ⟨rfl, rfl⟩
          go_wp2_with fail
          go_loopw [8] (fun i w2 => ∃ (k2 : Nat) (cur2 : Array Value), ents.length - k ≤ k2 ∧ k2 ≤ ents.length ∧ i = .int .i64 (k2 : Nat) ∧ Row w2 b n f ∧ w2.heap[g]? = some (.cells cur2 57 (0, 0)) ∧ cur2.size = cap * 3 ∧ cur2.toList.take ((ents.length - k) * 3) = entCells (ents.drop k) ∧ Upd (fun i => i = g) wo w2) (fun i _ => ents.length - (intOf i).toNat)
          case atStart => exact ⟨ents.length - k, _, Nat.le_refl _, by omega, by go_num, Hr5.out, H5.out, by simp [hEl, hcs]; omega, by rw [← hEl]; simp, HU5.out⟩
          case round =>
            obtain ⟨k2, cur2, hk1, hk2, rfl, hr2, hc2, hs2, ht2, hu2⟩ := hrel
            have d1 := hr2.cell' (i := 1) (by have := HM.out.big; omega) HM.out.c1
            have Hr2 := Lib.hid hr2
            have Hc2 := Lib.hid hc2
            have Ht2 := Lib.hid ht2
            have Hu2 := Lib.hid hu2
            clear hr2 hc2 ht2 hu2 Hr5 H5 HU5
            go_wp2_with fail
            refine (len_any b _ _ _ _ d1).mono ?_
            rintro e w0 ⟨rfl, rfl⟩
            by_cases hl2 : k2 < ents.length
            · obtain ⟨x0, hx0⟩ : ∃ v, wr.cell? ⟨g, k2 * 3, none⟩ = some v := ⟨_, by rw [Lib.cell_of_heap Hc2.out]; exact Array.getElem?_eq_getElem (by omega)⟩
              obtain ⟨x1, hx1⟩ : ∃ v, wr.cell? ⟨g, k2 * 3 + 1, none⟩ = some v := ⟨_, by rw [Lib.cell_of_heap Hc2.out]; exact Array.getElem?_eq_getElem (by omega)⟩
              obtain ⟨x2, hx2⟩ : ∃ v, wr.cell? ⟨g, k2 * 3 + 2, none⟩ = some v := ⟨_, by rw [Lib.cell_of_heap Hc2.out]; exact Array.getElem?_eq_getElem (by omega)⟩
              have fz := Lib.frozen_of_heap Hc2.out
              go_wp2_with fail
              refine ⟨⟨k2 + 1, _, by omega, by omega, by go_num, ((Hr2.out.setOther hbg _).setOther hbg _).setOther hbg _, Lib.heap_setCell_same (Lib.heap_setCell_same (Lib.heap_setCell_same Hc2.out _) _) _, by simp [hs2], ?_, ((Hu2.out.setCell (Or.inl rfl) _).setCell (Or.inl rfl) _).setCell (Or.inl rfl) _⟩, by simp [intOf]; omega⟩
              rw [Array.toList_setIfInBounds, Array.toList_setIfInBounds, Array.toList_setIfInBounds, take_set_ge (by omega), take_set_ge (by omega), take_set_ge (by omega)]
              exact Ht2.out
            · obtain rfl : k2 = ents.length := by omega
              have d2 := Hr2.out.cell' (i := 2) (by have := HM.out.big; omega) HM.out.c2
              have fz := fun i => Hr2.out.unfrozen i none
              obtain ⟨r, hr⟩ : ∃ r, r = ents.length - k := ⟨_, rfl⟩
              have hsub : IntKind.i64.wrap ((ents.length : Int) - (k : Int)) = (r : Int) := by rw [IntWalk.i64_in _ (by omega)]; omega
              have hrc : r ≤ cap := by omega
              have Hr := Lib.hid hr
              clear hr
              go_wp2_with fail
              refine stillTail 10 (by kernel_rfl) (by kernel_rfl) ?_
              simp only [List.take_succ_cons, List.take_zero, List.drop_succ_cons, List.drop_zero]
              repeat (refine wpStill_step (fun K hK => ?_); go_simp; (first | (refine hK _ ?_; clear hK K) | (refine ⟨_, (len_same b _ _ _ _ (by exact d1)), hK _ ?_⟩; clear hK K)))
              refine wpStill_nil ?_
              go_wp2_with fail
              have hadd : IntKind.u64.wrap ((cnt : Int) + (k : Int)) = (cnt : Int) + (k : Int) := by simp only [IntKind.wrap, IntKind.bits, IntKind.signed]; simp; omega
              go_quiet (fail)
              go_wp2_with fail
              go_end0
              have er := Hr.out
              subst er
              have hu3 : Upd (tabOwn b (.slice (some ⟨g, 0, none⟩) ents.length cap) m1 m2) w wr := HU.out.step (Hu2.out.mono fun i hi => Or.inr (Or.inl (by rw [hi]; rfl)))
              exact ⟨rfl, evict_end HM.out Hr2.out Hc2.out hs2 Ht2.out Hu2.out hq hnc hcm hBg hbg rfl (by simp) _, ((hu3.setCell (Or.inl (Or.inl rfl)) _).drewN _).setCell (Or.inl (Or.inl rfl)) _⟩
end Go.Proofs.YtjdmaflkafmmpaaDoor
/-
  The contract of evictOldest at a table without memory of its own, and at any table.
-/
namespace Go.Proofs.YtjdmaflkafmmpaaDoor
open Go.ChangeShapes Go.WideShapes Go.ChangeAt Go.RowKit

/-- Fields of the table's struct are written, its entries and maps are as they were. -/
theorem TabMem.write {B : Nat} {w w' : World} {b n : Nat} {f f' : Nat → Value} {ents : List (HD.Bs × HD.Bs)} {cnt cnt' : Nat} {ev : Value} {m1 m2 : Nat} {l1 : List (HD.Bs × Nat)} {l2 : List ((HD.Bs × HD.Bs) × Nat)}
    (h : TabMem B w b n f ents cnt ev m1 m2 l1 l2) (hr : Row w' b n f') (ho : ∀ i, i < w.heap.size → b ≠ i → w'.heap[i]? = w.heap[i]?) (h0 : f' 0 = .bool false) (h1 : f' 1 = ev) (h2 : f' 2 = .int .u64 (cnt' : Nat)) (h3 : f' 3 = .map (some m1)) (h4 : f' 4 = .map (some m2)) :
    TabMem B w' b n f' ents cnt' ev m1 m2 l1 l2 :=
  ⟨hr, h.big, h0, h1, h2, h3, h4, ownsRow_of_heap h.own fun g hg => ho g (h.own.lt g hg).2 (fun e => h.ne (by rw [hg, e])), h.ne, h.mm, h.lo, h.map1.of_heap (ho m1 h.map1.lt h.b_m1), h.map2.of_heap (ho m2 h.map2.lt h.b_m2)⟩
theorem other_set {w : World} {b i j : Nat} {v : Value} (h : b ≠ i) : (w.setCell ⟨b, j, none⟩ v).heap[i]? = w.heap[i]? := Below.heap_setCell _ _ _ _ (fun e => h e.symm)

theorem copy_none (w : World) (ty : TypeId) : (Builtin.copy_ #[65, 65] ty #[.slice none 0 0, .slice none 0 0]).run Tryd.prog w = .ok (goInt 0) w := by
  cases hq : Tryd.prog.info? 57 with
  | none => have := infoHF; simp [hq] at this
  | some i => simp [Builtin.copy_, run_underlying Tryd.underlying65, Builtin.lenOf, Builtin.firstCells, sizeOf, typeInfo, hq]

set_option maxHeartbeats 1000000 in
set_option maxRecDepth 100000 in
theorem evictOldest_nil (B : Nat) (w : World) (b n : Nat) (f : Nat → Value) (cnt m1 m2 : Nat) (l1 : List (HD.Bs × Nat)) (l2 : List ((HD.Bs × HD.Bs) × Nat))
    (hT : TabMem B w b n f [] cnt (.slice none 0 0) m1 m2 l1 l2) (hc : cnt < 2 ^ 62) :
    Calls Tryd.prog 58 #[.pointer (some ⟨b, 0, none⟩), .int .i64 0] w fun e w' => e = .returned (.tuple #[]) ∧
      TabMem B w' b n (evF f (.slice none 0 0) cnt) [] cnt (.slice none 0 0) m1 m2 l1 l2 ∧ Upd (tabOwn b (.slice none 0 0) m1 m2) w w' := by
  have HT := Lib.hid hT
  have c1 := hT.row.cell' (i := 1) (by have := hT.big; omega) hT.c1
  have c2 := hT.row.cell' (i := 2) (by have := hT.big; omega) hT.c2
  have fz := fun i => hT.row.unfrozen i none
  have hbl := hT.row.lt
  clear hT
  go_enter Tryd.func58, Tryd.ntmps58
  go_wp2_with fail
  refine (len_any b _ _ _ _ c1).mono ?_
  rintro e w0 ⟨rfl, rfl⟩
  go_wp2_with fail
  go_loop [4] (fun i => i = .int .i64 0) (fun _ => 0)
  case atStart => rfl
  case round =>
    obtain rfl := hrel
    have hcp := copy_none
    have hsl : ∀ w, (Instr.sliceAt 65 (.slice none 0 0) none (some (.int .i64 0)) none).run Tryd.prog w = .ok (.slice none 0 0) w := fun _ => by kernel_rfl
    have hsl2 : ∀ w, (Instr.slice 65 (.slice none 0 0) none (some (.int .i64 0)) none).run Tryd.prog w = .ok (.slice none 0 0) w := fun _ => by kernel_rfl
    have hs0 : IntKind.i64.wrap 0 = 0 := rfl
    go_wp2_with fail
    refine stillTail 10 (by kernel_rfl) (by kernel_rfl) ?_
    simp only [List.take_succ_cons, List.take_zero, List.drop_succ_cons, List.drop_zero]
    repeat (refine wpStill_step (fun K hK => ?_); go_simp; (refine hK _ ?_; clear hK K))
    refine wpStill_nil ?_
    go_wp2_with fail
    refine (len_any b 0 0 none _ (by exact c1)).mono ?_
    rintro e w0 ⟨rfl, rfl⟩
    go_wp2_with fail
    go_loop [8] (fun i => i = .int .i64 0) (fun _ => 0)
    case atStart => rfl
    case round =>
      obtain rfl := hrel
      go_wp2_with fail
      refine (len_any b 0 0 none _ (by exact c1)).mono ?_
      rintro e w0 ⟨rfl, rfl⟩
      go_wp2_with fail
      refine stillTail 10 (by kernel_rfl) (by kernel_rfl) ?_
      simp only [List.take_succ_cons, List.take_zero, List.drop_succ_cons, List.drop_zero]
      repeat (refine wpStill_step (fun K hK => ?_); go_simp; (first | (refine hK _ ?_; clear hK K) | (refine ⟨_, (len_same b 0 0 none _ (by exact c1)), hK _ ?_⟩; clear hK K)))
      refine wpStill_nil ?_
      go_wp2_with fail
      go_quiet (fail)
      go_wp2_with fail
      go_end0
      have hrow : Row (((w.setCell ⟨b, 1, none⟩ (.slice none 0 0)).drewN (1 + (1 + nq))).setCell ⟨b, 2, none⟩ (.int .u64 (cnt : Nat))) b n (evF f (.slice none 0 0) cnt) := by
        have h1 : Row ((w.setCell ⟨b, 1, none⟩ (.slice none 0 0)).drewN (1 + (1 + nq))) b n _ := (HT.out.row.set 1 _).of_heap rfl
        refine (h1.set 2 _).congr fun i _ => ?_
        unfold evF
        by_cases h2 : i = 2
        · subst h2; simp
        · by_cases h1 : i = 1 <;> simp [h1, h2]
      exact ⟨rfl, HT.out.write hrow (fun i _ hi => (other_set hi).trans (other_set (w := w) hi)) (by simp [evF, HT.out.c0]) (by simp [evF]) (by simp [evF]) (by simp [evF, HT.out.c3]) (by simp [evF, HT.out.c4]),
        (((Upd.refl _ w).setCell (Or.inl (Or.inl rfl)) _).drewN _).setCell (Or.inl (Or.inl rfl)) _⟩

theorem evictOldest_any (B q : Nat) (w : World) (b n : Nat) (f : Nat → Value) (ents : List (HD.Bs × HD.Bs)) (cnt : Nat) (ev : Value) (m1 m2 : Nat) (l1 : List (HD.Bs × Nat)) (l2 : List ((HD.Bs × HD.Bs) × Nat))
    (hT : TabMem B w b n f ents cnt ev m1 m2 l1 l2) (hq : q ≤ ents.length) (hc : cnt + ents.length < 2 ^ 62) :
    Calls Tryd.prog 58 #[.pointer (some ⟨b, 0, none⟩), .int .i64 (q : Nat)] w fun e w' => e = .returned (.tuple #[]) ∧
      ∃ ev', ev'.ownBlock = ev.ownBlock ∧ TabMem B w' b n (evF f ev' (cnt + q)) (ents.drop q) (cnt + q) ev' m1 m2 (delS (cnt + 1) (ents.take q) l1) (delP (cnt + 1) (ents.take q) l2) ∧ Upd (tabOwn b ev m1 m2) w w' := by
  obtain ⟨hol, hor⟩ := hT.own
  rcases hor with ⟨rfl, h0⟩ | ⟨g, cap, cur, rfl, -⟩
  · obtain rfl : ents = [] := List.eq_nil_of_length_eq_zero h0
    obtain rfl : q = 0 := by simpa using hq
    refine (evictOldest_nil B w b n f cnt m1 m2 l1 l2 hT (by simpa using hc)).mono ?_
    rintro e w' ⟨rfl, h1, h2⟩
    exact ⟨rfl, _, rfl, h1, h2⟩
  · refine (evictOldest_some B g cap q w b n f ents cnt m1 m2 l1 l2 hT hq hc).mono ?_
    rintro e w' ⟨rfl, h1, h2⟩
    exact ⟨rfl, .slice (some ⟨g, 0, none⟩) (ents.length - q) cap, rfl, h1, h2⟩
end Go.Proofs.YtjdmaflkafmmpaaDoor
/-
  Contracts of evict, addEntry, add and setMaxSize.
-/
namespace Go.Proofs.YtjdmaflkafmmpaaDoor
open Go.ChangeShapes Go.WideShapes Go.ChangeAt Go.RowKit

/-- The table's bounds: how much its entries take, how much it may have. -/
structure Sized (f : Nat → Value) (ents : List (HD.Bs × HD.Bs)) (max : Nat) : Prop where
  size : f 5 = .int .u32 (HD.tsize ents : Nat)
  max : f 6 = .int .u32 (max : Nat)
def putF (f : Nat → Value) (i : Nat) (v : Value) : Nat → Value := fun j => if j = i then v else f j

theorem own_form {w : World} {B e size n : Nat} {v : Value} {xs : List Value} (h : w.ownsRow B e size v n xs) : ∃ a cap, v = .slice a n cap := by
  rcases h.2 with ⟨rfl, rfl⟩ | ⟨g, cap, cur, rfl, _⟩
  · exact ⟨none, 0, rfl⟩
  · exact ⟨_, cap, rfl⟩
theorem tsize_drop (l : List (HD.Bs × HD.Bs)) (k : Nat) (h : k < l.length) : HD.tsize (l.drop k) = HD.esize l[k] + HD.tsize (l.drop (k + 1)) := by
  rw [List.drop_eq_getElem_cons h, HD.tsize_cons]
theorem evict_step (m : Nat) (l : List (HD.Bs × HD.Bs)) (k : Nat) (h : k < l.length) (hm : m < HD.tsize (l.drop k)) : HD.evict m (l.drop k) = HD.evict m (l.drop (k + 1)) := by
  rw [List.drop_eq_getElem_cons h] at hm ⊢
  rw [HD.evict, if_pos hm]
theorem evict_stop (m : Nat) (l : List (HD.Bs × HD.Bs)) (hm : ¬ m < HD.tsize l) : HD.evict m l = l := by
  cases l with
  | nil => rfl
  | cons e l => rw [HD.evict, if_neg hm]

theorem cell_in {w : World} {b i j : Nat} {v : Value} (h : i ≠ j) : (w.setCell ⟨b, j, none⟩ v).cell? ⟨b, i, none⟩ = w.cell? ⟨b, i, none⟩ := World.cell?_setCell_other _ _ _ _ (fun e => h (congrArg Addr.off e).symm)

set_option maxHeartbeats 4000000 in
set_option maxRecDepth 100000 in
theorem evict_any (B : Nat) (w : World) (b n : Nat) (f : Nat → Value) (ents : List (HD.Bs × HD.Bs)) (cnt max : Nat) (ev : Value) (m1 m2 : Nat) (l1 : List (HD.Bs × Nat)) (l2 : List ((HD.Bs × HD.Bs) × Nat))
    (hT : TabMem B w b n f ents cnt ev m1 m2 l1 l2) (hS : Sized f ents max) (hc : cnt + ents.length < 2 ^ 62) (hmax : max < 2 ^ 32) (hts : HD.tsize ents < 2 ^ 32) :
    Calls Tryd.prog 40 #[.pointer (some ⟨b, 0, none⟩)] w fun e w' => e = .returned (.tuple #[]) ∧
      ∃ (q : Nat) (ev' : Value) (f' : Nat → Value), q ≤ ents.length ∧ HD.evict max ents = ents.drop q ∧ ev'.ownBlock = ev.ownBlock ∧ (∀ i, 6 ≤ i → f' i = f i) ∧ Sized f' (HD.evict max ents) max ∧
        TabMem B w' b n f' (HD.evict max ents) (cnt + q) ev' m1 m2 (delS (cnt + 1) (ents.take q) l1) (delP (cnt + 1) (ents.take q) l2) ∧ Upd (tabOwn b ev m1 m2) w w' := by
  have HT := Lib.hid hT
  have HS := Lib.hid hS
  have hbig := hT.big
  obtain ⟨a, cap, hev⟩ := own_form hT.own
  have hown := hT.own
  have Hown := Lib.hid hown
  clear hT hS hown
  go_enter Tryd.func40, Tryd.ntmps40
  go_wp2_with fail
  go_loopw [2] (fun i wr => ∃ k : Nat, k ≤ ents.length ∧ i = .int .i64 (k : Nat) ∧ Row wr b n (putF f 5 (.int .u32 (HD.tsize (ents.drop k) : Nat))) ∧ Upd (fun i => i = b) w wr ∧ HD.evict max ents = HD.evict max (ents.drop k)) (fun i _ => ents.length - (intOf i).toNat)
  case atStart => exact ⟨0, Nat.zero_le _, rfl, HT.out.row.congr fun i _ => by unfold putF; split <;> simp_all [HS.out.size], Upd.refl _ _, rfl⟩
  case round =>
    obtain ⟨k, hk, rfl, hr, hu, he⟩ := hrel
    have hTr : TabMem B wr b n (putF f 5 (.int .u32 (HD.tsize (ents.drop k) : Nat))) ents cnt ev m1 m2 l1 l2 :=
      HT.out.write hr (fun i hi hn => hu.block i hi (fun e => hn e.symm)) (by simp [putF, HT.out.c0]) (by simp [putF, HT.out.c1]) (by simp [putF, HT.out.c2]) (by simp [putF, HT.out.c3]) (by simp [putF, HT.out.c4])
    have c1 := hr.cell' (i := 1) (v := .slice a ents.length cap) (by omega) (by simp [putF, HT.out.c1, hev])
    have c5 := hr.cell' (i := 5) (v := .int .u32 (HD.tsize (ents.drop k) : Nat)) (by omega) (by simp [putF])
    have c6 := hr.cell' (i := 6) (v := .int .u32 (max : Nat)) (by omega) (by simp [putF, HS.out.max])
    have fz := fun i => hr.unfrozen i none
    have hbl := hr.lt
    have Hr := Lib.hid hr
    have Hu := Lib.hid hu
    have He := Lib.hid he
    have HTr := Lib.hid hTr
    have hle : HD.tsize (ents.drop k) ≤ HD.tsize ents := by
      have := HD.tsize_append (ents.take k) (ents.drop k)
      rw [List.take_append_drop] at this
      omega
    clear hr hu he hTr
    by_cases hgt : max < HD.tsize (ents.drop k)
    · have hke : k < ents.length := by
        rcases Nat.lt_or_ge k ents.length with h | h
        · exact h
        · rw [List.drop_eq_nil_of_le h] at hgt; simp [HD.tsize] at hgt
      have hst := evict_step max ents k hke hgt
      have htd := tsize_drop ents k hke
      obtain ⟨es, hes⟩ : ∃ es, es = ents[k] := ⟨_, rfl⟩
      rw [← hes] at htd
      obtain ⟨s, hs⟩ : ∃ s, s = HD.tsize (ents.drop k) := ⟨_, rfl⟩
      rw [← hs] at htd hgt hle c5
      obtain ⟨s2, hs2⟩ : ∃ s2, s2 = HD.tsize (ents.drop (k + 1)) := ⟨_, rfl⟩
      rw [← hs2] at htd
      have Hes := Lib.hid hes
      have Hs := Lib.hid hs
      have Hs2 := Lib.hid hs2
      have Hst := Lib.hid hst
      obtain ⟨z, hz⟩ : ∃ z, es.1.length + es.2.length + 32 = z := ⟨_, rfl⟩
      have hzs : z + s2 = s := by unfold HD.esize at htd; omega
      have hzl : z < 4294967296 := by omega
      have hsl : s < 4294967296 := by omega
      have hzle : (z : Int) ≤ (s : Int) := by omega
      have Hz := Lib.hid hz
      have Hzs := Lib.hid hzs
      obtain ⟨g, rfl⟩ : ∃ g, a = some ⟨g, 0, none⟩ := by
        rcases HTr.out.own.2 with ⟨e, h0⟩ | ⟨g, cap', cur, e, -⟩
        · omega
        · rw [hev] at e; injection e with e1; exact ⟨g, e1⟩
      obtain ⟨x1, x2, x3⟩ := entCells_at ents k hke
      have hgr := HTr.out.own.cells (g := g) (by rw [hev]; rfl)
      have e1 := hgr _ _ x1
      have e2 := hgr _ _ x2
      have e3 := hgr _ _ x3
      rw [Lib.addr_add, Nat.zero_add] at e1 e2 e3
      rw [← hes] at e1 e2
      have hgt1 : decide (max < s) = true := by simpa using hgt
      have hgtI : (max : Int) < (s : Int) := by omega
      have hkeN : decide (k < ents.length) = true := by simpa using hke
      clear hes hs hs2 hst htd hz hzs hgr x1 x2 x3
      go_wp2_with fail
      go_quiet ((go_at_call 56; exact Calls.quiet_of_same (len_same b _ _ _ _ (by exact c1))))
      go_wp2_with fail
      have hgl := World.block_lt_of_cell? wr _ e1
      have hbg : b ≠ g := fun e => HT.out.ne (by rw [hev, e]; rfl)
      refine wp_region_held_drew (S := (fun w' => w'.cell? ⟨b, 1, none⟩ = some (.slice (some ⟨g, 0, none⟩) ents.length cap) ∧ w'.cell? ⟨g, k * 3, none⟩ = some (.string ⟨es.1.toArray⟩) ∧ w'.cell? ⟨g, k * 3 + 1, none⟩ = some (.string ⟨es.2.toArray⟩) ∧ w'.cell? ⟨g, k * 3 + 2, none⟩ = some (.bool false))) (by kernel_rfl) ((by exact ⟨c1, e1, e2, e3⟩)) (fun hHeld => ?_)
      refine takeH 0 (v := ?_) rfl rfl (by kernel_rfl) (by kernel_rfl) (by kernel_rfl) (fun _ _ _ h => h) (Or.inl ⟨by rfl, ?_⟩) (by assumption) ?_
      rotate_left
      · (intro w hSw; (try dsimp only at hSw); go_simp <;> with_reducible rfl)
      simp only [List.setIfInBounds_toArray, List.set_cons_zero, List.set_cons_succ]
      refine takeH 1 (v := ?_) rfl rfl (by kernel_rfl) (by kernel_rfl) (by kernel_rfl) (fun _ _ _ h => h) (Or.inl ⟨by rfl, ?_⟩) (by assumption) ?_
      rotate_left
      · (intro w hSw; (try dsimp only at hSw); go_simp <;> with_reducible rfl)
      simp only [List.setIfInBounds_toArray, List.set_cons_zero, List.set_cons_succ]
      refine takeH 2 (v := ?_) rfl rfl (by kernel_rfl) (by kernel_rfl) (by kernel_rfl) (fun _ _ _ h => h) (Or.inl ⟨by rfl, ?_⟩) (by assumption) ?_
      rotate_left
      · (intro w hSw; (try dsimp only at hSw); go_simp <;> with_reducible rfl)
      simp only [List.setIfInBounds_toArray, List.set_cons_zero, List.set_cons_succ]
      refine takeH 4 (v := ?_) rfl rfl (by kernel_rfl) (by kernel_rfl) (by kernel_rfl) (fun _ _ _ h => h) (Or.inl ⟨by rfl, ?_⟩) (by assumption) ?_
      rotate_left
      · (intro w hSw; (try dsimp only at hSw); go_simp <;> with_reducible rfl)
      simp only [List.setIfInBounds_toArray, List.set_cons_zero, List.set_cons_succ]
      refine takeH 5 (v := ?_) rfl rfl (by kernel_rfl) (by kernel_rfl) (by kernel_rfl) (fun _ _ _ h => h) (Or.inl ⟨by rfl, ?_⟩) (by assumption) ?_
      rotate_left
      · (intro w hSw; (try dsimp only at hSw); go_simp <;> with_reducible rfl)
      simp only [List.setIfInBounds_toArray, List.set_cons_zero, List.set_cons_succ]
      refine takeH 6 (v := ?_) rfl rfl (by kernel_rfl) (by kernel_rfl) (by kernel_rfl) (fun _ _ _ h => h) (Or.inl ⟨by rfl, ?_⟩) (by assumption) ?_
      rotate_left
      · (intro w hSw; (try dsimp only at hSw); go_simp <;> with_reducible rfl)
      simp only [List.setIfInBounds_toArray, List.set_cons_zero, List.set_cons_succ]
      refine takeH 7 (v := ?_) rfl rfl (by kernel_rfl) (by kernel_rfl) (by kernel_rfl) (fun _ _ _ h => h) (Or.inl ⟨by rfl, ?_⟩) (by assumption) ?_
      rotate_left
      · (intro w hSw; (try dsimp only at hSw); go_simp <;> with_reducible rfl)
      simp only [List.setIfInBounds_toArray, List.set_cons_zero, List.set_cons_succ]
      refine takeH 8 (v := ?_) rfl rfl (by kernel_rfl) (by kernel_rfl) (by kernel_rfl) (fun _ _ _ h => h) (Or.inl ⟨by rfl, ?_⟩) (by assumption) ?_
      rotate_left
      · (intro w hSw; (try dsimp only at hSw); go_simp <;> with_reducible rfl)
      simp only [List.setIfInBounds_toArray, List.set_cons_zero, List.set_cons_succ]
      refine takeH 9 (v := ?_) rfl rfl (by kernel_rfl) (by kernel_rfl) (by kernel_rfl) (fun _ _ _ h => h) (Or.inl ⟨by rfl, ?_⟩) (by assumption) ?_
      rotate_left
      · (intro w hSw; (try dsimp only at hSw); go_simp <;> with_reducible rfl)
      simp only [List.setIfInBounds_toArray, List.set_cons_zero, List.set_cons_succ]
      refine takeH 10 (v := ?_) rfl rfl (by kernel_rfl) (by kernel_rfl) (by kernel_rfl) (fun _ _ _ h => h) (Or.inl ⟨by rfl, ?_⟩) (by assumption) ?_
      rotate_left
      · (intro w hSw; (try dsimp only at hSw); go_simp <;> with_reducible rfl)
      simp only [List.setIfInBounds_toArray, List.set_cons_zero, List.set_cons_succ]
      refine takeH 11 (v := ?_) rfl rfl (by kernel_rfl) (by kernel_rfl) (by kernel_rfl) (fun _ _ _ h => h) (Or.inl ⟨by rfl, ?_⟩) (by assumption) ?_
      rotate_left
      · (intro w hSw; (try dsimp only at hSw); go_simp <;> with_reducible rfl)
      simp only [List.setIfInBounds_toArray, List.set_cons_zero, List.set_cons_succ]
      refine wpAnyH_ready (rs := [3, 12]) (by kernel_rfl) (by simp) ?_
      refine AllReadyH.cons rfl (fun K hK => ?_) (AllReadyH.cons rfl (fun K hK => ?_) AllReadyH.nil)
      · go_simp
        refine hK.out _ _ (by exact ⟨c1, e1, e2, e3⟩) (fun hHeld => ?_)
        clear hK K
        refine wpAnyH_ready (rs := [12]) (by kernel_rfl) (by simp) ?_
        refine AllReadyH.cons rfl (fun K hK => ?_) AllReadyH.nil
        go_simp
        refine (size_any es.1 es.2 false _ (by rw [Hz.out]; exact hzl)).mono ?_
        rintro e w4 ⟨rfl, hb4⟩
        rw [Hz.out]
        have hS4 : w4.cell? ⟨b, 1, none⟩ = some (.slice (some ⟨g, 0, none⟩) ents.length cap) ∧ w4.cell? ⟨g, k * 3, none⟩ = some (.string ⟨es.1.toArray⟩) ∧ w4.cell? ⟨g, k * 3 + 1, none⟩ = some (.string ⟨es.2.toArray⟩) ∧ w4.cell? ⟨g, k * 3 + 2, none⟩ = some (.bool false) := ⟨(hb4.cell (p := ⟨b, 1, none⟩) hbl).trans c1, (hb4.cell (p := ⟨g, k * 3, none⟩) hgl).trans e1, (hb4.cell (p := ⟨g, k * 3 + 1, none⟩) hgl).trans e2, (hb4.cell (p := ⟨g, k * 3 + 2, none⟩) hgl).trans e3⟩
        refine hK.out _ _ hS4 (fun hHeld => ?_)
        clear hK K
        have hb5 : w4.heap[b]? = wr.heap[b]? := hb4.block b hbl
        have hr4 := Hr.out.of_heap hb5
        have d5 := hr4.cell' (i := 5) (v := .int .u32 (s : Nat)) (by omega) (by simp [putF, Hs.out])
        have fz4 := fun i => hr4.unfrozen i none
        have hu4 : Upd (fun i => i = b) w w4 := Hu.out.step ⟨hb4.os, hb4.tape, hb4.output, hb4.size, fun i hi _ => hb4.block i hi⟩
        have Hr4 := Lib.hid hr4
        have Hu4 := Lib.hid hu4
        clear hb4 hb5 hr4 hu4 c5 c6 fz
        refine takeH 13 (v := ?_) rfl rfl (by kernel_rfl) (by kernel_rfl) (by kernel_rfl) (fun _ _ _ h => h) (Or.inl ⟨by rfl, ?_⟩) (by assumption) ?_
        rotate_left
        · (intro w hSw; (try dsimp only at hSw); go_simp <;> with_reducible rfl)
        simp only [List.setIfInBounds_toArray, List.set_cons_zero, List.set_cons_succ]
        refine takeH 14 (v := ?_) rfl rfl (by kernel_rfl) (by kernel_rfl) (by kernel_rfl) (fun _ _ _ h => h) (Or.inl ⟨by rfl, ?_⟩) (by assumption) ?_
        rotate_left
        · (intro w hSw; (try dsimp only at hSw); go_simp <;> with_reducible rfl)
        simp only [List.setIfInBounds_toArray, List.set_cons_zero, List.set_cons_succ]
        refine takeH 15 (v := ?_) rfl rfl (by kernel_rfl) (by kernel_rfl) (by kernel_rfl) (fun _ _ _ h => h) (Or.inl ⟨by rfl, ?_⟩) (by assumption) ?_
        rotate_left
        · (intro w hSw; (try dsimp only at hSw); go_simp <;> with_reducible rfl)
        simp only [List.setIfInBounds_toArray, List.set_cons_zero, List.set_cons_succ]
        refine wpAnyH_ready (rs := [16]) (by kernel_rfl) (by simp) ?_
        refine AllReadyH.cons rfl (fun K hK => ?_) AllReadyH.nil
        go_simp
        obtain ⟨y1, y2, y3, y4⟩ := hS4
        refine hK.out _ _ (by exact ⟨(cell_in (by decide)).trans y1, (cell_other hbg).trans y2, (cell_other hbg).trans y3, (cell_other hbg).trans y4⟩) (fun hHeld => ?_)
        clear hK K
        refine wpAnyH_done (by kernel_rfl) ?_ _
        clear hHeld y1 y2 y3 y4
        go_wp2_with fail
        refine ⟨⟨k + 1, hke, by go_num, (Hr4.out.set 5 _).congr fun i _ => ?_, Hu4.out.setCell (Or.inl rfl) _, He.out.trans Hst.out⟩, by simp [intOf]; omega⟩
        unfold putF
        by_cases h5 : i = 5
        · subst h5
          have := Hzs.out
          simp only [if_true, ← Hs2.out]
          rw [show (s : Int) - (z : Int) = (s2 : Int) by omega]
        · simp [h5]
      · go_simp
        refine (size_any es.1 es.2 false _ (by rw [Hz.out]; exact hzl)).mono ?_
        rintro e w4 ⟨rfl, hb4⟩
        rw [Hz.out]
        have hS4 : w4.cell? ⟨b, 1, none⟩ = some (.slice (some ⟨g, 0, none⟩) ents.length cap) ∧ w4.cell? ⟨g, k * 3, none⟩ = some (.string ⟨es.1.toArray⟩) ∧ w4.cell? ⟨g, k * 3 + 1, none⟩ = some (.string ⟨es.2.toArray⟩) ∧ w4.cell? ⟨g, k * 3 + 2, none⟩ = some (.bool false) := ⟨(hb4.cell (p := ⟨b, 1, none⟩) hbl).trans c1, (hb4.cell (p := ⟨g, k * 3, none⟩) hgl).trans e1, (hb4.cell (p := ⟨g, k * 3 + 1, none⟩) hgl).trans e2, (hb4.cell (p := ⟨g, k * 3 + 2, none⟩) hgl).trans e3⟩
        refine hK.out _ _ hS4 (fun hHeld => ?_)
        clear hK K
        have hb5 : w4.heap[b]? = wr.heap[b]? := hb4.block b hbl
        have hr4 := Hr.out.of_heap hb5
        have d5 := hr4.cell' (i := 5) (v := .int .u32 (s : Nat)) (by omega) (by simp [putF, Hs.out])
        have fz4 := fun i => hr4.unfrozen i none
        have hu4 : Upd (fun i => i = b) w w4 := Hu.out.step ⟨hb4.os, hb4.tape, hb4.output, hb4.size, fun i hi _ => hb4.block i hi⟩
        have Hr4 := Lib.hid hr4
        have Hu4 := Lib.hid hu4
        clear hb4 hb5 hr4 hu4 c5 c6 fz
        refine wpAnyH_ready (rs := [3]) (by kernel_rfl) (by simp) ?_
        refine AllReadyH.cons rfl (fun K hK => ?_) AllReadyH.nil
        go_simp
        refine hK.out _ _ hS4 (fun hHeld => ?_)
        clear hK K
        refine takeH 13 (v := ?_) rfl rfl (by kernel_rfl) (by kernel_rfl) (by kernel_rfl) (fun _ _ _ h => h) (Or.inl ⟨by rfl, ?_⟩) (by assumption) ?_
        rotate_left
        · (intro w hSw; (try dsimp only at hSw); go_simp <;> with_reducible rfl)
        simp only [List.setIfInBounds_toArray, List.set_cons_zero, List.set_cons_succ]
        refine takeH 14 (v := ?_) rfl rfl (by kernel_rfl) (by kernel_rfl) (by kernel_rfl) (fun _ _ _ h => h) (Or.inl ⟨by rfl, ?_⟩) (by assumption) ?_
        rotate_left
        · (intro w hSw; (try dsimp only at hSw); go_simp <;> with_reducible rfl)
        simp only [List.setIfInBounds_toArray, List.set_cons_zero, List.set_cons_succ]
        refine takeH 15 (v := ?_) rfl rfl (by kernel_rfl) (by kernel_rfl) (by kernel_rfl) (fun _ _ _ h => h) (Or.inl ⟨by rfl, ?_⟩) (by assumption) ?_
        rotate_left
        · (intro w hSw; (try dsimp only at hSw); go_simp <;> with_reducible rfl)
        simp only [List.setIfInBounds_toArray, List.set_cons_zero, List.set_cons_succ]
        refine wpAnyH_ready (rs := [16]) (by kernel_rfl) (by simp) ?_
        refine AllReadyH.cons rfl (fun K hK => ?_) AllReadyH.nil
        go_simp
        obtain ⟨y1, y2, y3, y4⟩ := hS4
        refine hK.out _ _ (by exact ⟨(cell_in (by decide)).trans y1, (cell_other hbg).trans y2, (cell_other hbg).trans y3, (cell_other hbg).trans y4⟩) (fun hHeld => ?_)
        clear hK K
        refine wpAnyH_done (by kernel_rfl) ?_ _
        clear hHeld y1 y2 y3 y4
        go_wp2_with fail
        refine ⟨⟨k + 1, hke, by go_num, (Hr4.out.set 5 _).congr fun i _ => ?_, Hu4.out.setCell (Or.inl rfl) _, He.out.trans Hst.out⟩, by simp [intOf]; omega⟩
        unfold putF
        by_cases h5 : i = 5
        · subst h5
          have := Hzs.out
          simp only [if_true, ← Hs2.out]
          rw [show (s : Int) - (z : Int) = (s2 : Int) by omega]
        · simp [h5]
    · obtain ⟨s, hs⟩ : ∃ s, s = HD.tsize (ents.drop k) := ⟨_, rfl⟩
      have hstop := evict_stop max (ents.drop k) hgt
      rw [← hs] at hgt hle c5
      have Hs := Lib.hid hs
      have Hstop := Lib.hid (He.out.trans hstop)
      have hgt1 : decide (max < s) = false := by simpa using hgt
      have hgtI : ¬ (max : Int) < (s : Int) := by omega
      clear hs hstop
      go_wp2_with fail
      go_quiet ((go_at_call 56; exact Calls.quiet_of_same (len_same b _ _ _ _ (by exact c1))))
      go_wp2_with fail
      refine (evictOldest_any B k _ b n _ ents cnt ev m1 m2 l1 l2 (HTr.out.drewN nq) hk hc).mono ?_
      rintro e w5 ⟨rfl, ev', hev', hT5, hU5⟩
      have Hev := Lib.hid hev'
      have HT5 := Lib.hid hT5
      have HU5 := Lib.hid hU5
      clear hev' hT5 hU5
      go_wp2_with fail
      go_end0
      rw [Hstop.out]
      refine ⟨rfl, k, ev', _, hk, rfl, Hev.out, fun i hi => ?_, ⟨?_, ?_⟩, HT5.out, (Hu.out.mono fun i hi => Or.inl hi).step (((Upd.refl _ wr).drewN nq).step HU5.out)⟩
      · simp only [evF, putF]; rw [if_neg (by omega), if_neg (by omega), if_neg (by omega)]
      · simp [evF, putF]
      · simp [evF, putF, HS.out.max]

/-- The least table size is told. -/
theorem setMax_any (B : Nat) (w : World) (b n : Nat) (f : Nat → Value) (ents : List (HD.Bs × HD.Bs)) (cnt max v : Nat) (ev : Value) (m1 m2 : Nat) (l1 : List (HD.Bs × Nat)) (l2 : List ((HD.Bs × HD.Bs) × Nat))
    (hT : TabMem B w b n f ents cnt ev m1 m2 l1 l2) (hS : Sized f ents max) (hc : cnt + ents.length < 2 ^ 62) (hv : v < 2 ^ 32) (hts : HD.tsize ents < 2 ^ 32) :
    Calls Tryd.prog 24 #[.pointer (some ⟨b, 0, none⟩), .int .u32 (v : Nat)] w fun e w' => e = .returned (.tuple #[]) ∧
      ∃ (q : Nat) (ev' : Value) (f' : Nat → Value), q ≤ ents.length ∧ HD.evict v ents = ents.drop q ∧ ev'.ownBlock = ev.ownBlock ∧ (∀ i, 7 ≤ i → f' i = f i) ∧ Sized f' (HD.evict v ents) v ∧
        TabMem B w' b n f' (HD.evict v ents) (cnt + q) ev' m1 m2 (delS (cnt + 1) (ents.take q) l1) (delP (cnt + 1) (ents.take q) l2) ∧ Upd (tabOwn b ev m1 m2) w w' := by
  have hbig := hT.big
  have c6 := hT.row.cell' (i := 6) (v := .int .u32 (max : Nat)) (by omega) hS.max
  have fz := fun i => hT.row.unfrozen i none
  have hrow : Row (w.setCell ⟨b, 6, none⟩ (.int .u32 (v : Nat))) b n (putF f 6 (.int .u32 (v : Nat))) := hT.row.set 6 _
  have hT2 := hT.write (cnt' := cnt) hrow (fun i _ hi => other_set hi) (by simp [putF, hT.c0]) (by simp [putF, hT.c1]) (by simp [putF, hT.c2]) (by simp [putF, hT.c3]) (by simp [putF, hT.c4])
  have hS2 : Sized (putF f 6 (.int .u32 (v : Nat))) ents v := ⟨by simp [putF, hS.size], by simp [putF]⟩
  have HT2 := Lib.hid hT2
  have HS2 := Lib.hid hS2
  clear hT hS hrow hT2 hS2
  go_enter Tryd.func24, Tryd.ntmps24
  go_wp2_with fail
  refine (evict_any B _ b n _ ents cnt v ev m1 m2 l1 l2 HT2.out HS2.out hc hv hts).mono ?_
  rintro e w5 ⟨rfl, q, ev', f', hq, he, hev, hf, hs, ht, hu⟩
  have H1 := Lib.hid he
  have H2 := Lib.hid hev
  have H3 := Lib.hid hf
  have H4 := Lib.hid hs
  have H5 := Lib.hid ht
  have H6 := Lib.hid hu
  clear he hev hf hs ht hu
  go_wp2_with fail
  go_end0
  exact ⟨rfl, q, ev', f', hq, H1.out, H2.out, fun i hi => (H3.out i (by omega)).trans (by simp [putF]; omega), H4.out, H5.out, ((Upd.refl _ w).setCell (Or.inl (Or.inl rfl)) _).step H6.out⟩
end Go.Proofs.YtjdmaflkafmmpaaDoor
/-
  The contract of impl.HuffmanAppend at a nil destination: a new slice of the text's codes. Texts of at most 2^20 bytes.
-/
namespace Go.Proofs.YtjdmaflkafmmpaaDoor
open Go.ChangeShapes Go.WideShapes Go.ChangeAt Go.RowKit

theorem ownsRow_form {w : World} {B e size n : Nat} {v : Value} {xs : List Value} (h : w.ownsRow B e size v n xs) : ∃ a cap, v = .slice a n cap := by
  rcases h.2 with ⟨rfl, rfl⟩ | ⟨g, cap, cur, rfl, _⟩
  · exact ⟨none, 0, rfl⟩
  · exact ⟨_, cap, rfl⟩

theorem LenTab.lt {w : World} (h : LenTab w) : 5 < w.heap.size := World.block_lt_of_cell? w ⟨5, 0, none⟩ (h 0 (by decide))
theorem CodeTab.lt {w : World} (h : CodeTab w) : 6 < w.heap.size := World.block_lt_of_cell? w ⟨6, 0, none⟩ (h 0 (by decide))
theorem LenTab.below {w w' : World} {B : Nat} (h : LenTab w) (hb : Below B w w') (hB : 5 < B) : LenTab w' := fun i hi => (hb.cell (p := ⟨5, i, none⟩) hB).trans (h i hi)
theorem CodeTab.below {w w' : World} {B : Nat} (h : CodeTab w) (hb : Below B w w') (hB : 6 < B) : CodeTab w' := fun i hi => (hb.cell (p := ⟨6, i, none⟩) hB).trans (h i hi)

/-- A slice of bytes that the call has made. -/
def NewBytes (B : Nat) (w : World) (a : Option Addr) (cap : Nat) (l : List UInt8) : Prop := w.ownsRow B 5 1 (.slice a l.length cap) l.length (Lib.byteCells l)

end Go.Proofs.YtjdmaflkafmmpaaDoor
/-
  Contracts of appendVarInt and its like: bytes behind bytes that the call owns.
-/
namespace Go.Proofs.YtjdmaflkafmmpaaDoor
open Go.ChangeShapes Go.WideShapes Go.ChangeAt Go.RowKit

theorem or_dig (r : Nat) (h : r < 128) : bits BinOp.or IntKind.u64 128 (r : Int) = (r : Int) + 128 := by
  have key : ∀ b : Fin 128, bits BinOp.or IntKind.u64 128 (b.val : Int) = (b.val : Int) + 128 := by decide +kernel
  exact key ⟨r, h⟩
theorem and_127 (j : Nat) (h : j < 2 ^ 64) : bits BinOp.and IntKind.u64 (j : Int) 127 = ((j % 128 : Nat) : Int) := by
  have := bits_and_u64_nat j 127 h (by decide)
  rw [show ((127 : Nat) : Int) = 127 from rfl] at this
  rw [this, show (127 : Nat) = 2 ^ 7 - 1 from rfl, Nat.and_two_pow_sub_one_eq_mod]
/-- What was appended: the bytes t. -/
def App (B n : Nat) (xs : List Value) (v : Value) (w : World) (t : HD.Bs) (e : Ending) (w' : World) : Prop :=
  ∃ v', e = .returned v' ∧ w'.ownsRow B 5 1 v' (n + t.length) (xs ++ Lib.byteCells t) ∧ Grew w w' v v'
theorem byteCells_one (c : Nat) (h : c < 256) : Lib.byteCells [UInt8.ofNat c] = [.int .u8 (c : Nat)] := by
  simp only [Lib.byteCells, List.map_cons, List.map_nil, byteCell_ofNat c h]
theorem byteCells_app (a b : HD.Bs) : Lib.byteCells (a ++ b) = Lib.byteCells a ++ Lib.byteCells b := by simp [Lib.byteCells]

set_option maxHeartbeats 4000000 in
set_option maxRecDepth 100000 in
theorem varApp_any (p K : Nat) (hp : (p = 4 ∧ K = 15) ∨ (p = 5 ∧ K = 31) ∨ (p = 6 ∧ K = 63) ∨ (p = 7 ∧ K = 127)) (B n : Nat) (v : Value) (xs : List Value) (i : Nat) (w : World) (hown : w.ownsRow B 5 1 v n xs) (hB : B ≤ w.heap.size) (hn : n ≤ 2 ^ 45) (hi : i < 2 ^ 63) :
    Calls Tryd.prog 59 #[v, .int .u8 (p : Nat), .int .u64 (i : Nat)] w (App B n xs v w (HD.intg 0 p i)) := by
  have hK : 2 ^ p - 1 = K := by rcases hp with ⟨rfl, rfl⟩ | ⟨rfl, rfl⟩ | ⟨rfl, rfl⟩ | ⟨rfl, rfl⟩ <;> rfl
  have hint : HD.intg 0 p i = if i < K then [UInt8.ofNat i] else UInt8.ofNat K :: HD.digs (i - K) := by unfold HD.intg; rw [hK]; simp
  rw [hint]
  have Hown := Lib.hid hown
  obtain ⟨i0, hi0, hz0, hz1, hz2⟩ := info_parts infoU8
  clear hown hint hK
  by_cases hlt : i < K
  · have hltI : (i : Int) < (K : Int) := by omega
    rw [if_pos hlt]
    rcases hp with ⟨rfl, rfl⟩ | ⟨rfl, rfl⟩ | ⟨rfl, rfl⟩ | ⟨rfl, rfl⟩
    all_goals
      go_enter Tryd.func59, Tryd.ntmps59
      go_wp2_with (at_builtin; go_must (refine wpList_append_own_at _ rfl _ _ 30 rfl B 5 i0 (.int .u8 0) 1 1 Tryd.underlying30 hi0 hz0 hz1 hz2 rfl (by decide) _ _ _ rfl (Hown.out.alloc _) ⟨w.heap.size, 0, none⟩ 1 1 [Value.int .u8 (i : Nat)] rfl rfl (news_of_new w [Value.int .u8 (i : Nat)] 5) (by simp [Value.oneCell']) (by unfold maxLen; omega) (by omega) (by simp; omega) ?_); intro v1 w1 hown1 hgrow1 _ hat1)
      go_ret
      refine ⟨v1, rfl, ?_, (Grew.refl w v).app hgrow1 hat1⟩
      rw [byteCells_one i (by omega)]
      exact hown1
  · have hltI : ¬ (i : Int) < (K : Int) := by omega
    have hd0 : decide ((i : Int) < (K : Int)) = false := decide_eq_false hltI
    obtain ⟨M, hM⟩ : ∃ M, M = i - K := ⟨_, rfl⟩
    have hM63 : M < 2 ^ 63 := by omega
    have hlen := HD.digs_len M 9 (by have : (2 : Nat) ^ (7 * 9) = 2 ^ 63 := rfl
                                     omega)
    rw [if_neg hlt, ← hM]
    obtain ⟨T, hT⟩ : ∃ T, T = UInt8.ofNat K :: HD.digs M := ⟨_, rfl⟩
    rw [← hT]
    have HT := Lib.hid hT
    have HM := Lib.hid hM
    have Hlen := Lib.hid hlen
    clear hM hlen hT
    have hsub : ((i : Int) - (K : Int)) = (M : Int) := by have := HM.out; omega
    rcases hp with ⟨rfl, rfl⟩ | ⟨rfl, rfl⟩ | ⟨rfl, rfl⟩ | ⟨rfl, rfl⟩
    · go_enter Tryd.func59, Tryd.ntmps59
      go_wp2_with (at_builtin; go_must (refine wpList_append_own_at _ rfl _ _ 30 rfl B 5 i0 (.int .u8 0) 1 1 Tryd.underlying30 hi0 hz0 hz1 hz2 rfl (by decide) _ _ _ rfl (Hown.out.alloc _) ⟨w.heap.size, 0, none⟩ 1 1 [Value.int .u8 15] rfl rfl (news_of_new w [Value.int .u8 15] 5) (by simp [Value.oneCell']) (by unfold maxLen; omega) (by omega) (by simp; omega) ?_); intro v1 w1 hown1 hgrow1 _ hat1)
      have HG0 := Lib.hid ((Grew.refl w v).app hgrow1 hat1)
      have HO1 := Lib.hid hown1
      clear hown1 hgrow1 hat1
      go_loopw [0, 2] (fun d iv wr => ∃ (j : Nat) (D : HD.Bs), j ≤ M ∧ iv = .int .u64 (j : Nat) ∧ Hid (D ++ HD.digs j = HD.digs M) ∧ wr.ownsRow B 5 1 d (n + 1 + D.length) (xs ++ [.int .u8 15] ++ Lib.byteCells D) ∧ Grew w wr v d) (fun _ iv _ => (intOf iv).toNat)
      case atStart => exact ⟨M, [], Nat.le_refl _, congrArg (Value.int IntKind.u64) hsub, rfl, by simpa [Lib.byteCells] using HO1.out, HG0.out⟩
      case round =>
        obtain ⟨j, D, hj, rfl, HD', hown, hgrew⟩ := hrel
        have hsz := hgrew.grown.size
        have hDl : D.length ≤ 10 := by
          have h1 := congrArg List.length HD'.out
          rw [List.length_append] at h1
          have h2 := Hlen.out
          omega
        obtain ⟨sa, sc, rfl⟩ := own_form hown
        by_cases h128 : 128 ≤ j
        · have h128I : (128 : Int) ≤ (j : Int) := by omega
          obtain ⟨r, hr⟩ : ∃ r, r = j % 128 := ⟨_, rfl⟩
          obtain ⟨q, hq⟩ : ∃ q, q = j / 128 := ⟨_, rfl⟩
          have hrI : (j : Int) % 128 = (r : Int) := by omega
          have hqI : (j : Int) / 128 = (q : Int) := by omega
          have hr128 : r < 128 := by omega
          have hand : bits BinOp.and IntKind.u64 (j : Int) 127 = (r : Int) := by rw [and_127 j (by omega), hr]
          have hor : bits BinOp.or IntKind.u64 128 (r : Int) = (r : Int) + 128 := or_dig r hr128
          have hrb : (r : Int) + 128 < 256 := by omega
          have Hr := Lib.hid hr
          have Hq := Lib.hid hq
          clear hr hq
          go_wp2_with (at_builtin; go_must (refine wpList_append_own_at _ rfl _ _ 30 rfl B 5 i0 (.int .u8 0) 1 1 Tryd.underlying30 hi0 hz0 hz1 hz2 rfl (by decide) _ _ _ rfl (hown.alloc _) ⟨wr.heap.size, 0, none⟩ 1 1 [.int .u8 ((r : Int) + 128)] rfl rfl (news_of_new wr [.int .u8 ((r : Int) + 128)] 5) (by simp [Value.oneCell']) (by unfold maxLen; omega) (by omega) (by simp; omega) ?_); intro v2 w2 hown2 hgrow2 _ hat2)
          refine ⟨⟨q, D ++ [UInt8.ofNat (j % 128 + 128)], by have := Hq.out; omega, ?_, ?_, ?_, hgrew.app hgrow2 hat2⟩, ?_⟩
          · first | rfl | go_num
          · show _ = _
            have h1 := HD'.out
            rw [HD.digs, dif_pos h128, ← Hq.out] at h1
            rw [List.append_assoc]
            exact h1
          · rw [List.length_append, List.length_singleton, byteCells_app, byteCells_one _ (by omega), ← Hr.out, ← List.append_assoc]
            exact hown2
          · simp [intOf]
            have := Hq.out
            omega
        · have h128I : ¬ (128 : Int) ≤ (j : Int) := by omega
          go_wp2_with (at_builtin; go_must (refine wpList_append_own_at _ rfl _ _ 30 rfl B 5 i0 (.int .u8 0) 1 1 Tryd.underlying30 hi0 hz0 hz1 hz2 rfl (by decide) _ _ _ rfl (hown.alloc _) ⟨wr.heap.size, 0, none⟩ 1 1 [.int .u8 (j : Nat)] rfl rfl (news_of_new wr [.int .u8 (j : Nat)] 5) (by simp [Value.oneCell']) (by unfold maxLen; omega) (by omega) (by simp; omega) ?_); intro v2 w2 hown2 hgrow2 _ hat2)
          go_ret
          refine ⟨v2, rfl, ?_, hgrew.app hgrow2 hat2⟩
          have h1 := HD'.out
          rw [HD.digs, dif_neg h128] at h1
          have e : T = [UInt8.ofNat 15] ++ D ++ [UInt8.ofNat j] := by rw [HT.out, ← h1]; simp
          rw [e, byteCells_app, byteCells_app, byteCells_one _ (by omega), byteCells_one _ (by omega), List.length_append, List.length_append, ← List.append_assoc, ← List.append_assoc, ← Nat.add_assoc, ← Nat.add_assoc]
          exact hown2
    · go_enter Tryd.func59, Tryd.ntmps59
      go_wp2_with (at_builtin; go_must (refine wpList_append_own_at _ rfl _ _ 30 rfl B 5 i0 (.int .u8 0) 1 1 Tryd.underlying30 hi0 hz0 hz1 hz2 rfl (by decide) _ _ _ rfl (Hown.out.alloc _) ⟨w.heap.size, 0, none⟩ 1 1 [Value.int .u8 31] rfl rfl (news_of_new w [Value.int .u8 31] 5) (by simp [Value.oneCell']) (by unfold maxLen; omega) (by omega) (by simp; omega) ?_); intro v1 w1 hown1 hgrow1 _ hat1)
      have HG0 := Lib.hid ((Grew.refl w v).app hgrow1 hat1)
      have HO1 := Lib.hid hown1
      clear hown1 hgrow1 hat1
      go_loopw [0, 2] (fun d iv wr => ∃ (j : Nat) (D : HD.Bs), j ≤ M ∧ iv = .int .u64 (j : Nat) ∧ Hid (D ++ HD.digs j = HD.digs M) ∧ wr.ownsRow B 5 1 d (n + 1 + D.length) (xs ++ [.int .u8 31] ++ Lib.byteCells D) ∧ Grew w wr v d) (fun _ iv _ => (intOf iv).toNat)
      case atStart => exact ⟨M, [], Nat.le_refl _, congrArg (Value.int IntKind.u64) hsub, rfl, by simpa [Lib.byteCells] using HO1.out, HG0.out⟩
      case round =>
        obtain ⟨j, D, hj, rfl, HD', hown, hgrew⟩ := hrel
        have hsz := hgrew.grown.size
        have hDl : D.length ≤ 10 := by
          have h1 := congrArg List.length HD'.out
          rw [List.length_append] at h1
          have h2 := Hlen.out
          omega
        obtain ⟨sa, sc, rfl⟩ := own_form hown
        by_cases h128 : 128 ≤ j
        · have h128I : (128 : Int) ≤ (j : Int) := by omega
          obtain ⟨r, hr⟩ : ∃ r, r = j % 128 := ⟨_, rfl⟩
          obtain ⟨q, hq⟩ : ∃ q, q = j / 128 := ⟨_, rfl⟩
          have hrI : (j : Int) % 128 = (r : Int) := by omega
          have hqI : (j : Int) / 128 = (q : Int) := by omega
          have hr128 : r < 128 := by omega
          have hand : bits BinOp.and IntKind.u64 (j : Int) 127 = (r : Int) := by rw [and_127 j (by omega), hr]
          have hor : bits BinOp.or IntKind.u64 128 (r : Int) = (r : Int) + 128 := or_dig r hr128
          have hrb : (r : Int) + 128 < 256 := by omega
          have Hr := Lib.hid hr
          have Hq := Lib.hid hq
          clear hr hq
          go_wp2_with (at_builtin; go_must (refine wpList_append_own_at _ rfl _ _ 30 rfl B 5 i0 (.int .u8 0) 1 1 Tryd.underlying30 hi0 hz0 hz1 hz2 rfl (by decide) _ _ _ rfl (hown.alloc _) ⟨wr.heap.size, 0, none⟩ 1 1 [.int .u8 ((r : Int) + 128)] rfl rfl (news_of_new wr [.int .u8 ((r : Int) + 128)] 5) (by simp [Value.oneCell']) (by unfold maxLen; omega) (by omega) (by simp; omega) ?_); intro v2 w2 hown2 hgrow2 _ hat2)
          refine ⟨⟨q, D ++ [UInt8.ofNat (j % 128 + 128)], by have := Hq.out; omega, ?_, ?_, ?_, hgrew.app hgrow2 hat2⟩, ?_⟩
          · first | rfl | go_num
          · show _ = _
            have h1 := HD'.out
            rw [HD.digs, dif_pos h128, ← Hq.out] at h1
            rw [List.append_assoc]
            exact h1
          · rw [List.length_append, List.length_singleton, byteCells_app, byteCells_one _ (by omega), ← Hr.out, ← List.append_assoc]
            exact hown2
          · simp [intOf]
            have := Hq.out
            omega
        · have h128I : ¬ (128 : Int) ≤ (j : Int) := by omega
          go_wp2_with (at_builtin; go_must (refine wpList_append_own_at _ rfl _ _ 30 rfl B 5 i0 (.int .u8 0) 1 1 Tryd.underlying30 hi0 hz0 hz1 hz2 rfl (by decide) _ _ _ rfl (hown.alloc _) ⟨wr.heap.size, 0, none⟩ 1 1 [.int .u8 (j : Nat)] rfl rfl (news_of_new wr [.int .u8 (j : Nat)] 5) (by simp [Value.oneCell']) (by unfold maxLen; omega) (by omega) (by simp; omega) ?_); intro v2 w2 hown2 hgrow2 _ hat2)
          go_ret
          refine ⟨v2, rfl, ?_, hgrew.app hgrow2 hat2⟩
          have h1 := HD'.out
          rw [HD.digs, dif_neg h128] at h1
          have e : T = [UInt8.ofNat 31] ++ D ++ [UInt8.ofNat j] := by rw [HT.out, ← h1]; simp
          rw [e, byteCells_app, byteCells_app, byteCells_one _ (by omega), byteCells_one _ (by omega), List.length_append, List.length_append, ← List.append_assoc, ← List.append_assoc, ← Nat.add_assoc, ← Nat.add_assoc]
          exact hown2
    · go_enter Tryd.func59, Tryd.ntmps59
      go_wp2_with (at_builtin; go_must (refine wpList_append_own_at _ rfl _ _ 30 rfl B 5 i0 (.int .u8 0) 1 1 Tryd.underlying30 hi0 hz0 hz1 hz2 rfl (by decide) _ _ _ rfl (Hown.out.alloc _) ⟨w.heap.size, 0, none⟩ 1 1 [Value.int .u8 63] rfl rfl (news_of_new w [Value.int .u8 63] 5) (by simp [Value.oneCell']) (by unfold maxLen; omega) (by omega) (by simp; omega) ?_); intro v1 w1 hown1 hgrow1 _ hat1)
      have HG0 := Lib.hid ((Grew.refl w v).app hgrow1 hat1)
      have HO1 := Lib.hid hown1
      clear hown1 hgrow1 hat1
      go_loopw [0, 2] (fun d iv wr => ∃ (j : Nat) (D : HD.Bs), j ≤ M ∧ iv = .int .u64 (j : Nat) ∧ Hid (D ++ HD.digs j = HD.digs M) ∧ wr.ownsRow B 5 1 d (n + 1 + D.length) (xs ++ [.int .u8 63] ++ Lib.byteCells D) ∧ Grew w wr v d) (fun _ iv _ => (intOf iv).toNat)
      case atStart => exact ⟨M, [], Nat.le_refl _, congrArg (Value.int IntKind.u64) hsub, rfl, by simpa [Lib.byteCells] using HO1.out, HG0.out⟩
      case round =>
        obtain ⟨j, D, hj, rfl, HD', hown, hgrew⟩ := hrel
        have hsz := hgrew.grown.size
        have hDl : D.length ≤ 10 := by
          have h1 := congrArg List.length HD'.out
          rw [List.length_append] at h1
          have h2 := Hlen.out
          omega
        obtain ⟨sa, sc, rfl⟩ := own_form hown
        by_cases h128 : 128 ≤ j
        · have h128I : (128 : Int) ≤ (j : Int) := by omega
          obtain ⟨r, hr⟩ : ∃ r, r = j % 128 := ⟨_, rfl⟩
          obtain ⟨q, hq⟩ : ∃ q, q = j / 128 := ⟨_, rfl⟩
          have hrI : (j : Int) % 128 = (r : Int) := by omega
          have hqI : (j : Int) / 128 = (q : Int) := by omega
          have hr128 : r < 128 := by omega
          have hand : bits BinOp.and IntKind.u64 (j : Int) 127 = (r : Int) := by rw [and_127 j (by omega), hr]
          have hor : bits BinOp.or IntKind.u64 128 (r : Int) = (r : Int) + 128 := or_dig r hr128
          have hrb : (r : Int) + 128 < 256 := by omega
          have Hr := Lib.hid hr
          have Hq := Lib.hid hq
          clear hr hq
          go_wp2_with (at_builtin; go_must (refine wpList_append_own_at _ rfl _ _ 30 rfl B 5 i0 (.int .u8 0) 1 1 Tryd.underlying30 hi0 hz0 hz1 hz2 rfl (by decide) _ _ _ rfl (hown.alloc _) ⟨wr.heap.size, 0, none⟩ 1 1 [.int .u8 ((r : Int) + 128)] rfl rfl (news_of_new wr [.int .u8 ((r : Int) + 128)] 5) (by simp [Value.oneCell']) (by unfold maxLen; omega) (by omega) (by simp; omega) ?_); intro v2 w2 hown2 hgrow2 _ hat2)
          refine ⟨⟨q, D ++ [UInt8.ofNat (j % 128 + 128)], by have := Hq.out; omega, ?_, ?_, ?_, hgrew.app hgrow2 hat2⟩, ?_⟩
          · first | rfl | go_num
          · show _ = _
            have h1 := HD'.out
            rw [HD.digs, dif_pos h128, ← Hq.out] at h1
            rw [List.append_assoc]
            exact h1
          · rw [List.length_append, List.length_singleton, byteCells_app, byteCells_one _ (by omega), ← Hr.out, ← List.append_assoc]
            exact hown2
          · simp [intOf]
            have := Hq.out
            omega
        · have h128I : ¬ (128 : Int) ≤ (j : Int) := by omega
          go_wp2_with (at_builtin; go_must (refine wpList_append_own_at _ rfl _ _ 30 rfl B 5 i0 (.int .u8 0) 1 1 Tryd.underlying30 hi0 hz0 hz1 hz2 rfl (by decide) _ _ _ rfl (hown.alloc _) ⟨wr.heap.size, 0, none⟩ 1 1 [.int .u8 (j : Nat)] rfl rfl (news_of_new wr [.int .u8 (j : Nat)] 5) (by simp [Value.oneCell']) (by unfold maxLen; omega) (by omega) (by simp; omega) ?_); intro v2 w2 hown2 hgrow2 _ hat2)
          go_ret
          refine ⟨v2, rfl, ?_, hgrew.app hgrow2 hat2⟩
          have h1 := HD'.out
          rw [HD.digs, dif_neg h128] at h1
          have e : T = [UInt8.ofNat 63] ++ D ++ [UInt8.ofNat j] := by rw [HT.out, ← h1]; simp
          rw [e, byteCells_app, byteCells_app, byteCells_one _ (by omega), byteCells_one _ (by omega), List.length_append, List.length_append, ← List.append_assoc, ← List.append_assoc, ← Nat.add_assoc, ← Nat.add_assoc]
          exact hown2
    · go_enter Tryd.func59, Tryd.ntmps59
      go_wp2_with (at_builtin; go_must (refine wpList_append_own_at _ rfl _ _ 30 rfl B 5 i0 (.int .u8 0) 1 1 Tryd.underlying30 hi0 hz0 hz1 hz2 rfl (by decide) _ _ _ rfl (Hown.out.alloc _) ⟨w.heap.size, 0, none⟩ 1 1 [Value.int .u8 127] rfl rfl (news_of_new w [Value.int .u8 127] 5) (by simp [Value.oneCell']) (by unfold maxLen; omega) (by omega) (by simp; omega) ?_); intro v1 w1 hown1 hgrow1 _ hat1)
      have HG0 := Lib.hid ((Grew.refl w v).app hgrow1 hat1)
      have HO1 := Lib.hid hown1
      clear hown1 hgrow1 hat1
      go_loopw [0, 2] (fun d iv wr => ∃ (j : Nat) (D : HD.Bs), j ≤ M ∧ iv = .int .u64 (j : Nat) ∧ Hid (D ++ HD.digs j = HD.digs M) ∧ wr.ownsRow B 5 1 d (n + 1 + D.length) (xs ++ [.int .u8 127] ++ Lib.byteCells D) ∧ Grew w wr v d) (fun _ iv _ => (intOf iv).toNat)
      case atStart => exact ⟨M, [], Nat.le_refl _, congrArg (Value.int IntKind.u64) hsub, rfl, by simpa [Lib.byteCells] using HO1.out, HG0.out⟩
      case round =>
        obtain ⟨j, D, hj, rfl, HD', hown, hgrew⟩ := hrel
        have hsz := hgrew.grown.size
        have hDl : D.length ≤ 10 := by
          have h1 := congrArg List.length HD'.out
          rw [List.length_append] at h1
          have h2 := Hlen.out
          omega
        obtain ⟨sa, sc, rfl⟩ := own_form hown
        by_cases h128 : 128 ≤ j
        · have h128I : (128 : Int) ≤ (j : Int) := by omega
          obtain ⟨r, hr⟩ : ∃ r, r = j % 128 := ⟨_, rfl⟩
          obtain ⟨q, hq⟩ : ∃ q, q = j / 128 := ⟨_, rfl⟩
          have hrI : (j : Int) % 128 = (r : Int) := by omega
          have hqI : (j : Int) / 128 = (q : Int) := by omega
          have hr128 : r < 128 := by omega
          have hand : bits BinOp.and IntKind.u64 (j : Int) 127 = (r : Int) := by rw [and_127 j (by omega), hr]
          have hor : bits BinOp.or IntKind.u64 128 (r : Int) = (r : Int) + 128 := or_dig r hr128
          have hrb : (r : Int) + 128 < 256 := by omega
          have Hr := Lib.hid hr
          have Hq := Lib.hid hq
          clear hr hq
          go_wp2_with (at_builtin; go_must (refine wpList_append_own_at _ rfl _ _ 30 rfl B 5 i0 (.int .u8 0) 1 1 Tryd.underlying30 hi0 hz0 hz1 hz2 rfl (by decide) _ _ _ rfl (hown.alloc _) ⟨wr.heap.size, 0, none⟩ 1 1 [.int .u8 ((r : Int) + 128)] rfl rfl (news_of_new wr [.int .u8 ((r : Int) + 128)] 5) (by simp [Value.oneCell']) (by unfold maxLen; omega) (by omega) (by simp; omega) ?_); intro v2 w2 hown2 hgrow2 _ hat2)
          refine ⟨⟨q, D ++ [UInt8.ofNat (j % 128 + 128)], by have := Hq.out; omega, ?_, ?_, ?_, hgrew.app hgrow2 hat2⟩, ?_⟩
          · first | rfl | go_num
          · show _ = _
            have h1 := HD'.out
            rw [HD.digs, dif_pos h128, ← Hq.out] at h1
            rw [List.append_assoc]
            exact h1
          · rw [List.length_append, List.length_singleton, byteCells_app, byteCells_one _ (by omega), ← Hr.out, ← List.append_assoc]
            exact hown2
          · simp [intOf]
            have := Hq.out
            omega
        · have h128I : ¬ (128 : Int) ≤ (j : Int) := by omega
          go_wp2_with (at_builtin; go_must (refine wpList_append_own_at _ rfl _ _ 30 rfl B 5 i0 (.int .u8 0) 1 1 Tryd.underlying30 hi0 hz0 hz1 hz2 rfl (by decide) _ _ _ rfl (hown.alloc _) ⟨wr.heap.size, 0, none⟩ 1 1 [.int .u8 (j : Nat)] rfl rfl (news_of_new wr [.int .u8 (j : Nat)] 5) (by simp [Value.oneCell']) (by unfold maxLen; omega) (by omega) (by simp; omega) ?_); intro v2 w2 hown2 hgrow2 _ hat2)
          go_ret
          refine ⟨v2, rfl, ?_, hgrew.app hgrow2 hat2⟩
          have h1 := HD'.out
          rw [HD.digs, dif_neg h128] at h1
          have e : T = [UInt8.ofNat 127] ++ D ++ [UInt8.ofNat j] := by rw [HT.out, ← h1]; simp
          rw [e, byteCells_app, byteCells_app, byteCells_one _ (by omega), byteCells_one _ (by omega), List.length_append, List.length_append, ← List.append_assoc, ← List.append_assoc, ← Nat.add_assoc, ← Nat.add_assoc]
          exact hown2
end Go.Proofs.YtjdmaflkafmmpaaDoor
/-
  Contracts of appendTableSize, appendIndexed: an integer whose first byte is marked.
-/
namespace Go.Proofs.YtjdmaflkafmmpaaDoor
open Go.ChangeShapes Go.WideShapes Go.ChangeAt Go.RowKit

theorem intg_above (above p i : Nat) : ∃ x r, x ≤ 2 ^ p - 1 ∧ HD.intg 0 p i = UInt8.ofNat x :: r ∧ HD.intg above p i = UInt8.ofNat (above + x) :: r := by
  unfold HD.intg
  split
  · exact ⟨i, [], by omega, by rw [Nat.zero_add], rfl⟩
  · exact ⟨2 ^ p - 1, _, Nat.le_refl _, by rw [Nat.zero_add], rfl⟩
theorem Grew.set {w w1 : World} {v v' : Value} (h : Grew w w1 v v') {g i : Nat} (hg : v'.ownBlock = some g) (u : Value) : Grew w (w1.setCell ⟨g, i, none⟩ u) v v' :=
  h.trans ⟨⟨rfl, rfl, rfl, by rw [World.size_setCell]; exact Nat.le_refl _, fun k _ hk => Below.heap_setCell _ _ _ _ (fun e => hk (by rw [hg]; exact congrArg some e))⟩, .inl rfl⟩
/-- The first byte of what was appended is written anew. -/
theorem head_set {B n p i : Nat} (above : Nat) {xs : List Value} {v v' : Value} {w w1 : World} (hown : w1.ownsRow B 5 1 v' (n + (HD.intg 0 p i).length) (xs ++ Lib.byteCells (HD.intg 0 p i))) (hg : Grew w w1 v v') (hx : xs.length = n) (hp : above + 2 ^ p ≤ 256) :
    ∃ (g cap x N : Nat), v' = .slice (some ⟨g, 0, none⟩) N cap ∧ n < N ∧ N ≤ cap ∧ cap ≤ maxLen ∧ N = n + (HD.intg above p i).length ∧ x < 2 ^ p ∧ w1.cell? ⟨g, n, none⟩ = some (.int .u8 (x : Nat)) ∧ w1.frozen? ⟨g, n, none⟩ = false ∧
      (w1.setCell ⟨g, n, none⟩ (.int .u8 ((above + x : Nat) : Int))).ownsRow B 5 1 (.slice (some ⟨g, 0, none⟩) N cap) N (xs ++ Lib.byteCells (HD.intg above p i)) ∧
      Grew w (w1.setCell ⟨g, n, none⟩ (.int .u8 ((above + x : Nat) : Int))) v (.slice (some ⟨g, 0, none⟩) N cap) := by
  obtain ⟨x, r, hxp, e0, e1⟩ := intg_above above p i
  have hpos : 0 < 2 ^ p := Nat.two_pow_pos p
  rw [e0] at hown
  rcases hown.2 with ⟨-, h0⟩ | ⟨g, cap, cur, e, hB, hh, h1, h2, hcs, htk⟩
  · simp at h0
  · subst e
    have hcur : cur.toList[n]? = some (.int .u8 (x : Nat)) := by
      have h3 : (cur.toList.take ((n + (UInt8.ofNat x :: r).length) * 1))[n]? = (xs ++ Lib.byteCells (UInt8.ofNat x :: r))[n]? := by rw [htk]
      rw [List.getElem?_take, if_pos (by simp), List.getElem?_append_right (by omega), hx, Nat.sub_self] at h3
      rw [h3]
      simp only [Lib.byteCells, List.map_cons, List.getElem?_cons_zero, byteCell_ofNat x (by omega)]
    have hsz : cur.size = cap := by rw [hcs, Nat.mul_one]
    refine ⟨g, cap, x, n + (UInt8.ofNat x :: r).length, rfl, by simp, h1, h2, by rw [e1]; rfl, by omega, ?_, Lib.frozen_of_heap hh _, ?_, hg.set rfl _⟩
    · rw [Lib.cell_of_heap hh, ← Array.getElem?_toList]; exact hcur
    · refine ⟨?_, Or.inr ⟨g, cap, cur.setIfInBounds n (.int .u8 ((above + x : Nat) : Int)), rfl, hB, ?_, h1, h2, by simpa using hcs, ?_⟩⟩
      · have := hown.1
        rw [e1]
        simpa [Lib.byteCells] using this
      · exact Lib.heap_setCell_same hh _
      · rw [Array.toList_setIfInBounds, List.take_set, htk, List.set_append_right _ _ (by omega), hx, Nat.sub_self, e1]
        simp only [Lib.byteCells, List.map_cons, List.set_cons_zero, byteCell_ofNat (above + x) (by omega)]
theorem or_u8_128 (x : Nat) (h : x < 128) : bits BinOp.or IntKind.u8 (x : Int) 128 = ((128 + x : Nat) : Int) := by
  have key : ∀ b : Fin 128, bits BinOp.or IntKind.u8 (b.val : Int) 128 = ((128 + b.val : Nat) : Int) := by decide +kernel
  exact key ⟨x, h⟩
theorem or_u8_32 (x : Nat) (h : x < 32) : bits BinOp.or IntKind.u8 (x : Int) 32 = ((32 + x : Nat) : Int) := by
  have key : ∀ b : Fin 32, bits BinOp.or IntKind.u8 (b.val : Int) 32 = ((32 + b.val : Nat) : Int) := by decide +kernel
  exact key ⟨x, h⟩

set_option maxRecDepth 100000 in
theorem tabSize_any (B n : Nat) (v : Value) (xs : List Value) (i : Nat) (w : World) (hown : w.ownsRow B 5 1 v n xs) (hB : B ≤ w.heap.size) (hn : n ≤ 2 ^ 45) (hi : i < 2 ^ 32) :
    Calls Tryd.prog 41 #[v, .int .u32 (i : Nat)] w (App B n xs v w (HD.intg 32 5 i)) := by
  obtain ⟨sa, sc, rfl⟩ := own_form hown
  have hxl : xs.length = n := by simpa using hown.1
  have Hown := Lib.hid hown
  have Hxl := Lib.hid hxl
  clear hown hxl
  go_enter Tryd.func41, Tryd.ntmps41
  go_wp2_with fail
  refine (varApp_any 5 31 (by decide) B n _ xs i _ Hown.out hB hn (by omega)).mono ?_
  rintro e w1 ⟨v1, rfl, hown1, hg1⟩
  obtain ⟨g, cap, x, N, rfl, hN, hNc, hcm, hNe, hx, hc, hf, hown2, hg2⟩ := head_set 32 hown1 hg1 Hxl.out (by decide)
  have HN := Lib.hid hNe
  have Hown2 := Lib.hid hown2
  have Hg2 := Lib.hid hg2
  have hor := or_u8_32 x hx
  have hNI : (n : Int) < (N : Int) := by omega
  clear hNe hown1 hg1 hown2 hg2
  go_wp2_with fail
  go_ret
  exact ⟨_, rfl, by rw [← HN.out]; exact Hown2.out, Hg2.out⟩
set_option maxRecDepth 100000 in
theorem indexed_any (B n : Nat) (v : Value) (xs : List Value) (i : Nat) (w : World) (hown : w.ownsRow B 5 1 v n xs) (hB : B ≤ w.heap.size) (hn : n ≤ 2 ^ 45) (hi : i < 2 ^ 63) :
    Calls Tryd.prog 43 #[v, .int .u64 (i : Nat)] w (App B n xs v w (HD.intg 128 7 i)) := by
  obtain ⟨sa, sc, rfl⟩ := own_form hown
  have hxl : xs.length = n := by simpa using hown.1
  have Hown := Lib.hid hown
  have Hxl := Lib.hid hxl
  clear hown hxl
  go_enter Tryd.func43, Tryd.ntmps43
  go_wp2_with fail
  refine (varApp_any 7 127 (by decide) B n _ xs i _ Hown.out hB hn hi).mono ?_
  rintro e w1 ⟨v1, rfl, hown1, hg1⟩
  obtain ⟨g, cap, x, N, rfl, hN, hNc, hcm, hNe, hx, hc, hf, hown2, hg2⟩ := head_set 128 hown1 hg1 Hxl.out (by decide)
  have HN := Lib.hid hNe
  have Hown2 := Lib.hid hown2
  have Hg2 := Lib.hid hg2
  have hor := or_u8_128 x hx
  have hNI : (n : Int) < (N : Int) := by omega
  clear hNe hown1 hg1 hown2 hg2
  go_wp2_with fail
  go_ret
  exact ⟨_, rfl, by rw [← HN.out]; exact Hown2.out, Hg2.out⟩
end Go.Proofs.YtjdmaflkafmmpaaDoor
