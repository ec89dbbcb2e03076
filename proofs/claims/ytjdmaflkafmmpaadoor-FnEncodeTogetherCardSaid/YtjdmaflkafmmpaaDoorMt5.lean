/-
  Texts of this seat, one behind the other: DWr, At, PIdx, PLit, AllRepr. What each one shows stands at its head. No condition.
-/
import Derived.Test.YtjdmaflkafmmpaaDoorMt4
/-
  A step of a decoder: Write.
-/
namespace Go.Proofs.YtjdmaflkafmmpaaDoor
open Go.ChangeShapes Go.WideShapes Go.ChangeAt Go.RowKit

/-- What is known behind the call of Write. -/
structure WMid (B : Nat) (w w2 : World) (d : Nat) (M : Emitter) (l : List HD.Fld) (p p' : DP) (aI : Addr) (N : Nat) (r : HD.WR) (x : Value) : Prop where
  err : ErrO (w.heap.size + 3) w2 aI r.err x
  live : Live B w2 d M r.st (l ++ r.out) p'
  save : Save B w2 d p'.f r.save
  own : ∀ k, p'.own d k → p.own d k ∨ w.heap.size + 3 ≤ k
  kept : Kept B (p.own d) w w2
  num : p'.cnt + r.st.ents.length + r.save.length ≤ N
  rr : Row w2 (w.heap.size + 1) 6 (fun i => ans0.getD i undef)
  ra : Row w2 (w.heap.size + 1 + 1) 6 (fun i => ans0.getD i undef)

theorem wMid (B : Nat) (w w1 : World) (d : Nat) (M : Emitter) (σ : HD.DS) (l : List HD.Fld) (p : DP) (aI aN aL : Addr) (G : HD.St → HD.Bs → Prop) (hS : Steps B d M aI aN aL G) (v : HD.Bs) (b1 : Value) (N : Nat)
    (hL : Live B w d M σ.st l p) (hE : Env B w aI aN aL) (hV : Save B w d p.f σ.save) (hG : G σ.st (σ.save ++ v)) (hN0 : N = p.cnt + σ.st.ents.length + σ.save.length + v.length) (hN : N < 2 ^ 46) (hT : l.length + (σ.save ++ v).length ≤ 2 ^ 40)
    (hb1 : Below w.heap.size w w1) (hr1 : Row w1 (w.heap.size + 1) 6 (fun i => ans0.getD i undef)) (ha1 : Row w1 (w.heap.size + 1 + 1) 6 (fun i => ans0.getD i undef))
    (hs : (v = [] ∧ b1 = .slice none 0 0) ∨ ∃ g o cap, b1 = .slice (some ⟨g, o, none⟩) v.length cap ∧ Buf w1 g o cap v ∧ IsU8 w1 g) :
    Calls Tryd.prog 31 #[.pointer (some ⟨d, 0, none⟩), b1] w1 fun e w2 => ∃ x p', e = .returned (.tuple #[.int .i64 (v.length : Nat), x]) ∧ WMid B w w2 d M l p p' aI N (HD.write σ.st σ.save v) x := by
  have hsz : w.heap.size + 3 ≤ w1.heap.size := by have := ha1.lt; omega
  have hl1 := hL.below hb1
  have he1 := hE.below (hb1.mono hL.lo)
  have hv1 : Save B w1 d p.f σ.save := hV.kept rfl rfl rfl (fun g hg => hb1.block g (hV.u8 hg).lt)
  obtain ⟨sa, cap, rfl, hsrc⟩ : ∃ sa cap, b1 = .slice sa v.length cap ∧ (v = [] ∨ ∃ g o, sa = some ⟨g, o, none⟩ ∧ Buf w1 g o cap v ∧ IsU8 w1 g) := by
    rcases hs with ⟨hv, rfl⟩ | ⟨g, o, cap, rfl, hb, hu⟩
    · exact ⟨none, 0, by rw [hv]; rfl, Or.inl hv⟩
    · exact ⟨_, cap, rfl, Or.inr ⟨g, o, rfl, hb, hu⟩⟩
  refine (write_any B w1 d M σ.st l p aI aN aL G hS σ.save v sa cap N hl1 he1 hv1 hG hsrc (Nat.le_of_eq hN0.symm) hN hT).mono ?_
  rintro e w2 ⟨⟨x, rfl, hx⟩, p', hl2, hs2, ho2, hk2, hn2⟩
  have hkk : ∀ k, k = w.heap.size + 1 ∨ k = w.heap.size + 1 + 1 → w2.heap[k]? = w1.heap[k]? := fun k hk => hk2.block k (by omega) (fun h => by
    have := hL.own_lt h
    omega) (by
      rcases hk with rfl | rfl
      · exact hr1.notU8
      · exact ha1.notU8)
  refine ⟨x, p', rfl, ?_, hl2, hs2, fun k h => (ho2 k h).imp id (fun h => Nat.le_trans hsz h), (Kept.of_below hb1 hL.lo).step hk2, hn2, hr1.of_heap (hkk _ (Or.inl rfl)), ha1.of_heap (hkk _ (Or.inr rfl))⟩
  cases hr : (HD.write σ.st σ.save v).err with
  | none => rw [hr] at hx; exact hx
  | some er => rw [hr] at hx; exact ErrV.move hx hsz (fun k _ _ => rfl)

theorem dec_first (w : World) (cs : Array Value) (v : Value) (h : cs[0]? = some v) : (((w.alloc (.cells cs 38)).alloc (.cells ans0 41)).alloc (.cells ans0 41)).cell? ⟨w.heap.size, 0, none⟩ = some v := by
  have h0 : (w.alloc (.cells cs 38)).heap[w.heap.size]? = some (.cells cs 38 (0, 0)) := by show (w.heap.push _)[w.heap.size]? = _; simp
  have h1 : (((w.alloc (.cells cs 38)).alloc (.cells ans0 41)).alloc (.cells ans0 41)).heap[w.heap.size]? = some (.cells cs 38 (0, 0)) := by
    rw [Below.heap_alloc _ _ _ (by simp; omega), Below.heap_alloc _ _ _ (by simp)]; exact h0
  simp [World.cell?, h1, h]

set_option maxHeartbeats 1000000 in
set_option maxRecDepth 100000 in
theorem decWrite_any (B : Nat) (w : World) (d : Nat) (M : Emitter) (σ : HD.DS) (l : List HD.Fld) (p : DP) (aI aN aL : Addr) (G : HD.St → HD.Bs → Prop) (hS : Steps B d M aI aN aL G) (v : HD.Bs) (b : Value)
    (hL : Live B w d M σ.st l p) (hE : Env B w aI aN aL) (hV : Save B w d p.f σ.save) (hG : G σ.st (σ.save ++ v)) (hb : CmdV w (.write v) b) (hN : p.cnt + σ.st.ents.length + σ.save.length + v.length < 2 ^ 46) (hT : l.length + (σ.save ++ v).length ≤ 2 ^ 40) :
    Calls Tryd.prog 21 #[.pointer (some ⟨d, 0, none⟩), .agg #[.int .i64 0, b, .int .i64 0, .bool false]] w (DEnds B w d M l p (p.cnt + σ.st.ents.length + σ.save.length + v.length) (HD.dstep σ (.write v))) := by
  have HL := Lib.hid hL
  have HE := Lib.hid hE
  have HV := Lib.hid hV
  clear hL hE hV
  have hd : d < w.heap.size := HL.out.lt
  obtain ⟨hb0, hr0, ha0⟩ := dec_world w #[.int .i64 0, b, .int .i64 0, .bool false]
  have HB0 := Lib.hid hb0
  have HR0 := Lib.hid hr0
  have HA0 := Lib.hid ha0
  clear hb0 hr0 ha0
  obtain ⟨hl40, -, hb⟩ := hb
  have hl40 : v.length < 2 ^ 40 := hl40
  rcases hb with ⟨hv, rfl⟩ | ⟨sa, cap, hbe, hb, -⟩
  · have Hv := Lib.hid hv
    clear hv
    go_enter Tryd.func21, Tryd.ntmps21
    go_wp2_with fail
    refine (wMid B w _ d M σ l p aI aN aL G hS v _ _ HL.out HE.out HV.out hG rfl hN hT (by exact HB0.out) (by exact HR0.out) (by exact HA0.out) (Or.inl ⟨Hv.out, rfl⟩)).mono ?_
    rintro e w2 ⟨x, p', rfl, hm⟩
    have hE2' : Env B (w2.setCell ⟨w.heap.size + 1 + 1, 2, none⟩ (.int .i64 (v.length : Nat))) aI aN aL := (HE.out.below hm.kept.below).below ⟨rfl, rfl, rfl, by rw [World.size_setCell]; exact Nat.le_refl _, fun k hk => other_set (by have := HL.out.lo; omega)⟩
    have hx2 : ErrO (w.heap.size + 3) (w2.setCell ⟨w.heap.size + 1 + 1, 2, none⟩ (.int .i64 (v.length : Nat))) aI (HD.write σ.st σ.save v).err x := by
      have hx := hm.err
      cases hr : (HD.write σ.st σ.save v).err with
      | none => rw [hr] at hx; exact hx
      | some er => rw [hr] at hx; exact ErrV.move hx (Nat.le_refl _) (fun k hk _ => other_set (by omega))
    have Hra3 := Lib.hid (hm.ra.set 2 (.int .i64 (v.length : Nat)))
    have Hrr3 := Lib.hid (hm.rr.setOther (a := ⟨w.heap.size + 1 + 1, 2, none⟩) (by show w.heap.size + 1 ≠ w.heap.size + 1 + 1; omega) (.int .i64 (v.length : Nat)))
    have za2 := hm.ra.cell' (i := 2) (v := .int .i64 0) (by decide) rfl
    have zfa := fun i => hm.ra.unfrozen i none
    have Hx2 := Lib.hid hx2
    have HE2 := Lib.hid hE2'
    have Hm := Lib.hid hm
    have hBs : B ≤ w.heap.size + 3 := by have := HL.out.lo; omega
    clear hm hE2' hx2
    go_wp2_with fail
    refine (codeOf_any B (w.heap.size + 3) (HD.write σ.st σ.save v).err x aI aN aL _ (by exact HE2.out) hBs (by exact Hx2.out)).mono ?_
    rintro e w3 ⟨rfl, hb3⟩
    have hra : Row w3 (w.heap.size + 1 + 1) 6 _ := Hra3.out.below hb3 Hra3.out.lt
    have hrr : Row w3 (w.heap.size + 1) 6 _ := Hrr3.out.below hb3 Hrr3.out.lt
    have Hb3 : Hid (Below (w2.setCell ⟨w.heap.size + 1 + 1, 2, none⟩ (.int .i64 (v.length : Nat))).heap.size (w2.setCell ⟨w.heap.size + 1 + 1, 2, none⟩ (.int .i64 (v.length : Nat))) w3) := Lib.hid hb3
    clear hb3 za2 zfa
    have a0 := hra.cell' (i := 0) (v := .slice none 0 0) (by decide) rfl
    have a1 := hra.cell' (i := 1) (v := .slice none 0 0) (by decide) rfl
    have a2 := hra.cell' (i := 2) (v := .int .i64 (v.length : Nat)) (by decide) rfl
    have a3 := hra.cell' (i := 3) (v := .bool false) (by decide) rfl
    have a4 := hra.cell' (i := 4) (v := .int .i64 0) (by decide) rfl
    have a5 := hra.cell' (i := 5) (v := .int .i64 0) (by decide) rfl
    have r0 := hrr.cell' (i := 0) (v := .slice none 0 0) (by decide) rfl
    have r1 := hrr.cell' (i := 1) (v := .slice none 0 0) (by decide) rfl
    have r2 := hrr.cell' (i := 2) (v := .int .i64 0) (by decide) rfl
    have r3 := hrr.cell' (i := 3) (v := .bool false) (by decide) rfl
    have r4 := hrr.cell' (i := 4) (v := .int .i64 0) (by decide) rfl
    have r5 := hrr.cell' (i := 5) (v := .int .i64 0) (by decide) rfl
    have fza := fun i => hra.unfrozen i none
    have fzr := fun i => hrr.unfrozen i none
    go_wp2_with fail
    (try simp only [Exit.inBlock, Exit.then])
    refine bodyPost_ret (v := .agg (ansCells (.slice none 0 0) (.slice none 0 0) (v.length : Nat) (HD.dstep σ (.write v)).2)) ?_ rfl ?_
    · simp only [results, Tryd.results21]
      go_simp
      rfl
    exact DEnds.close (N := p.cnt + σ.st.ents.length + σ.save.length + v.length) (r := HD.dstep σ (.write v)) (nn := (v.length : Nat)) HL.out Hm.out.live Hm.out.save Hm.out.own Hm.out.kept Hm.out.num (FRow.nil _ _) Hm.out.rr Hm.out.ra ((Upd.refl _ w2).setCell (a := ⟨w.heap.size + 1 + 1, 2, none⟩) (Or.inl (Or.inr rfl)) (.int .i64 (v.length : Nat))) Hb3.out (ans_upd w3 w.heap.size _ _ _ _ _ _ _ _)
  · have hbe : b = .slice (some sa) v.length cap := hbe
    have hb : ∀ q u, (Lib.byteCells v)[q]? = some u → w.cell? (sa.add q) = some u := hb
    subst hbe
    have hcells : ∀ q u, (Lib.byteCells v)[q]? = some u → (((w.alloc (.cells #[.int .i64 0, .slice (some sa) v.length cap, .int .i64 0, .bool false] 38)).alloc (.cells ans0 41)).alloc (.cells ans0 41)).cell? (sa.add q) = some u := by
      intro q u hq
      have h0 := hb q u hq
      exact (HB0.out.cell (World.block_lt_of_cell? w _ h0)).trans h0
    have Hcells := Lib.hid hcells
    clear hcells hb
    have Hs0 := Lib.hid (dec_first w #[.int .i64 0, .slice (some sa) v.length cap, .int .i64 0, .bool false] (.int .i64 0) rfl)
    obtain ⟨i0, hi, hz0, hz1, hz2⟩ := info_parts infoU8
    go_enter Tryd.func21, Tryd.ntmps21
    go_wp2_with (at_builtin; go_must (refine wpList_append_own_at _ rfl _ _ 30 rfl w.heap.size 5 i0 (.int .u8 0) 1 1 Tryd.underlying30 hi hz0 hz1 hz2 rfl (by decide) (.slice none 0 0) 0 [] rfl (World.ownsRow_nil _ w.heap.size _ _) sa v.length cap (Lib.byteCells v) rfl (by rw [byteCells_len, Nat.mul_one]) (by exact Hcells.out) (Lib.byteCells_one _) (by unfold maxLen; omega) (by omega) (by simp; omega) ?_); intro v1 w1 hown1 hgrow1 _ _; rw [Nat.zero_add, List.nil_append] at hown1; have hbw1 := (Below.refl _ _).grown hgrow1 (Nat.le_refl _) (fun k hk => by cases hk); have Hown1 := Lib.hid hown1; have Hbw1 := Lib.hid hbw1; have s0 := (hbw1.cell (p := ⟨w.heap.size, 0, none⟩) (by simp; omega)).trans Hs0.out; clear hown1 hgrow1 hbw1)
    have hb1 : Below w.heap.size w w1 := HB0.out.trans (Hbw1.out.mono HB0.out.size)
    have hs1 : (v = [] ∧ v1 = .slice none 0 0) ∨ ∃ g o cap, v1 = .slice (some ⟨g, o, none⟩) v.length cap ∧ Buf w1 g o cap v ∧ IsU8 w1 g := by
      rcases Hown1.out.2 with ⟨e, h0⟩ | ⟨g1, cap1, cur, e, -⟩
      · exact Or.inl ⟨List.eq_nil_of_length_eq_zero h0, e⟩
      · have ho := Hown1.out
        rw [e] at ho
        exact Or.inr ⟨g1, 0, cap1, e, Buf.of_own ho rfl⟩
    refine (wMid B w w1 d M σ l p aI aN aL G hS v v1 _ HL.out HE.out HV.out hG rfl hN hT hb1 (HR0.out.below Hbw1.out HR0.out.lt) (HA0.out.below Hbw1.out HA0.out.lt) hs1).mono ?_
    clear hs1 hb1
    rintro e w2 ⟨x, p', rfl, hm⟩
    have hE2' : Env B (w2.setCell ⟨w.heap.size + 1 + 1, 2, none⟩ (.int .i64 (v.length : Nat))) aI aN aL := (HE.out.below hm.kept.below).below ⟨rfl, rfl, rfl, by rw [World.size_setCell]; exact Nat.le_refl _, fun k hk => other_set (by have := HL.out.lo; omega)⟩
    have hx2 : ErrO (w.heap.size + 3) (w2.setCell ⟨w.heap.size + 1 + 1, 2, none⟩ (.int .i64 (v.length : Nat))) aI (HD.write σ.st σ.save v).err x := by
      have hx := hm.err
      cases hr : (HD.write σ.st σ.save v).err with
      | none => rw [hr] at hx; exact hx
      | some er => rw [hr] at hx; exact ErrV.move hx (Nat.le_refl _) (fun k hk _ => other_set (by omega))
    have Hra3 := Lib.hid (hm.ra.set 2 (.int .i64 (v.length : Nat)))
    have Hrr3 := Lib.hid (hm.rr.setOther (a := ⟨w.heap.size + 1 + 1, 2, none⟩) (by show w.heap.size + 1 ≠ w.heap.size + 1 + 1; omega) (.int .i64 (v.length : Nat)))
    have za2 := hm.ra.cell' (i := 2) (v := .int .i64 0) (by decide) rfl
    have zfa := fun i => hm.ra.unfrozen i none
    have Hx2 := Lib.hid hx2
    have HE2 := Lib.hid hE2'
    have Hm := Lib.hid hm
    have hBs : B ≤ w.heap.size + 3 := by have := HL.out.lo; omega
    clear hm hE2' hx2
    go_wp2_with fail
    refine (codeOf_any B (w.heap.size + 3) (HD.write σ.st σ.save v).err x aI aN aL _ (by exact HE2.out) hBs (by exact Hx2.out)).mono ?_
    rintro e w3 ⟨rfl, hb3⟩
    have hra : Row w3 (w.heap.size + 1 + 1) 6 _ := Hra3.out.below hb3 Hra3.out.lt
    have hrr : Row w3 (w.heap.size + 1) 6 _ := Hrr3.out.below hb3 Hrr3.out.lt
    have Hb3 : Hid (Below (w2.setCell ⟨w.heap.size + 1 + 1, 2, none⟩ (.int .i64 (v.length : Nat))).heap.size (w2.setCell ⟨w.heap.size + 1 + 1, 2, none⟩ (.int .i64 (v.length : Nat))) w3) := Lib.hid hb3
    clear hb3 za2 zfa
    have a0 := hra.cell' (i := 0) (v := .slice none 0 0) (by decide) rfl
    have a1 := hra.cell' (i := 1) (v := .slice none 0 0) (by decide) rfl
    have a2 := hra.cell' (i := 2) (v := .int .i64 (v.length : Nat)) (by decide) rfl
    have a3 := hra.cell' (i := 3) (v := .bool false) (by decide) rfl
    have a4 := hra.cell' (i := 4) (v := .int .i64 0) (by decide) rfl
    have a5 := hra.cell' (i := 5) (v := .int .i64 0) (by decide) rfl
    have r0 := hrr.cell' (i := 0) (v := .slice none 0 0) (by decide) rfl
    have r1 := hrr.cell' (i := 1) (v := .slice none 0 0) (by decide) rfl
    have r2 := hrr.cell' (i := 2) (v := .int .i64 0) (by decide) rfl
    have r3 := hrr.cell' (i := 3) (v := .bool false) (by decide) rfl
    have r4 := hrr.cell' (i := 4) (v := .int .i64 0) (by decide) rfl
    have r5 := hrr.cell' (i := 5) (v := .int .i64 0) (by decide) rfl
    have fza := fun i => hra.unfrozen i none
    have fzr := fun i => hrr.unfrozen i none
    go_wp2_with fail
    (try simp only [Exit.inBlock, Exit.then])
    refine bodyPost_ret (v := .agg (ansCells (.slice none 0 0) (.slice none 0 0) (v.length : Nat) (HD.dstep σ (.write v)).2)) ?_ rfl ?_
    · simp only [results, Tryd.results21]
      go_simp
      rfl
    exact DEnds.close (N := p.cnt + σ.st.ents.length + σ.save.length + v.length) (r := HD.dstep σ (.write v)) (nn := (v.length : Nat)) HL.out Hm.out.live Hm.out.save Hm.out.own Hm.out.kept Hm.out.num (FRow.nil _ _) Hm.out.rr Hm.out.ra ((Upd.refl _ w2).setCell (a := ⟨w.heap.size + 1 + 1, 2, none⟩) (Or.inl (Or.inr rfl)) (.int .i64 (v.length : Nat))) Hb3.out (ans_upd w3 w.heap.size _ _ _ _ _ _ _ _)
end Go.Proofs.YtjdmaflkafmmpaaDoor
/-
  The entry of an index: maxTableIndex, at.
-/
namespace Go.Proofs.YtjdmaflkafmmpaaDoor
open Go.ChangeShapes Go.WideShapes Go.ChangeAt Go.RowKit

theorem Calls.wk {P : Program} {f : FuncId} {args : Array Value} {w : World} {Q R : Ending → World → Prop} (h : Calls P f args w Q) (hq : ∀ e w', Q e w' → R e w') : Calls P f args w R := h.mono hq

/-- The static table's struct, read. -/
theorem StatMem.c1 {n0 : Nat} {w : World} {B : Bl} (h : StatMem n0 w B) : w.cell? ⟨B.x, 1, none⟩ = some (.slice (some ⟨B.g, 0, none⟩) 61 61) := (Lib.cell_of_heap h.x.2 1).trans rfl
theorem StatMem.ent {n0 : Nat} {w : World} {B : Bl} (h : StatMem n0 w B) (k : Nat) (hk : k < 61) : ∃ e, HD.static[k]? = some e ∧ w.cell? ⟨B.g, k * 3, none⟩ = some (.string ⟨e.1.toArray⟩) ∧ w.cell? ⟨B.g, k * 3 + 1, none⟩ = some (.string ⟨e.2.toArray⟩) ∧ w.cell? ⟨B.g, k * 3 + 2, none⟩ = some (.bool false) := by
  have hk' : k < HD.static.length := by rw [HD.static_len]; exact hk
  obtain ⟨h0, h1, h2⟩ := entCells_at HD.static k hk'
  have key : ∀ j v, (entCells HD.static)[j]? = some v → w.cell? ⟨B.g, j, none⟩ = some v := fun j v hv => by
    rw [Lib.cell_of_heap h.g.2, List.getElem?_toArray]; exact hv
  exact ⟨_, List.getElem?_eq_getElem hk', key _ _ h0, key _ _ h1, key _ _ h2⟩

theorem maxIdx_any (d k c : Nat) (a : Option Addr) (w : World) (h : w.cell? ⟨d, 1, none⟩ = some (.slice a k c)) (hk : k ≤ 2 ^ 40) :
    Calls Tryd.prog 83 #[.pointer (some ⟨d, 0, none⟩)] w fun e w' => e = .returned (.int .i64 ((k + 61 : Nat) : Int)) ∧ Below w.heap.size w w' := by
  go_enter Tryd.func83, Tryd.ntmps83
  go_wp2_with fail
  refine (len_any d k c a _ (by exact h)).mono ?_
  rintro e w1 ⟨rfl, rfl⟩
  go_wp2_with fail
  refine (static_any _).mono ?_
  rintro e w2 ⟨Bs, rfl, hS, hb⟩
  have Hb := Lib.hid hb
  have hc := hS.c1
  clear hS hb
  go_wp2_with fail
  refine (len_any Bs.x 61 61 _ _ (by exact hc)).mono ?_
  rintro e w3 ⟨rfl, rfl⟩
  go_wp2_with fail
  go_ret
  exact ⟨ret_int (by omega), Hb.out⟩

def atVal : Option (HD.Bs × HD.Bs) → Value
  | some e => .tuple #[.agg #[.string ⟨e.1.toArray⟩, .string ⟨e.2.toArray⟩, .bool false], .bool true]
  | none => .tuple #[.agg #[.string ByteArray.empty, .string ByteArray.empty, .bool false], .bool false]

def hf0 : Array Value := #[.string ByteArray.empty, .string ByteArray.empty, .bool false]
theorem hf_row (w : World) : Row (w.alloc (.cells hf0 57)) w.heap.size 3 (fun j => hf0.getD j undef) :=
  Row.new w 57 (by decide) (n := 3) rfl (fun i hi => by rw [Array.getD_eq_getD_getElem?, Array.getElem?_eq_getElem (show i < hf0.size from hi)]; rfl)
set_option maxHeartbeats 1000000 in
set_option maxRecDepth 100000 in
theorem at_any (B : Nat) (w : World) (d n : Nat) (f : Nat → Value) (ents : List (HD.Bs × HD.Bs)) (cnt : Nat) (ev : Value) (m1 m2 : Nat) (l1 : List (HD.Bs × Nat)) (l2 : List ((HD.Bs × HD.Bs) × Nat)) (i : Nat)
    (hT : TabMem B w d n f ents cnt ev m1 m2 l1 l2) (hl : ents.length ≤ 2 ^ 40) (hi : i < 255 + 2 ^ 63) :
    Calls Tryd.prog 75 #[.pointer (some ⟨d, 0, none⟩), .int .u64 (i : Nat)] w fun e w' => e = .returned (atVal (HD.entAt ents i)) ∧ Below w.heap.size w w' := by
  rcases Nat.eq_zero_or_pos i with rfl | hpos
  · have he : HD.entAt ents 0 = none := by simp [HD.entAt]
    rw [he]
    go_enter Tryd.func75, Tryd.ntmps75
    go_wp2_with fail
    (try simp only [Exit.inBlock, Exit.then])
    refine bodyPost_ret (v := atVal none) ?_ rfl ?_
    · simp only [results, Tryd.results75]
      go_simp
      rfl
    exact ⟨rfl, (Below.refl _ _).alloc (Nat.le_refl _) _⟩
  have d0 : decide ((i : Int) = 0) = false := by simp; omega
  rcases Nat.lt_or_ge i 62 with h61 | h61
  · obtain ⟨k, rfl⟩ : ∃ k, i = k + 1 := ⟨i - 1, by omega⟩
    have d1 : decide ((k + 1 : Nat) ≤ 61) = true := decide_eq_true (by omega)
    obtain ⟨es, hes⟩ : ∃ es, HD.static[k]? = some es := ⟨_, List.getElem?_eq_getElem (by rw [HD.static_len]; omega)⟩
    have hen : HD.entAt ents (k + 1) = some es := by unfold HD.entAt; rw [if_neg (by omega), if_pos (by omega)]; simpa using hes
    rw [hen]
    have Hes := Lib.hid hes
    clear hes hen
    go_enter Tryd.func75, Tryd.ntmps75
    go_wp2_with fail
    refine (static_any _).mono ?_
    rintro e w2 ⟨Bs, rfl, hS, hb⟩
    have Hb := Lib.hid hb
    have hc := hS.c1
    clear hS hb
    go_wp2_with fail
    refine (len_any Bs.x 61 61 _ _ (by exact hc)).mono ?_
    rintro e w3 ⟨rfl, rfl⟩
    have hlo : w.heap.size + 1 ≤ w2.heap.size := by have := Hb.out.size; simpa using this
    have Hc0 := Lib.hid (Hb.out.block w.heap.size (by simp))
    go_wp2_with fail
    refine (static_any _).mono ?_
    rintro e w4 ⟨B2, rfl, hS2, hb2⟩
    have hc2 := hS2.c1
    obtain ⟨es', hes, q0, q1, q2⟩ := hS2.ent k (by omega)
    have hr4 : Row w4 w.heap.size 3 (fun j => hf0.getD j undef) := ((hf_row w).of_heap Hc0.out).of_heap (hb2.block w.heap.size (by omega))
    have t0 := hr4.cell' (i := 0) (v := .string ByteArray.empty) (by decide) rfl
    have t1 := hr4.cell' (i := 1) (v := .string ByteArray.empty) (by decide) rfl
    have t2 := hr4.cell' (i := 2) (v := .bool false) (by decide) rfl
    have tf := fun j => hr4.unfrozen j none
    have Hr4 := Lib.hid hr4
    have Hb4 : Hid (Below w.heap.size w w4) := Lib.hid ((((Below.refl _ w).alloc (Nat.le_refl _) _).trans (Hb.out.mono (by simp))).trans (hb2.mono (by omega)))
    have hne : B2.g ≠ w.heap.size := by have := hS2.g.1; omega
    obtain rfl : es' = es := by rw [Hes.out] at hes; exact (Option.some.inj hes).symm
    clear hS2 hb2 hr4 hes
    go_wp2_with fail
    (try simp only [Exit.inBlock, Exit.then])
    refine bodyPost_ret (v := atVal (some es')) ?_ rfl ?_
    · simp only [results, Tryd.results75]
      go_simp
      rfl
    exact ⟨rfl, ((Hb4.out.setCell (by exact Nat.le_refl _) _).setCell (by exact Nat.le_refl _) _).setCell (by exact Nat.le_refl _) _⟩
  · have d1 : decide (i ≤ 61) = false := decide_eq_false (by omega)
    obtain ⟨ea, ec, hev⟩ := own_form hT.own
    have HT := Lib.hid hT
    have Hev := Lib.hid hev
    have hdl := hT.row.lt
    clear hT hev
    rcases Nat.lt_or_ge (ents.length + 61) i with hgt | hle
    · have hen : HD.entAt ents i = none := by unfold HD.entAt; rw [if_neg (by omega), if_neg (by omega), if_neg (by omega)]
      have d2 : decide (((ents.length + 61 : Nat) : Int) < (i : Int)) = true := decide_eq_true (by omega)
      rw [hen]
      go_enter Tryd.func75, Tryd.ntmps75
      go_wp2_with fail
      refine (static_any _).mono ?_
      rintro e w2 ⟨Bs, rfl, hS, hb⟩
      have Hb := Lib.hid hb
      have hc := hS.c1
      clear hS hb
      go_wp2_with fail
      refine (len_any Bs.x 61 61 _ _ (by exact hc)).mono ?_
      rintro e w3 ⟨rfl, rfl⟩
      have hlo : w.heap.size + 1 ≤ w2.heap.size := by have := Hb.out.size; simpa using this
      have Hc0 := Lib.hid (Hb.out.block w.heap.size (by simp))
      have hb2 := ((Below.refl _ w).alloc (Nat.le_refl _) _).trans (Hb.out.mono (by simp))
      have c1 := (HT.out.below hb2).row.cell' (i := 1) (by have := HT.out.big; omega) (HT.out.c1.trans Hev.out)
      have Hb2 := Lib.hid hb2
      clear hb2 hc
      go_wp2_with fail
      refine (maxIdx_any d ents.length ec ea _ (by exact c1) hl).mono ?_
      rintro e w4 ⟨rfl, hb4⟩
      have hr4 : Row w4 w.heap.size 3 (fun j => hf0.getD j undef) := ((hf_row w).of_heap Hc0.out).of_heap (hb4.block w.heap.size (by omega))
      have t0 := hr4.cell' (i := 0) (v := .string ByteArray.empty) (by decide) rfl
      have t1 := hr4.cell' (i := 1) (v := .string ByteArray.empty) (by decide) rfl
      have t2 := hr4.cell' (i := 2) (v := .bool false) (by decide) rfl
      have Hb4 := Lib.hid (Hb2.out.trans (hb4.mono Hb2.out.size))
      clear hb4 hr4 c1
      go_wp2_with fail
      (try simp only [Exit.inBlock, Exit.then])
      refine bodyPost_ret (v := atVal none) ?_ rfl ?_
      · simp only [results, Tryd.results75]
        go_simp
        rfl
      exact ⟨rfl, Hb4.out⟩
    · obtain ⟨k, rfl⟩ : ∃ k, i = k + 62 := ⟨i - 62, by omega⟩
      have hk : k < ents.length := by omega
      obtain ⟨q, hq⟩ : ∃ q, q = ents.length - 1 - k := ⟨_, rfl⟩
      have hql : q < ents.length := by omega
      obtain ⟨es, hes⟩ : ∃ es, es = ents[q] := ⟨_, rfl⟩
      have hen : HD.entAt ents (k + 62) = some es := by unfold HD.entAt; rw [if_neg (by omega), if_neg (by omega), if_pos (by omega), hes, ← List.getElem?_eq_getElem hql]; congr 1; omega
      have d2 : decide (((ents.length + 61 : Nat) : Int) < ((k + 62 : Nat) : Int)) = false := decide_eq_false (by omega)
      rw [hen]
      have hkw : IntKind.i64.wrap ((k : Int) + 62) = (k : Int) + 62 := by rw [IntKind.wrap_i64]; omega
      have hkw2 : IntKind.i64.wrap ((k : Int) + 62 - 61) = (k : Int) + 1 := by rw [IntKind.wrap_i64]; omega
      have hkw3 : IntKind.i64.wrap ((ents.length : Int) - ((k : Int) + 1)) = (q : Int) := by rw [IntKind.wrap_i64]; omega
      have hqI : (q : Int) < (ents.length : Int) := by omega
      clear hq
      have Hes := Lib.hid hes
      clear hes hen
      go_enter Tryd.func75, Tryd.ntmps75
      go_wp2_with fail
      refine (static_any _).mono ?_
      rintro e w2 ⟨Bs, rfl, hS, hb⟩
      have Hb := Lib.hid hb
      have hc := hS.c1
      clear hS hb
      go_wp2_with fail
      refine (len_any Bs.x 61 61 _ _ (by exact hc)).mono ?_
      rintro e w3 ⟨rfl, rfl⟩
      have hlo : w.heap.size + 1 ≤ w2.heap.size := by have := Hb.out.size; simpa using this
      have Hc0 := Lib.hid (Hb.out.block w.heap.size (by simp))
      have hb2 := ((Below.refl _ w).alloc (Nat.le_refl _) _).trans (Hb.out.mono (by simp))
      have c1 := (HT.out.below hb2).row.cell' (i := 1) (by have := HT.out.big; omega) (HT.out.c1.trans Hev.out)
      have Hb2 := Lib.hid hb2
      clear hb2 hc
      go_wp2_with fail
      refine (maxIdx_any d ents.length ec ea _ (by exact c1) hl).mono ?_
      rintro e w4 ⟨rfl, hb4⟩
      have hr4 : Row w4 w.heap.size 3 (fun j => hf0.getD j undef) := ((hf_row w).of_heap Hc0.out).of_heap (hb4.block w.heap.size (by omega))
      have hb5 := Hb2.out.trans (hb4.mono Hb2.out.size)
      have hT4 := HT.out.below hb5
      have hbig := HT.out.big
      have e0 := hT4.row.cell' (i := 0) (by omega) HT.out.c0
      have e1 := hT4.row.cell' (i := 1) (by omega) (HT.out.c1.trans Hev.out)
      have e2 := hT4.row.cell' (i := 2) (by omega) HT.out.c2
      have e3 := hT4.row.cell' (i := 3) (by omega) HT.out.c3
      have e4 := hT4.row.cell' (i := 4) (by omega) HT.out.c4
      have Hr4 := Lib.hid hr4
      have Hb4 := Lib.hid hb5
      have HT4 := Lib.hid hT4
      have hlo4 : w.heap.size + 1 ≤ w4.heap.size := Nat.le_trans hlo hb4.size
      clear hb4 hr4 c1 hb5 hT4
      go_wp2_with fail
      have hS0 : (w4.alloc (.cells #[.bool false, .slice ea ents.length ec, .int .u64 (cnt : Nat), .map (some m1), .map (some m2)] 70)).cell? ⟨w4.heap.size, 1, none⟩ = some (.slice ea ents.length ec) := (Lib.cell_of_heap (heap_alloc_new w4 _) 1).trans rfl
      have hb45 : Below w4.heap.size w4 (w4.alloc (.cells #[.bool false, .slice ea ents.length ec, .int .u64 (cnt : Nat), .map (some m1), .map (some m2)] 70)) := (Below.refl _ _).alloc (Nat.le_refl _) _
      have hs45 : (w4.alloc (.cells #[.bool false, .slice ea ents.length ec, .int .u64 (cnt : Nat), .map (some m1), .map (some m2)] 70)).heap.size = w4.heap.size + 1 := by simp
      generalize w4.alloc (.cells #[.bool false, .slice ea ents.length ec, .int .u64 (cnt : Nat), .map (some m1), .map (some m2)] 70) = W5 at hS0 hb45 hs45 ⊢
      have HS0 := Lib.hid hS0
      have Hb45 := Lib.hid hb45
      clear hS0 hb45
      refine wp_region_held_drew (S := (fun w' => w'.cell? ⟨w4.heap.size, 1, none⟩ = some (.slice ea ents.length ec))) (by kernel_rfl) ((by exact HS0.out)) (fun hHeld => ?_)
      refine takeH 0 (v := ?_) rfl rfl (by kernel_rfl) (by kernel_rfl) (by kernel_rfl) (fun _ _ _ h => h) (Or.inl ⟨by rfl, ?_⟩) (by assumption) ?_
      rotate_left
      · (intro w hSw; (try dsimp only at hSw); go_simp <;> with_reducible rfl)
      simp only [List.setIfInBounds_toArray, List.set_cons_zero, List.set_cons_succ]
      refine takeH 1 (v := ?_) rfl rfl (by kernel_rfl) (by kernel_rfl) (by kernel_rfl) (fun _ _ _ h => h) (Or.inl ⟨by rfl, ?_⟩) (by assumption) ?_
      rotate_left
      · (intro w hSw; (try dsimp only at hSw); go_simp <;> with_reducible rfl)
      simp only [List.setIfInBounds_toArray, List.set_cons_zero, List.set_cons_succ]
      refine takeH 3 (v := ?_) rfl rfl (by kernel_rfl) (by kernel_rfl) (by kernel_rfl) (fun _ _ _ h => h) (Or.inl ⟨by rfl, ?_⟩) (by assumption) ?_
      rotate_left
      · (intro w hSw; (try dsimp only at hSw); go_simp <;> with_reducible rfl)
      simp only [List.setIfInBounds_toArray, List.set_cons_zero, List.set_cons_succ]
      refine takeH 4 (v := ?_) rfl rfl (by kernel_rfl) (by kernel_rfl) (by kernel_rfl) (fun _ _ _ h => h) (Or.inl ⟨by rfl, ?_⟩) (by assumption) ?_
      rotate_left
      · (intro w hSw; (try dsimp only at hSw); go_simp <;> with_reducible rfl)
      simp only [List.setIfInBounds_toArray, List.set_cons_zero, List.set_cons_succ]
      refine wpAnyH_ready (rs := [2]) (by kernel_rfl) (by simp) ?_
      refine AllReadyH.cons rfl (fun K hK => ?_) AllReadyH.nil
      go_simp
      refine (len_any w4.heap.size ents.length ec ea _ (by exact HS0.out)).mono ?_
      rintro e w5 ⟨rfl, rfl⟩
      go_simp
      refine hK.out _ _ (by exact HS0.out) (fun hHeld => ?_)
      clear hK K
      refine wpAnyH_ready (rs := [5]) (by kernel_rfl) (by simp) ?_
      refine AllReadyH.cons rfl (fun K hK => ?_) AllReadyH.nil
      go_simp
      refine (static_any _).mono ?_
      rintro e w6 ⟨B6, rfl, hS6, hb6⟩
      go_simp
      have HS6 := Lib.hid ((hb6.cell (p := ⟨w4.heap.size, 1, none⟩) (by show w4.heap.size < W5.heap.size; omega)).trans HS0.out)
      have Hc6 := Lib.hid hS6.c1
      have hb46 : Below w4.heap.size w4 w6 := Hb45.out.trans ⟨hb6.os, hb6.tape, hb6.output, hb6.size, fun k hk => hb6.block k (by show k < W5.heap.size; omega)⟩
      have Hb6 : Hid (Below w.heap.size w w6) := Lib.hid (Hb4.out.trans (hb46.mono (by omega)))
      have hT6 := HT4.out.below hb46
      have hr6 := Hr4.out.of_heap (hb46.block w.heap.size (by omega))
      have hown6 := hT6.own
      rw [Hev.out] at hown6
      obtain ⟨g, rfl⟩ : ∃ g, ea = some ⟨g, 0, none⟩ := by
        rcases hown6.2 with ⟨e, h0⟩ | ⟨g, cap, cur, e, -⟩
        · omega
        · injection e with e1 e2 e3
          exact ⟨g, e1⟩
      obtain ⟨q0, q1, q2⟩ := entCells_at ents q hql
      have hcl : ∀ j v, (entCells ents)[j]? = some v → w6.cell? ⟨g, j, none⟩ = some v := fun j v hv => by
        have := hown6.cells (g := g) rfl j v hv
        rwa [Lib.addr_add, Nat.zero_add] at this
      have z0 := hcl _ _ q0
      have z1 := hcl _ _ q1
      have z2 := hcl _ _ q2
      rw [← Hes.out] at z0 z1
      have hgw : g ≠ w.heap.size := fun e => by
        have := (HT.out.own.lt g (by rw [Hev.out]; rfl)).2
        omega
      have t0 := hr6.cell' (i := 0) (v := .string ByteArray.empty) (by decide) rfl
      have t1 := hr6.cell' (i := 1) (v := .string ByteArray.empty) (by decide) rfl
      have t2 := hr6.cell' (i := 2) (v := .bool false) (by decide) rfl
      have tf := fun j => hr6.unfrozen j none
      have Hr6 := Lib.hid hr6
      clear hcl q0 q1 q2 hb6 hb46 hS6 hT6 hown6 hr6
      refine hK.out _ _ (by exact HS6.out) (fun hHeld => ?_)
      clear hK K
      refine wpAnyH_ready (rs := [6]) (by kernel_rfl) (by simp) ?_
      refine AllReadyH.cons rfl (fun K hK => ?_) AllReadyH.nil
      go_simp
      refine (len_any B6.x 61 61 _ _ (by exact Hc6.out)).mono ?_
      rintro e w7 ⟨rfl, rfl⟩
      go_simp
      refine hK.out _ _ (by exact HS6.out) (fun hHeld => ?_)
      clear hK K
      refine takeH 7 (v := ?_) rfl rfl (by kernel_rfl) (by kernel_rfl) (by kernel_rfl) (fun _ _ _ h => h) (Or.inl ⟨by rfl, ?_⟩) (by assumption) ?_
      rotate_left
      · (intro w hSw; (try dsimp only at hSw); go_simp <;> with_reducible rfl)
      simp only [List.setIfInBounds_toArray, List.set_cons_zero, List.set_cons_succ]
      refine takeH 8 (v := ?_) rfl rfl (by kernel_rfl) (by kernel_rfl) (by kernel_rfl) (fun _ _ _ h => h) (Or.inl ⟨by rfl, ?_⟩) (by assumption) ?_
      rotate_left
      · (intro w hSw; (try dsimp only at hSw); go_simp <;> with_reducible rfl)
      simp only [List.setIfInBounds_toArray, List.set_cons_zero, List.set_cons_succ]
      refine wpAnyH_ready (rs := [9]) (by kernel_rfl) (by simp) ?_
      refine AllReadyH.cons rfl (fun K hK => ?_) AllReadyH.nil
      go_simp
      refine hK.out _ _ (by exact HS6.out) (fun hHeld => ?_)
      clear hK K
      refine wpAnyH_ready (rs := [10]) (by kernel_rfl) (by simp) ?_
      refine AllReadyH.cons rfl (fun K hK => ?_) AllReadyH.nil
      go_simp
      refine hK.out _ _ (by exact HS6.out) (fun hHeld => ?_)
      clear hK K
      refine wpAnyH_ready (rs := [11]) (by kernel_rfl) (by simp) ?_
      refine AllReadyH.cons rfl (fun K hK => ?_) AllReadyH.nil
      go_simp
      have hb46 : w4.heap.size ≠ w.heap.size := by omega
      refine hK.out _ _ (by exact (World.cell?_of_block (a := ⟨w4.heap.size, 1, none⟩) ((other_set (Ne.symm hb46)).trans ((other_set (Ne.symm hb46)).trans (other_set (Ne.symm hb46))))).trans HS6.out) (fun hHeld => ?_)
      clear hK K
      refine takeH 12 (v := ?_) rfl rfl (by kernel_rfl) (by kernel_rfl) (by kernel_rfl) (fun _ _ _ h => h) (Or.inl ⟨by rfl, ?_⟩) (by assumption) ?_
      rotate_left
      · (intro w hSw; (try dsimp only at hSw); go_simp <;> with_reducible rfl)
      simp only [List.setIfInBounds_toArray, List.set_cons_zero, List.set_cons_succ]
      refine wpAnyH_done (by kernel_rfl) ?_ _
      go_wp2_with fail
      (try simp only [Exit.inBlock, Exit.then])
      refine bodyPost_ret (v := atVal (some es)) ?_ rfl ?_
      · simp only [results, Tryd.results75]
        go_simp
        rfl
      exact ⟨rfl, ((Hb6.out.setCell (by exact Nat.le_refl _) _).setCell (by exact Nat.le_refl _) _).setCell (by exact Nat.le_refl _) _⟩
end Go.Proofs.YtjdmaflkafmmpaaDoor
/-
  parseFieldIndexed.
-/
namespace Go.Proofs.YtjdmaflkafmmpaaDoor
open Go.ChangeShapes Go.WideShapes Go.ChangeAt Go.RowKit

/-- The rest is kept, a field may have been told. -/
theorem REnds.tell {B : Nat} {w w2 w3 : World} {d g : Nat} {M : Emitter} {s : HD.St} {l : List HD.Fld} {p p2 : DP} {aI aN : Addr} {ents : List (HD.Bs × HD.Bs)} {o2 cap2 : Nat} {rest : HD.Bs} {f : HD.Fld}
    (h2 : Live B w2 d M { s with ents := ents } l p2) (hown : ∀ k, p2.own d k → p.own d k ∨ w.heap.size ≤ k) (hf : ∀ i, 9 ≤ i → i ≠ 11 → p2.f i = p.f i) (h11 : p2.f 11 = .slice (some ⟨g, o2, none⟩) rest.length cap2) (hb : Buf w2 g o2 cap2 rest) (hu : Upd (p.own d) w w2)
    (hn : p2.cnt + ents.length ≤ p.cnt + s.ents.length + 1) (hg : IsU8 w2 g) {E' : Nat → Prop} (h3 : Live B w3 d M { s with ents := ents } (l ++ (HD.tell s f).toList) { p2 with E := E' }) (hE : ∀ k, E' k → p2.E k ∨ w2.heap.size ≤ k) (hu3 : Upd p2.E w2 w3) :
    REnds B w d g M s l p aI aN (.ok ents s.max (HD.tell s f) rest) (.returned .nilIface) w3 := by
  have hsz : w.heap.size ≤ w2.heap.size := hu.size
  refine ⟨rfl, { p2 with E := E' }, o2, cap2, h3, fun k hk => ?_, hf, h11, ?_, ?_, hn⟩
  · rcases hk with hk | hk
    · exact hown k (Or.inl hk)
    · rcases hE k hk with h | h
      · exact hown k (Or.inr h)
      · exact Or.inr (Nat.le_trans hsz h)
  · refine hb.kept fun _ => hu3.block g hg.lt fun h => h2.kind hg (Or.inr h)
  · refine hu.trans hu3 (fun i hi h => ?_)
    rcases hown i (Or.inr h) with h' | h'
    · exact h'
    · omega

set_option maxRecDepth 100000 in
theorem errV_index {n : Nat} {w' : World} {aI : Addr} (i : Nat) : ErrV n w' aI (.index i) (.iface 101 (.agg #[.iface 103 (.int .i64 (wrap64 (i : Nat)))])) := by
  have hw : IntKind.i64.wrap ((i : Nat) : Int) = wrap64 (i : Int) := by simp only [IntKind.wrap_i64, wrap64]
  simp only [ErrV, hw]
set_option maxHeartbeats 2000000 in
set_option maxRecDepth 100000 in
theorem pIdx_any (B : Nat) (w : World) (d g o cap : Nat) (M : Emitter) (hM : EmOk B M) (s : HD.St) (l : List HD.Fld) (p : DP) (aI aN aL : Addr) (v : HD.Bs)
    (hL : Live B w d M s l p) (hE : Env B w aI aN aL) (hb : Buf w g o cap v) (hg : IsU8 w g) (h11 : p.f 11 = .slice (some ⟨g, o, none⟩) v.length cap) (hl : l.length ≤ 2 ^ 40) :
    Calls Tryd.prog 67 #[.pointer (some ⟨d, 0, none⟩)] w (REnds B w d g M s l p aI aN (HD.pIdx s v)) := by
  have c11 := hL.row.cell' (i := 11) (by decide) h11
  have HL := Lib.hid hL
  have HE := Lib.hid hE
  have HB := Lib.hid hb
  have Hg := Lib.hid hg
  have HM := Lib.hid hM
  have Hl := Lib.hid hl
  have hdl := hL.lt
  have HP : Hid (HD.pIdx s v = match HD.rvi 7 v with
    | .more => .more
    | .over => .bad .coding
    | .ok n rest => match HD.entAt s.ents n with
      | none => .bad (.index n)
      | some e => .ok s.ents s.max (HD.tell s ⟨e.1, e.2, false⟩) rest) := Lib.hid rfl
  clear hL hE hb hg h11 hM hl
  go_enter Tryd.func67, Tryd.ntmps67
  go_wp2_with fail
  refine (varInt_any 7 (by decide) _ g o cap v _ HB.out HE.out.eN).mono ?_
  rintro e w1 ⟨hv, hb1⟩
  have Hb1 := Lib.hid hb1
  have HL1 := Lib.hid (HL.out.below hb1)
  clear hb1 c11
  cases hr : HD.rvi 7 v with
  | more =>
    rw [hr] at hv HP
    obtain ⟨s0, rfl⟩ := hv
    clear hr
    go_wp2_with fail
    go_ret
    rw [HP.out]
    exact ⟨rfl, Hb1.out⟩
  | over =>
    rw [hr] at hv HP
    obtain ⟨s0, a, rfl, ha⟩ := hv
    clear hr
    unfold codingErr
    go_wp2_with fail
    go_ret
    rw [HP.out]
    exact ⟨⟨_, rfl, a, rfl, ha⟩, Hb1.out⟩
  | ok n rest =>
    have hlt := HD.rvi_lt (by decide) hr
    rw [hr] at hv HP
    obtain ⟨o1, cap1, rfl, hbr⟩ := hv
    have HBr := Lib.hid hbr
    have HP2 : Hid (HD.pIdx s v = match HD.entAt s.ents n with
      | none => .bad (.index n)
      | some e => .ok s.ents s.max (HD.tell s ⟨e.1, e.2, false⟩) rest) := HP.out
    clear hr hbr HP
    go_wp2_with fail
    have hents : s.ents.length ≤ 2 ^ 40 := by
      have h1 := tsize_ge s.ents
      have h2 := HL.out.ok.size
      have h3 := HL.out.ok.max
      omega
    refine (at_any B _ d 16 p.f s.ents p.cnt p.ev p.m1 p.m2 p.l1 p.l2 n HL1.out.mem.tab hents hlt).mono ?_
    rintro e w2 ⟨rfl, hb2⟩
    cases hent : HD.entAt s.ents n with
    | none =>
      rw [hent] at HP2
      have Hb2 := Lib.hid (Hb1.out.trans (hb2.mono Hb1.out.size))
      clear hb2 hent
      unfold atVal
      go_wp2_with fail
      go_ret
      rw [HP2.out]
      exact ⟨⟨_, rfl, errV_index n⟩, Hb2.out.alloc Hb2.out.size _⟩
    | some es =>
      rw [hent] at HP2
      have HL2 := Lib.hid (HL1.out.below hb2)
      have hr2 := HL2.out.row
      have e11 := hr2.cell (i := 11) (by decide)
      have fz := fun i => hr2.unfrozen i none
      have hd2 : d < w2.heap.size := hr2.lt
      have hne : d ≠ w2.heap.size := Nat.ne_of_lt hd2
      have Hb2 := Lib.hid (Hb1.out.trans (hb2.mono Hb1.out.size))
      have Hb12 := Lib.hid hb2
      clear hb2 hent hr2
      unfold atVal
      go_wp2_with fail
      have hl3 : Live B (w2.setCell ⟨d, 11, none⟩ (.slice (some ⟨g, o1, none⟩) rest.length cap1)) d M s l { p with f := putF p.f 11 (.slice (some ⟨g, o1, none⟩) rest.length cap1) } :=
        HL2.out.put (b := s.first) (HL2.out.row.set 11 _) (fun i hi => by simp only [putF]; rw [if_neg (by omega)]) (by simp [putF, HL2.out.mem.first]) (fun k hk _ => other_set (Ne.symm hk))
      have hs3 : (w2.setCell ⟨d, 11, none⟩ (.slice (some ⟨g, o1, none⟩) rest.length cap1)).heap.size = w2.heap.size := World.size_setCell _ _ _
      have hu3 : Upd (p.own d) w (w2.setCell ⟨d, 11, none⟩ (.slice (some ⟨g, o1, none⟩) rest.length cap1)) := (Upd.of_below Hb2.out).setCell (a := ⟨d, 11, none⟩) (Or.inl (Or.inl (Or.inl rfl))) _
      have hg2 : IsU8 w2 g := Hg.out.of_heap (Hb2.out.block g Hg.out.lt)
      have hgd : d ≠ g := fun e => HL2.out.kind hg2 (e ▸ Or.inl (Or.inl rfl))
      have hg3 : IsU8 (w2.setCell ⟨d, 11, none⟩ (.slice (some ⟨g, o1, none⟩) rest.length cap1)) g := hg2.of_heap (other_set hgd)
      have hb3 : Buf (w2.setCell ⟨d, 11, none⟩ (.slice (some ⟨g, o1, none⟩) rest.length cap1)) g o1 cap1 rest := by
        refine HBr.out.kept fun _ => (other_set hgd).trans ?_
        exact (Hb12.out.block g (Nat.lt_of_lt_of_le Hg.out.lt Hb1.out.size))
      generalize w2.setCell ⟨d, 11, none⟩ (.slice (some ⟨g, o1, none⟩) rest.length cap1) = w3 at hl3 hs3 hu3 hg3 hb3 ⊢
      have Hl3 := Lib.hid hl3
      have Hu3 := Lib.hid hu3
      have Hg3 := Lib.hid hg3
      have Hb3 := Lib.hid hb3
      clear hl3 hu3 hg3 hb3
      have hb4 : Below w3.heap.size w3 (w3.alloc (.cells #[.string ⟨es.1.toArray⟩, .string ⟨es.2.toArray⟩, .bool false] 57)) := (Below.refl _ _).alloc (Nat.le_refl _) _
      refine (callEmit_any B _ d M HM.out s l _ ⟨es.1, es.2, false⟩ (Hl3.out.below hb4) Hl.out).mono ?_
      rintro e w5 ⟨rfl, E', hl5, hE5, hu5⟩
      have Hl5 := Lib.hid hl5
      have HE5 := Lib.hid hE5
      have Hu5 := Lib.hid hu5
      clear hl5 hE5 hu5
      go_wp2_with fail
      go_ret
      rw [HP2.out]
      exact REnds.tell (Hl3.out.below hb4) (fun k h => Or.inl h) (fun i hi h => by simp only [putF]; rw [if_neg h]) (by simp [putF]) (Hb3.out.below hb4) (Hu3.out.step (Upd.of_below hb4)) (by simp) (Hg3.out.of_heap (hb4.block g Hg3.out.lt)) Hl5.out HE5.out Hu5.out
end Go.Proofs.YtjdmaflkafmmpaaDoor
/-
  parseFieldLiteral.
-/
namespace Go.Proofs.YtjdmaflkafmmpaaDoor
open Go.ChangeShapes Go.WideShapes Go.ChangeAt Go.RowKit

theorem itIdx_any (it : Int) (ix : Bool) (h : decide (it = 0) = ix) (w : World) : Calls Tryd.prog 77 #[.int .i64 it] w fun e w' => e = .returned (.bool ix) ∧ w' = w := by
  subst h
  go_enter Tryd.func77, Tryd.ntmps77
  go_wp2
  go_ret
  exact ⟨ret_bool (by rw [Bool.eq_iff_iff]; simp), rfl⟩
theorem sensitive_any (it : Int) (ix : Bool) (h : decide (it = 2) = ix) (w : World) : Calls Tryd.prog 80 #[.int .i64 it] w fun e w' => e = .returned (.bool ix) ∧ w' = w := by
  subst h
  go_enter Tryd.func80, Tryd.ntmps80
  go_wp2
  go_ret
  exact ⟨ret_bool (by rw [Bool.eq_iff_iff]; simp), rfl⟩

theorem nbits_ge' (l : List UInt8) : 5 * l.length ≤ HP.nbits l := by
  induction l with
  | nil => simp
  | cons c l ih =>
    have := (HP.bounds c).1
    simp [HP.nbits] at ih ⊢
    omega
theorem dstr_le {h : Bool} {v t : HD.Bs} (e : HD.dstr h v = some t) (hv : v.length ≤ 2 ^ 26) : t.length ≤ 2 ^ 27 := by
  cases h with
  | false =>
    obtain rfl := Option.some.inj e
    omega
  | true =>
    have e : HP.hdec v = some t := e
    have h1 := HP.length_henc t
    rw [HP.henc_hdec e] at h1
    have h2 := nbits_ge' t
    unfold HP.hencLen at h1
    omega
def nmOf : Sum HD.Bs (Bool × HD.Bs) → HD.Bs
  | .inl n => n
  | .inr _ => []
def hfCells (n v : HD.Bs) (b : Bool) : Array Value := #[.string ⟨n.toArray⟩, .string ⟨v.toArray⟩, .bool b]
def unCells (h : Bool) (g o n c : Nat) : Array Value := #[.bool h, .slice (some ⟨g, o, none⟩) n c]
/-- What is known behind a literal's name. -/
structure NmRel (w wx : World) (g b10 b12 i : Nat) (nm : Sum HD.Bs (Bool × HD.Bs)) (v rest2 : HD.Bs) (o2 c2 : Nat) : Prop where
  below : Below w.heap.size w wx
  row : Row wx b10 3 (fun j => (hfCells (nmOf nm) [] false).getD j undef)
  und : ∀ h b, nm = .inr (h, b) → ∃ o3 c3, Row wx b12 2 (fun j => (unCells h g o3 b.length c3).getD j undef) ∧ Buf wx g o3 c3 b
  buf : Buf wx g o2 c2 rest2
  sort : (0 < i ∧ ∃ n, nm = .inl n ∧ n.length ≤ 2 ^ 27) ∨ (i = 0 ∧ ∃ h b, nm = .inr (h, b) ∧ b.length ≤ v.length)
  len : rest2.length ≤ v.length
theorem Row.of_cells (w : World) (cs : Array Value) (t : TypeId) (ht : t ≠ 5) (n : Nat) (hn : cs.size = n) : Row (w.alloc (.cells cs t)) w.heap.size n (fun j => cs.getD j undef) :=
  Row.new w t ht (n := n) hn (fun i hi => by rw [Array.getD_eq_getD_getElem?, Array.getElem?_eq_getElem (show i < cs.size by omega)]; rfl)
theorem rstr_blen {v : HD.Bs} {h : Bool} {b r : HD.Bs} (e : HD.rstr v = .ok h b r) : b.length ≤ v.length := by
  cases v with
  | nil => cases e
  | cons c p =>
    rw [HD.rstr] at e
    split at e
    · cases e
    · cases e
    · rename_i n rest hr
      have := HD.rvi_len hr
      split at e
      · cases e
      · injection e with _ e _; subst e; rw [List.length_take]; omega
theorem static_short : (HD.static.all fun e => decide (e.1.length ≤ 2 ^ 27 ∧ e.2.length ≤ 2 ^ 27)) = true := by decide +kernel
theorem ent_short {s : HD.St} (h : SOK s) {i : Nat} {e : HD.Bs × HD.Bs} (he : HD.entAt s.ents i = some e) : e.1.length ≤ 2 ^ 27 ∧ e.2.length ≤ 2 ^ 27 := by
  unfold HD.entAt at he
  split at he
  · cases he
  · split at he
    · exact of_decide_eq_true (List.all_eq_true.1 static_short e (List.mem_of_getElem? he))
    · split at he
      · exact h.short e (List.mem_of_getElem? he)
      · cases he
set_option maxHeartbeats 4000000 in
set_option maxRecDepth 100000 in
theorem pLit_any (B : Nat) (w : World) (d g o cap : Nat) (M : Emitter) (hM : EmOk B M) (s : HD.St) (l : List HD.Fld) (p : DP) (aI aN aL : Addr) (v : HD.Bs) (n : Nat) (hn : n = 4 ∨ n = 6) (it : Int) (ix sn : Bool) (hix : decide (it = 0) = ix) (hsn : decide (it = 2) = sn)
    (hL : Live B w d M s l p) (hE : Env B w aI aN aL) (hb : Buf w g o cap v) (hg : IsU8 w g) (h11 : p.f 11 = .slice (some ⟨g, o, none⟩) v.length cap) (hc : p.cnt + s.ents.length + 1 < 2 ^ 62) (hl : l.length ≤ 2 ^ 40) (hv26 : v.length ≤ 2 ^ 26) :
    Calls Tryd.prog 68 #[.pointer (some ⟨d, 0, none⟩), .int .u8 (n : Nat), .int .i64 it] w (REnds B w d g M s l p aI aN (HD.pLit s n ix sn v)) := by
  have c11 := hL.row.cell' (i := 11) (by decide) h11
  have hn7 : n = 4 ∨ n = 5 ∨ n = 6 ∨ n = 7 := by omega
  have hn8 : n ≤ 7 := by omega
  have HL := Lib.hid hL
  have HE := Lib.hid hE
  have HB := Lib.hid hb
  have Hg := Lib.hid hg
  have HM := Lib.hid hM
  have Hl := Lib.hid hl
  have Hc := Lib.hid hc
  have Hix := Lib.hid hix
  have Hsn := Lib.hid hsn
  have hdl := hL.lt
  clear hL hE hb hg h11 hM hl hc hix hsn
  go_enter Tryd.func68, Tryd.ntmps68
  go_wp2_with fail
  refine (varInt_any n hn7 _ g o cap v _ HB.out HE.out.eN).mono ?_
  rintro e w1 ⟨hv, hb1⟩
  have Hb1 := Lib.hid hb1
  have hL1 := HL.out.below hb1
  have c9 := hL1.row.cell' (i := 9) (by decide) hL1.mem.on
  have HL1 := Lib.hid hL1
  clear hb1 c11 hL1
  cases hr : HD.rvi n v with
  | more =>
    rw [hr] at hv
    obtain ⟨s0, rfl⟩ := hv
    have Hr := Lib.hid hr
    clear hr
    go_wp2_with fail
    go_ret
    rw [show HD.pLit s n ix sn v = .more by simp only [HD.pLit, Hr.out]]
    exact ⟨rfl, Hb1.out⟩
  | over =>
    rw [hr] at hv
    obtain ⟨s0, a, rfl, ha⟩ := hv
    have Hr := Lib.hid hr
    clear hr
    unfold codingErr
    go_wp2_with fail
    go_ret
    rw [show HD.pLit s n ix sn v = .bad .coding by simp only [HD.pLit, Hr.out]]
    exact ⟨⟨_, rfl, a, rfl, ha⟩, Hb1.out⟩
  | ok i rest =>
    have hlt := HD.rvi_lt hn8 hr
    have hrl := HD.rvi_len hr
    rw [hr] at hv
    obtain ⟨o1, cap1, rfl, hbr⟩ := hv
    have HBr := Lib.hid hbr
    have Hr := Lib.hid hr
    obtain ⟨on, hon⟩ : ∃ b, b = s.on := ⟨_, rfl⟩
    rw [← hon] at c9
    have Hon := Lib.hid hon
    clear hr hbr hon
    have hents : s.ents.length ≤ 2 ^ 40 := by
      have h1 := tsize_ge s.ents
      have h2 := HL.out.ok.size
      have h3 := HL.out.ok.max
      omega
    obtain ⟨want, hwant⟩ : ∃ b, b = (on || ix) := ⟨_, rfl⟩
    have Hwant := Lib.hid hwant
    clear hwant
    go_upto_region 6 with (fail)
    obtain ⟨W2, hW2⟩ : ∃ W2, W2 = w1.alloc (.cells #[.string ByteArray.empty, .string ByteArray.empty, .bool false] 57) := ⟨_, rfl⟩
    have c9' : W2.cell? ⟨d, 9, none⟩ = some (.bool on) := by
      rw [hW2]
      exact (World.cell?_of_block (a := ⟨d, 9, none⟩) (Below.heap_alloc _ _ _ (World.block_lt_of_cell? _ _ c9))).trans c9
    have hW2' : w1.alloc (.cells #[.string { data := #[] }, .string { data := #[] }, .bool false] 57) = W2 := by rw [hW2]; rfl
    rw [hW2']
    have HW2 := Lib.hid hW2
    clear hW2 hW2' c9
    go_cut [11] from 30 (fun c wx => c = .bool want ∧ wx = W2)
    case first =>
      cases on with
      | true =>
        go_wp2_with fail
        go_meet
        exact ⟨by rw [Hwant.out]; rfl, rfl⟩
      | false =>
        go_wp2_with fail
        refine (itIdx_any it ix Hix.out _).mono ?_
        rintro e w3 ⟨rfl, rfl⟩
        go_wp2_with fail
        go_meet
        exact ⟨by rw [Hwant.out]; rfl, rfl⟩
    case rest =>
      obtain ⟨rfl, rfl⟩ := hcut
      have hwc : wc.heap.size = w1.heap.size + 1 := by rw [HW2.out]; simp
      have hb2 : Below w1.heap.size w1 wc := by rw [HW2.out]; exact (Below.refl _ _).alloc (Nat.le_refl _) _
      have hr10 : Row wc w1.heap.size 3 (fun j => (hfCells [] [] false).getD j undef) := by rw [HW2.out]; exact Row.of_cells w1 (hfCells [] [] false) 57 (by decide) 3 rfl
      have Hb2 := Lib.hid hb2
      have Hr10 := Lib.hid hr10
      clear hb2 hr10
      go_upto_if 39 with (fail)
      have hr12 : Row (wc.alloc (.cells #[.bool false, .slice none 0 0] 139)) wc.heap.size 2 (fun j => (#[Value.bool false, .slice none 0 0] : Array Value).getD j undef) := Row.of_cells wc #[.bool false, .slice none 0 0] 139 (by decide) 2 rfl
      have hb3 : Below w1.heap.size w1 (wc.alloc (.cells #[.bool false, .slice none 0 0] 139)) := Hb2.out.alloc (by omega) _
      have hr10 := Hr10.out.alloc (.cells #[.bool false, .slice none 0 0] 139)
      have hs3 : (wc.alloc (.cells #[.bool false, .slice none 0 0] 139)).heap.size = w1.heap.size + 2 := by simp [hwc]
      generalize wc.alloc (.cells #[.bool false, .slice none 0 0] 139) = W3 at hr12 hb3 hr10 hs3 ⊢
      rw [hwc] at hr12
      clear Hr10 Hb2 HW2
      have Hr10 := Lib.hid hr10
      have Hr12 := Lib.hid hr12
      have Hb3 := Lib.hid hb3
      have hb13 := Hb1.out.trans (hb3.mono Hb1.out.size)
      have HL3 := Lib.hid (HL.out.below hb13)
      have HE3 := Lib.hid (HE.out.below (hb13.mono HL.out.lo))
      have Hb13 := Lib.hid hb13
      clear hr10 hr12 hb3 hb13
      go_cut [7, 9, 13, 14] from 38 (fun v7 v9 _ _ wx => ∃ (nm : Sum HD.Bs (Bool × HD.Bs)) (rest2 : HD.Bs) (o2 c2 : Nat), v7 = .slice (some ⟨g, o2, none⟩) rest2.length c2 ∧ v9 = .nilIface ∧ HD.pLit s n ix sn v = HD.pVal s ix sn nm rest2 ∧ NmRel w wx g w1.heap.size (w1.heap.size + 1) i nm v rest2 o2 c2)
      case first =>
        rcases Nat.eq_zero_or_pos i with rfl | hpos
        · have d1 : decide ((0 : Int) < ((0 : Nat) : Int)) = false := by decide
          have e10 := HL3.out.row.cell' (i := 10) (by decide) HL3.out.mem.most
          go_wp2_with fail
          refine (readString_any d aN g o1 cap1 rest _ (HBr.out.below (Hb3.out)) e10 HE3.out.eN).mono ?_
          rintro e w4 ⟨hv, hb4⟩
          have hr12 := Hr12.out.of_heap (hb4.block (w1.heap.size + 1) (by omega))
          have u0 := hr12.cell' (i := 0) (v := .bool false) (by decide) rfl
          have u1 := hr12.cell' (i := 1) (v := .slice none 0 0) (by decide) rfl
          have uf := fun j => hr12.unfrozen j none
          have hsz4 := hb4.size
          have Hb4 := Lib.hid (Hb13.out.trans (hb4.mono Hb13.out.size))
          have Hb34 := Lib.hid hb4
          have Hr12' := Lib.hid hr12
          clear hb4 hr12
          cases hs : HD.rstr rest with
          | more =>
            rw [hs] at hv
            obtain ⟨s0, rfl⟩ := hv
            have Hs := Lib.hid hs
            clear hs
            go_wp2_with fail
            go_ret
            rw [show HD.pLit s n ix sn v = .more by simp [HD.pLit, Hr.out, Hs.out]]
            exact ⟨rfl, (Hb4.out.setCell (by show w.heap.size ≤ w1.heap.size + 1; have := Hb1.out.size; omega) _).setCell (by show w.heap.size ≤ w1.heap.size + 1; have := Hb1.out.size; omega) _⟩
          | over =>
            rw [hs] at hv
            obtain ⟨s0, a, rfl, ha⟩ := hv
            have Hs := Lib.hid hs
            clear hs
            unfold codingErr
            go_wp2_with fail
            go_ret
            rw [show HD.pLit s n ix sn v = .bad .coding by simp [HD.pLit, Hr.out, Hs.out]]
            refine ⟨⟨_, rfl, a, rfl, ?_⟩, (Hb4.out.setCell (by show w.heap.size ≤ w1.heap.size + 1; have := Hb1.out.size; omega) _).setCell (by show w.heap.size ≤ w1.heap.size + 1; have := Hb1.out.size; omega) _⟩
            have hne : w1.heap.size + 1 ≠ a.block := by have := ha.1; omega
            exact (ha.mono (by have := Hb13.out.size; omega)).of_heap ((other_set hne).trans (other_set hne))
          | ok h b rest2 =>
            rw [hs] at hv
            obtain ⟨o3, c3, o2, c2, rfl, hbb, hb2⟩ := hv
            have Hs := Lib.hid hs
            have Hbb := Lib.hid hbb
            have Hb2 := Lib.hid hb2
            clear hs hbb hb2
            go_wp2_with fail
            go_meet
            have hlo : w.heap.size ≤ w1.heap.size := Hb1.out.size
            have hb5 := (Hb4.out.setCell (p := ⟨w1.heap.size + 1, 0, none⟩) (by show w.heap.size ≤ w1.heap.size + 1; omega) (.bool h)).setCell (p := ⟨w1.heap.size + 1, 1, none⟩) (by show w.heap.size ≤ w1.heap.size + 1; omega) (.slice (some ⟨g, o3, none⟩) b.length c3)
            have hgw : g < w.heap.size := Hg.out.lt
            have hk : ∀ k, k ≠ w1.heap.size + 1 → ((w4.setCell ⟨w1.heap.size + 1, 0, none⟩ (.bool h)).setCell ⟨w1.heap.size + 1, 1, none⟩ (.slice (some ⟨g, o3, none⟩) b.length c3)).heap[k]? = w4.heap[k]? := fun k hk => (other_set (Ne.symm hk)).trans (other_set (Ne.symm hk))
            have hbl := rstr_blen Hs.out
            have hrl2 := HD.rstr_len Hs.out
            refine ⟨.inr (h, b), rest2, o2, c2, rfl, rfl, by simp [HD.pLit, Hr.out, Hs.out], hb5, ?_, ?_, ?_, Or.inr ⟨rfl, h, b, rfl, by omega⟩, by omega⟩
            · exact (Hr10.out.of_heap (Hb34.out.block w1.heap.size (by omega))).of_heap (hk _ (by omega))
            · rintro h' b' e
              injection e with e
              injection e with e1 e2
              subst e1; subst e2
              refine ⟨o3, c3, ((Hr12'.out.set 0 (.bool h)).set 1 (.slice (some ⟨g, o3, none⟩) b.length c3)).congr fun j hj => ?_, Hbb.out.kept fun _ => hk g (by omega)⟩
              match j, hj with
              | 0, _ => rfl
              | 1, _ => rfl
            · exact Hb2.out.kept fun _ => hk g (by omega)
        · have d1 : decide ((0 : Int) < (i : Int)) = true := by simp; omega
          go_wp2_with fail
          refine (at_any B _ d 16 p.f s.ents p.cnt p.ev p.m1 p.m2 p.l1 p.l2 i HL3.out.mem.tab hents hlt).mono ?_
          rintro e w4 ⟨rfl, hb4⟩
          have hsz4 := hb4.size
          have Hb4 := Lib.hid (Hb13.out.trans (hb4.mono Hb13.out.size))
          have hr10 := Hr10.out.of_heap (hb4.block w1.heap.size (by omega))
          have v0 := hr10.cell' (i := 0) (v := .string ByteArray.empty) (by decide) rfl
          have v1 := hr10.cell' (i := 1) (v := .string ByteArray.empty) (by decide) rfl
          have v2 := hr10.cell' (i := 2) (v := .bool false) (by decide) rfl
          have vf := fun j => hr10.unfrozen j none
          have hne4 : w1.heap.size ≠ w4.heap.size := by omega
          have hlt4 : w1.heap.size < w4.heap.size := by omega
          have Hr10' := Lib.hid hr10
          have Hb34 := Lib.hid hb4
          clear hb4 hr10
          cases hent : HD.entAt s.ents i with
          | none =>
            have Hent := Lib.hid hent
            clear hent
            unfold atVal
            go_wp2_with fail
            go_ret
            rw [show HD.pLit s n ix sn v = .bad (.index i) by simp [HD.pLit, Hr.out, Hent.out, hpos]]
            exact ⟨⟨_, rfl, errV_index i⟩, Hb4.out.alloc Hb4.out.size _⟩
          | some es =>
            have Hent := Lib.hid hent
            clear hent
            unfold atVal
            go_wp2_with fail
            go_meet
            have hlo : w.heap.size ≤ w1.heap.size := Hb1.out.size
            have hgw : g < w.heap.size := Hg.out.lt
            have hb5 := (Hb4.out.setCell (p := ⟨w1.heap.size, 0, none⟩) hlo (.string ⟨es.1.toArray⟩)).alloc (by rw [World.size_setCell]; exact Hb4.out.size) (.cells #[.string ⟨es.1.toArray⟩, .string ⟨es.2.toArray⟩, .bool false] 57)
            refine ⟨.inl es.1, rest, o1, cap1, rfl, rfl, by simp [HD.pLit, Hr.out, Hent.out, hpos], hb5, ?_, ?_, ?_, Or.inl ⟨hpos, es.1, rfl, (ent_short HL.out.ok Hent.out).1⟩, by omega⟩
            · refine ((Hr10'.out.set 0 (.string ⟨es.1.toArray⟩)).alloc _).congr fun j hj => ?_
              match j, hj with
              | 0, _ => rfl
              | 1, _ => rfl
              | 2, _ => rfl
            · rintro h' b' e
              cases e
            · refine HBr.out.kept fun _ => ?_
              refine (Below.heap_alloc _ _ _ (by rw [World.size_setCell]; omega)).trans ((other_set (by show w1.heap.size ≠ g; omega)).trans ?_)
              exact (Hb34.out.block g (by omega)).trans (Hb3.out.block g (by omega))
      case rest =>
        obtain ⟨nm, rest2, o2, c2, rfl, rfl, hP, hN⟩ := hcut
        have hlo : w.heap.size ≤ w1.heap.size := Hb1.out.size
        have hgw : g < w.heap.size := Hg.out.lt
        have hL4 := HL.out.below hN.below
        have hE4 := HE.out.below (hN.below.mono HL.out.lo)
        have e10 := hL4.row.cell' (i := 10) (by decide) hL4.mem.most
        have h10 := hN.row.lt
        have HN := Lib.hid hN
        have HP := Lib.hid hP
        have HE4 := Lib.hid hE4
        clear hN hP hE4 hL4 Hb3 HL3 HE3 Hb13 Hr10 Hr12
        go_wp2_with fail
        refine (readString_any d aN g o2 c2 rest2 _ (by exact HN.out.buf) (by exact e10) (by exact HE4.out.eN)).mono ?_
        rintro e w5 ⟨hv, hb5⟩
        have Hb05 := Lib.hid (HN.out.below.trans (hb5.mono HN.out.below.size))
        have Hb45 := Lib.hid hb5
        have hs45 := hb5.size
        clear hb5 e10
        cases hs2 : HD.rstr rest2 with
        | more =>
          rw [hs2] at hv
          obtain ⟨s0, rfl⟩ := hv
          have Hs2 := Lib.hid hs2
          clear hs2
          go_wp2_with fail
          go_ret
          rw [HP.out, show HD.pVal s ix sn nm rest2 = .more by simp only [HD.pVal, Hs2.out]]
          exact ⟨rfl, Hb05.out.alloc Hb05.out.size _⟩
        | over =>
          rw [hs2] at hv
          obtain ⟨s0, a, rfl, ha⟩ := hv
          have Hs2 := Lib.hid hs2
          have Ha := Lib.hid ha
          clear hs2 ha
          unfold codingErr
          go_wp2_with fail
          go_ret
          rw [HP.out, show HD.pVal s ix sn nm rest2 = .bad .coding by simp only [HD.pVal, Hs2.out]]
          refine ⟨⟨_, rfl, a, rfl, ?_⟩, Hb05.out.alloc Hb05.out.size _⟩
          obtain ⟨h1, ca, ta, h2⟩ := Ha.out
          exact ⟨Nat.le_trans HN.out.below.size h1, ca, ta, (Below.heap_alloc _ _ _ (Array.getElem?_eq_some_iff.1 h2).1).trans h2⟩
        | ok h2 b2 rest3 =>
          rw [hs2] at hv
          obtain ⟨o5, c5, o6, c6, rfl, hbb, hbr⟩ := hv
          have Hs2 := Lib.hid hs2
          clear hs2
          go_upto_if 76 with (fail)
          have hb6 : Below w5.heap.size w5 (w5.alloc (.cells #[.bool h2, .slice (some ⟨g, o5, none⟩) b2.length c5] 139)) := (Below.refl _ _).alloc (Nat.le_refl _) _
          have hr15 : Row (w5.alloc (.cells #[.bool h2, .slice (some ⟨g, o5, none⟩) b2.length c5] 139)) w5.heap.size 2 (fun j => (unCells h2 g o5 b2.length c5).getD j undef) := Row.of_cells w5 (unCells h2 g o5 b2.length c5) 139 (by decide) 2 rfl
          have hs6 : (w5.alloc (.cells #[.bool h2, .slice (some ⟨g, o5, none⟩) b2.length c5] 139)).heap.size = w5.heap.size + 1 := by simp
          generalize w5.alloc (.cells #[.bool h2, .slice (some ⟨g, o5, none⟩) b2.length c5] 139) = W6 at hb6 hr15 hs6 ⊢
          have hb06 := Hb05.out.trans (hb6.mono Hb05.out.size)
          have hb46 := Hb45.out.trans (hb6.mono Hb45.out.size)
          have Hr10 := Lib.hid (HN.out.row.of_heap (hb46.block w1.heap.size h10))
          have Hbb := Lib.hid (hbb.below hb6)
          have Hbr := Lib.hid (hbr.below hb6)
          have Hr15 := Lib.hid hr15
          have Hb06 := Lib.hid hb06
          have Hb46 := Lib.hid hb46
          have HL6 := Lib.hid (HL.out.below hb06)
          have HE6 := Lib.hid (HE.out.below (hb06.mono HL.out.lo))
          clear hb6 hr15 hb06 hb46 hbb hbr
          have hl2 := rstr_blen Hs2.out
          have hnl := HN.out.len
          go_cut [9] from 77 (fun _ wx => ∃ N X : HD.Bs, HD.pVal s ix sn nm rest2 = HD.pEnd s ix sn N X rest3 ∧ N.length ≤ 2 ^ 27 ∧ X.length ≤ 2 ^ 27 ∧ Below w.heap.size w wx ∧ Row wx w1.heap.size 3 (fun j => (hfCells N X false).getD j undef) ∧ Buf wx g o6 c6 rest3)
          case first =>
            cases want with
            | false =>
              go_wp2_with fail
              go_meet
              have hw : (s.on || ix) = false := by rw [← Hon.out, ← Hwant.out]
              refine ⟨nmOf nm, [], ?_, ?_, by simp, Hb06.out, Hr10.out, Hbr.out⟩
              · simp only [HD.pVal, Hs2.out, hw]
                cases nm <;> rfl
              · rcases HN.out.sort with ⟨-, n', rfl, hl⟩ | ⟨-, h', b', rfl, -⟩
                · exact hl
                · simp [nmOf]
            | true =>
              have hw : (s.on || ix) = true := by rw [← Hon.out, ← Hwant.out]
              have Hw := Lib.hid hw
              clear hw
              rcases HN.out.sort with ⟨hpos, n', rfl, hl'⟩ | ⟨rfl, h', b', rfl, hl'⟩
              · have d1 : decide ((i : Int) ≤ 0) = false := by simp; omega
                have x0 := Hr15.out.cell' (i := 0) (v := .bool h2) (by decide) rfl
                have x1 := Hr15.out.cell' (i := 1) (v := .slice (some ⟨g, o5, none⟩) b2.length c5) (by decide) rfl
                have e10 := HL6.out.row.cell' (i := 10) (by decide) HL6.out.mem.most
                go_wp2_with fail
                refine (decodeString_any d aI h2 g o5 c5 b2 _ Hbb.out (by omega) e10 HE6.out.len HE6.out.code HE6.out.eI).mono ?_
                rintro e w8 ⟨hds, hb8⟩
                have hr10 := Hr10.out.of_heap (hb8.block w1.heap.size (by omega))
                have y1 := hr10.cell' (i := 1) (v := .string ByteArray.empty) (by decide) rfl
                have yf := fun j => hr10.unfrozen j none
                have hb08 := Hb06.out.trans (hb8.mono Hb06.out.size)
                have Hb08 := Lib.hid hb08
                have Hb68 := Lib.hid hb8
                have Hr10' := Lib.hid hr10
                clear hb8 hb08 x0 x1 e10 hr10
                cases hd : HD.dstr h2 b2 with
                | none =>
                  rw [hd] at hds
                  obtain rfl : e = .returned (.tuple #[.string ByteArray.empty, .iface 125 (.pointer (some aI))]) := hds
                  have Hd := Lib.hid hd
                  clear hd
                  go_wp2_with fail
                  go_ret
                  rw [HP.out, show HD.pVal s ix sn _ rest2 = .bad .huff by simp only [HD.pVal, Hs2.out, Hw.out, Hd.out, if_true]]
                  exact ⟨⟨_, rfl, rfl⟩, Hb08.out.setCell (by exact hlo) _⟩
                | some x =>
                  rw [hd] at hds
                  obtain rfl : e = .returned (.tuple #[.string ⟨x.toArray⟩, .nilIface]) := hds
                  have hx27 : x.length ≤ 2 ^ 27 := dstr_le hd (by omega)
                  have Hd := Lib.hid hd
                  clear hd
                  go_wp2_with fail
                  go_meet
                  refine ⟨n', x, by simp only [HD.pVal, Hs2.out, Hw.out, Hd.out, if_true], hl', hx27, Hb08.out.setCell (by exact hlo) _, ?_, ?_⟩
                  · refine (Hr10'.out.set 1 (.string ⟨x.toArray⟩)).congr fun j hj => ?_
                    match j, hj with
                    | 0, _ => rfl
                    | 1, _ => rfl
                    | 2, _ => rfl
                  · exact (Hbr.out.below Hb68.out).kept fun _ => other_set (by show w1.heap.size ≠ g; omega)
              · obtain ⟨o3, c3, hr12, hbn⟩ := HN.out.und h' b' rfl
                have hr12' := hr12.of_heap (Hb46.out.block _ hr12.lt)
                have x0 := hr12'.cell' (i := 0) (v := .bool h') (by decide) rfl
                have x1 := hr12'.cell' (i := 1) (v := .slice (some ⟨g, o3, none⟩) b'.length c3) (by decide) rfl
                have e10 := HL6.out.row.cell' (i := 10) (by decide) HL6.out.mem.most
                have hbn6 := hbn.below Hb46.out
                clear hr12 hr12' hbn
                go_wp2_with fail
                refine (decodeString_any d aI h' g o3 c3 b' _ hbn6 (by omega) e10 HE6.out.len HE6.out.code HE6.out.eI).mono ?_
                rintro e w7 ⟨hds, hb7⟩
                have hr10 := Hr10.out.of_heap (hb7.block w1.heap.size (by omega))
                have y0 := hr10.cell' (i := 0) (v := .string ByteArray.empty) (by decide) rfl
                have yf := fun j => hr10.unfrozen j none
                have hs7 := hb7.size
                have Hb67 := Lib.hid hb7
                have hb07 := Hb06.out.trans (hb7.mono Hb06.out.size)
                have Hb07 := Lib.hid hb07
                have Hr10' := Lib.hid hr10
                clear hb7 hb07 x0 x1 e10 hbn6 hr10
                cases hd : HD.dstr h' b' with
                | none =>
                  rw [hd] at hds
                  obtain rfl : e = .returned (.tuple #[.string ByteArray.empty, .iface 125 (.pointer (some aI))]) := hds
                  have Hd := Lib.hid hd
                  clear hd
                  go_wp2_with fail
                  go_ret
                  rw [HP.out, show HD.pVal s ix sn (.inr (h', b')) rest2 = .bad .huff by simp only [HD.pVal, Hs2.out, Hw.out, Hd.out, if_true]]
                  exact ⟨⟨_, rfl, rfl⟩, Hb07.out.setCell (by exact hlo) _⟩
                | some n' =>
                  rw [hd] at hds
                  obtain rfl : e = .returned (.tuple #[.string ⟨n'.toArray⟩, .nilIface]) := hds
                  have hl' : n'.length ≤ 2 ^ 27 := dstr_le hd (by omega)
                  have Hd0 := Lib.hid hd
                  clear hd
                  go_upto_region 24 with (fail)
                  have hb77 : Below w.heap.size w (w7.setCell ⟨w1.heap.size, 0, none⟩ (.string ⟨n'.toArray⟩)) := Hb07.out.setCell (by exact hlo) _
                  have hk7 : ∀ k, k ≠ w1.heap.size → (w7.setCell ⟨w1.heap.size, 0, none⟩ (.string ⟨n'.toArray⟩)).heap[k]? = w7.heap[k]? := fun k hk => other_set (Ne.symm hk)
                  have hs77 : (w7.setCell ⟨w1.heap.size, 0, none⟩ (.string ⟨n'.toArray⟩)).heap.size = w7.heap.size := World.size_setCell _ _ _
                  have hr77 : Row (w7.setCell ⟨w1.heap.size, 0, none⟩ (.string ⟨n'.toArray⟩)) w1.heap.size 3 (fun j => (hfCells n' [] false).getD j undef) := (Hr10'.out.set 0 (.string ⟨n'.toArray⟩)).congr fun j hj => by
                    match j, hj with
                    | 0, _ => rfl
                    | 1, _ => rfl
                    | 2, _ => rfl
                  generalize w7.setCell ⟨w1.heap.size, 0, none⟩ (.string ⟨n'.toArray⟩) = W7 at hb77 hk7 hs77 hr77 ⊢
                  have hr15 := (Hr15.out.of_heap (Hb67.out.block w5.heap.size (by omega))).of_heap (hk7 w5.heap.size (by omega))
                  have Hbb := Lib.hid ((Hbb.out.below Hb67.out).kept fun _ => hk7 g (by omega))
                  have Hbr := Lib.hid ((Hbr.out.below Hb67.out).kept fun _ => hk7 g (by omega))
                  have HL6 := Lib.hid (HL.out.below hb77)
                  have HE6 := Lib.hid (HE.out.below (hb77.mono HL.out.lo))
                  have Hb06 := Lib.hid hb77
                  have Hr10 := Lib.hid hr77
                  have x0 := hr15.cell' (i := 0) (v := .bool h2) (by decide) rfl
                  have x1 := hr15.cell' (i := 1) (v := .slice (some ⟨g, o5, none⟩) b2.length c5) (by decide) rfl
                  have e10 := HL6.out.row.cell' (i := 10) (by decide) HL6.out.mem.most
                  clear hb77 hk7 hr77 hr15 y0 yf
                  go_wp2_with fail
                  refine (decodeString_any d aI h2 g o5 c5 b2 _ Hbb.out (by omega) e10 HE6.out.len HE6.out.code HE6.out.eI).mono ?_
                  rintro e w8 ⟨hds, hb8⟩
                  have hr10 := Hr10.out.of_heap (hb8.block w1.heap.size (by omega))
                  have y1 := hr10.cell' (i := 1) (v := .string ByteArray.empty) (by decide) rfl
                  have yf := fun j => hr10.unfrozen j none
                  have hb08 := Hb06.out.trans (hb8.mono Hb06.out.size)
                  have Hb08 := Lib.hid hb08
                  have Hb68 := Lib.hid hb8
                  have Hr10' := Lib.hid hr10
                  clear hb8 hb08 x0 x1 e10 hr10
                  cases hd : HD.dstr h2 b2 with
                  | none =>
                    rw [hd] at hds
                    obtain rfl : e = .returned (.tuple #[.string ByteArray.empty, .iface 125 (.pointer (some aI))]) := hds
                    have Hd := Lib.hid hd
                    clear hd
                    go_wp2_with fail
                    go_ret
                    rw [HP.out, show HD.pVal s ix sn _ rest2 = .bad .huff by simp only [HD.pVal, Hs2.out, Hw.out, Hd.out, if_true, Hd0.out]]
                    exact ⟨⟨_, rfl, rfl⟩, Hb08.out.setCell (by exact hlo) _⟩
                  | some x =>
                    rw [hd] at hds
                    obtain rfl : e = .returned (.tuple #[.string ⟨x.toArray⟩, .nilIface]) := hds
                    have hx27 : x.length ≤ 2 ^ 27 := dstr_le hd (by omega)
                    have Hd := Lib.hid hd
                    clear hd
                    go_wp2_with fail
                    go_meet
                    refine ⟨n', x, by simp only [HD.pVal, Hs2.out, Hw.out, Hd.out, if_true, Hd0.out], hl', hx27, Hb08.out.setCell (by exact hlo) _, ?_, ?_⟩
                    · refine (Hr10'.out.set 1 (.string ⟨x.toArray⟩)).congr fun j hj => ?_
                      match j, hj with
                      | 0, _ => rfl
                      | 1, _ => rfl
                      | 2, _ => rfl
                    · exact (Hbr.out.below Hb68.out).kept fun _ => other_set (by show w1.heap.size ≠ g; omega)
          case rest =>
            obtain ⟨N, X, hP2, hN27, hX27, hb7, hr7, hbr7⟩ := hcut
            have HP9 := Lib.hid (HP.out.trans hP2)
            clear HP hP2 Hs2 HN Hr10 Hbb Hbr Hr15 Hb06 Hb46 HL6 HE6 Hb45 Hb05 HE4 Hwant
            have hL9 := HL.out.below hb7
            have e11 := hL9.row.cell (i := 11) (by decide)
            have fz := fun j => hL9.row.unfrozen j none
            have hd9 : d < wc.heap.size := hL9.lt
            have Hb7 := Lib.hid hb7
            have Hr7 := Lib.hid hr7
            have Hbr7 := Lib.hid hbr7
            have HL9 := Lib.hid hL9
            clear hb7 hr7 hbr7 hL9
            go_wp2_with fail
            refine (itIdx_any it ix Hix.out _).mono ?_
            rintro e w10 ⟨rfl, hw10⟩
            have hl10 : Live B w10 d M s l { p with f := putF p.f 11 (.slice (some ⟨g, o6, none⟩) rest3.length c6) } := by
              rw [hw10]
              exact HL9.out.put (b := s.first) (HL9.out.row.set 11 _) (fun i hi => by simp only [putF]; rw [if_neg (by omega)]) (by simp [putF, HL9.out.mem.first]) (fun k hk _ => other_set (Ne.symm hk))
            have hu10 : Upd (p.own d) w w10 := by rw [hw10]; exact (Upd.of_below Hb7.out).setCell (a := ⟨d, 11, none⟩) (Or.inl (Or.inl (Or.inl rfl))) _
            have hg9 : IsU8 wc g := Hg.out.of_heap (Hb7.out.block g Hg.out.lt)
            have hgd : d ≠ g := fun e => HL9.out.kind hg9 (e ▸ Or.inl (Or.inl rfl))
            have hg10 : IsU8 w10 g := by rw [hw10]; exact hg9.of_heap (other_set hgd)
            have hb10 : Buf w10 g o6 c6 rest3 := by rw [hw10]; exact Hbr7.out.kept fun _ => other_set hgd
            have hdb : d ≠ w1.heap.size := by omega
            have hr10 : Row w10 w1.heap.size 3 (fun j => (hfCells N X false).getD j undef) := by rw [hw10]; exact Hr7.out.of_heap (other_set hdb)
            have hs10 : w10.heap.size = wc.heap.size := by rw [hw10]; exact World.size_setCell _ _ _
            have hw9 := Hb7.out.size
            have hb1s := hr10.lt
            have Hl10 := Lib.hid hl10
            have Hu10 := Lib.hid hu10
            have Hg10 := Lib.hid hg10
            have Hb10 := Lib.hid hb10
            clear hl10 hu10 hg9 hg10 hb10 hw10 e11 fz
            cases ix with
            | false =>
              have z0 := hr10.cell' (i := 0) (v := .string ⟨N.toArray⟩) (by decide) rfl
              have z1 := hr10.cell' (i := 1) (v := .string ⟨X.toArray⟩) (by decide) rfl
              have z2 := hr10.cell' (i := 2) (v := .bool false) (by decide) rfl
              have zf := fun j => hr10.unfrozen j none
              clear hr10
              go_wp2_with fail
              refine (sensitive_any it sn Hsn.out _).mono ?_
              rintro e w11 ⟨rfl, rfl⟩
              go_wp2_with fail
              have hu11 : Upd (fun k => k = w1.heap.size) w11 (w11.setCell ⟨w1.heap.size, 2, none⟩ (.bool sn)) := (Upd.refl (fun k => k = w1.heap.size) w11).setCell (a := ⟨w1.heap.size, 2, none⟩) (Or.inl rfl) _
              have hnp : ∀ k, DP.own d { p with f := putF p.f 11 (.slice (some ⟨g, o6, none⟩) rest3.length c6) } k → k ≠ w1.heap.size := fun k hk e => by have h1 : p.own d k := hk; have := HL.out.own_lt h1; omega
              have hl12 := Hl10.out.frame (w' := w11.setCell ⟨w1.heap.size, 2, none⟩ (.bool sn)) fun k hk => other_set (Ne.symm (hnp k hk))
              have hg12 : IsU8 (w11.setCell ⟨w1.heap.size, 2, none⟩ (.bool sn)) g := Hg10.out.of_heap (other_set (by show w1.heap.size ≠ g; omega))
              have hb12 : Buf (w11.setCell ⟨w1.heap.size, 2, none⟩ (.bool sn)) g o6 c6 rest3 := Hb10.out.kept fun _ => other_set (by show w1.heap.size ≠ g; omega)
              have hu12 : Upd (p.own d) w (w11.setCell ⟨w1.heap.size, 2, none⟩ (.bool sn)) := Hu10.out.trans hu11 (fun k hk e => by omega)
              refine (callEmit_any B _ d M HM.out { s with ents := s.ents } l { p with f := putF p.f 11 (.slice (some ⟨g, o6, none⟩) rest3.length c6) } ⟨N, X, sn⟩ hl12 Hl.out).mono ?_
              rintro e w13 ⟨rfl, E', hl13, hE13, hu13⟩
              have Hl12 := Lib.hid hl12
              have Hg12 := Lib.hid hg12
              have Hb12 := Lib.hid hb12
              have Hu12 := Lib.hid hu12
              have Hl13 := Lib.hid hl13
              have HE13 := Lib.hid hE13
              have Hu13 := Lib.hid hu13
              clear hl12 hg12 hb12 hu12 hl13 hE13 hu13 hu11
              go_wp2_with fail
              go_ret
              rw [HP9.out]
              exact REnds.tell Hl12.out (fun k h => Or.inl h) (fun i hi h => by simp only [putF]; rw [if_neg h]) (by simp [putF]) Hb12.out Hu12.out (by simp) Hg12.out Hl13.out HE13.out Hu13.out
            | true =>
              have z0 := hr10.cell' (i := 0) (v := .string ⟨N.toArray⟩) (by decide) rfl
              have z1 := hr10.cell' (i := 1) (v := .string ⟨X.toArray⟩) (by decide) rfl
              have z2 := hr10.cell' (i := 2) (v := .bool false) (by decide) rfl
              have Hz := Lib.hid (And.intro z0 (And.intro z1 z2))
              have Hr10 := Lib.hid hr10
              clear z0 z1 z2 hr10
              go_wp2_with fail
              refine wp_region_held_drew (S := (fun w' => w'.cell? ⟨w1.heap.size, 0, none⟩ = some (.string ⟨N.toArray⟩) ∧ w'.cell? ⟨w1.heap.size, 1, none⟩ = some (.string ⟨X.toArray⟩) ∧ w'.cell? ⟨w1.heap.size, 2, none⟩ = some (.bool false))) (by kernel_rfl) ((by exact Hz.out)) (fun hHeld => ?_)
              refine takeH 0 (v := ?_) rfl rfl (by kernel_rfl) (by kernel_rfl) (by kernel_rfl) (fun _ _ _ h => h) (Or.inl ⟨by rfl, ?_⟩) (by assumption) ?_
              rotate_left
              · (intro w hSw; (try dsimp only at hSw); go_simp <;> with_reducible rfl)
              simp only [List.setIfInBounds_toArray, List.set_cons_zero, List.set_cons_succ]
              refine takeH 1 (v := ?_) rfl rfl (by kernel_rfl) (by kernel_rfl) (by kernel_rfl) (fun _ _ _ h => h) (Or.inl ⟨by rfl, ?_⟩) (by assumption) ?_
              rotate_left
              · (intro w hSw; (try dsimp only at hSw); go_simp <;> with_reducible rfl)
              simp only [List.setIfInBounds_toArray, List.set_cons_zero, List.set_cons_succ]
              refine takeH 2 (v := ?_) rfl rfl (by kernel_rfl) (by kernel_rfl) (by kernel_rfl) (fun _ _ _ h => h) (Or.inl ⟨by rfl, ?_⟩) (by assumption) ?_
              rotate_left
              · (intro w hSw; (try dsimp only at hSw); go_simp <;> with_reducible rfl)
              simp only [List.setIfInBounds_toArray, List.set_cons_zero, List.set_cons_succ]
              refine takeH 3 (v := ?_) rfl rfl (by kernel_rfl) (by kernel_rfl) (by kernel_rfl) (fun _ _ _ h => h) (Or.inl ⟨by rfl, ?_⟩) (by assumption) ?_
              rotate_left
              · (intro w hSw; (try dsimp only at hSw); go_simp <;> with_reducible rfl)
              simp only [List.setIfInBounds_toArray, List.set_cons_zero, List.set_cons_succ]
              refine wpAnyH_ready (rs := [4]) (by kernel_rfl) (by simp) ?_
              refine AllReadyH.cons rfl (fun K hK => ?_) AllReadyH.nil
              go_simp
              have hts : HD.tsize s.ents + HD.esize (N, X) < 2 ^ 32 := by
                have h1 := HL.out.ok.size
                have h2 := HL.out.ok.max
                show _ + (N.length + X.length + 32) < _
                omega
              have hmx : s.max < 2 ^ 32 := by have := HL.out.ok.max; omega
              refine (add_any B _ d 16 _ s.ents p.cnt s.max p.ev p.m1 p.m2 p.l1 p.l2 (N, X) Hl10.out.mem.tab.drew Hl10.out.mem.sized Hl10.out.lo Hc.out hents hmx hts).mono ?_
              rintro e w12 ⟨rfl, q, ev', f', hq, hev, hevb, hf, hS', hT', hu'⟩
              have hu' : Upd (tabOwn d p.ev p.m1 p.m2) w10 w12 := ((Upd.refl _ w10).drew).step hu'
              have hto : ∀ k, tabOwn d p.ev p.m1 p.m2 k → k < w.heap.size := fun k hk => HL.out.mem.tab.own_lt hk
              have hnb : ¬ tabOwn d p.ev p.m1 p.m2 w1.heap.size := fun h => by have := hto _ h; omega
              have hr11 := Hr10.out.of_heap (hu'.block w1.heap.size hb1s hnb)
              have z0 := hr11.cell' (i := 0) (v := .string ⟨N.toArray⟩) (by decide) rfl
              have z1 := hr11.cell' (i := 1) (v := .string ⟨X.toArray⟩) (by decide) rfl
              have z2 := hr11.cell' (i := 2) (v := .bool false) (by decide) rfl
              have zf := fun j => hr11.unfrozen j none
              have hto2 : ∀ k, tabOwn d ev' p.m1 p.m2 k → tabOwn d p.ev p.m1 p.m2 k ∨ w10.heap.size ≤ k := fun k hk => by
                rcases hk with h | h | h | h
                · exact Or.inl (Or.inl h)
                · rcases hevb with e | ⟨g', e, hg'⟩
                  · exact Or.inl (Or.inr (Or.inl (e ▸ h)))
                  · rw [e] at h
                    obtain rfl := Option.some.inj h
                    exact Or.inr hg'
                · exact Or.inl (Or.inr (Or.inr (Or.inl h)))
                · exact Or.inl (Or.inr (Or.inr (Or.inr h)))
              have hE10 : ∀ k, p.E k → w12.heap[k]? = w10.heap[k]? := fun k hk => hu'.block k (M.lt Hl10.out.em hk) fun h => HL.out.apart k h hk
              have hl11 : Live B w12 d M { s with ents := HD.evict s.max (s.ents ++ [(N, X)]) } l ⟨f', p.cnt + q, ev', p.m1, p.m2, delS (p.cnt + 1) ((s.ents ++ [(N, X)]).take q) (mput p.l1 N (s.ents.length + p.cnt + 1)), delP (p.cnt + 1) ((s.ents ++ [(N, X)]).take q) (mput p.l2 (N, X) (s.ents.length + p.cnt + 1)), p.E⟩ := by
                refine ⟨⟨hT', hS', ?_, ?_, ?_, ?_⟩, M.frame Hl10.out.em hE10, HL.out.emB, ?_, fun k hk he => ?_, ⟨HD.evict_le _ _, HL.out.ok.max, HL.out.ok.allowed, fun e he => ?_⟩⟩
                · exact (hf 7 (by decide)).trans Hl10.out.mem.allowed
                · exact (hf 9 (by decide)).trans Hl10.out.mem.on
                · exact (hf 10 (by decide)).trans Hl10.out.mem.most
                · exact (hf 15 (by decide)).trans Hl10.out.mem.first
                · exact (hf 8 (by decide)).trans Hl10.out.emv
                · rcases hto2 k hk with h | h
                  · exact HL.out.apart k h he
                  · have := M.lt HL.out.em he
                    omega
                · have he : e ∈ HD.evict s.max (s.ents ++ [(N, X)]) := he
                  rw [hev] at he
                  rcases List.mem_append.1 (List.mem_of_mem_drop he) with h | h
                  · exact HL.out.ok.short e h
                  · obtain rfl := List.mem_singleton.1 h
                    exact ⟨hN27, hX27⟩
              have hlen : (HD.evict s.max (s.ents ++ [(N, X)])).length + q = s.ents.length + 1 := by
                rw [hev, List.length_drop, List.length_append]
                simp only [List.length_singleton]
                omega
              have hgn : ¬ tabOwn d p.ev p.m1 p.m2 g := fun h => Hl10.out.kind Hg10.out (Or.inl h)
              have hb11 : Buf w12 g o6 c6 rest3 := Hb10.out.kept fun _ => hu'.block g Hg10.out.lt hgn
              have hg11 : IsU8 w12 g := Hg10.out.of_heap (hu'.block g Hg10.out.lt hgn)
              have hu11' : Upd (p.own d) w w12 := Hu10.out.trans hu' (fun k _ h => Or.inl h)
              have Hf := Lib.hid hf
              have Hl10 := Lib.hid hl11
              have Hb10 := Lib.hid hb11
              have Hg10 := Lib.hid hg11
              have Hu10 := Lib.hid hu11'
              have Hlen := Lib.hid hlen
              have Hto2 := Lib.hid hto2
              clear hev hevb hf hS' hT' hu' hnb hr11 hE10 hl11 hb11 hg11 hu11' hlen hgn hto2
              go_simp
              refine hK.out _ _ (by exact ⟨z0, z1, z2⟩) (fun hHeld => ?_)
              clear hK K
              refine wpAnyH_done (by kernel_rfl) ?_ _
              go_wp2_with fail
              refine (sensitive_any it sn Hsn.out _).mono ?_
              rintro e w11 ⟨rfl, hw11⟩
              subst hw11
              go_wp2_with fail
              have hu11 : Upd (fun k => k = w1.heap.size) w11 (w11.setCell ⟨w1.heap.size, 2, none⟩ (.bool sn)) := (Upd.refl (fun k => k = w1.heap.size) w11).setCell (a := ⟨w1.heap.size, 2, none⟩) (Or.inl rfl) _
              have hw10s : w.heap.size ≤ w10.heap.size := by omega
              have hto2 := Hto2.out
              have hf := Hf.out
              have hlen := Hlen.out
              have hnum : p.cnt + q + (HD.evict s.max (s.ents ++ [(N, X)])).length ≤ p.cnt + s.ents.length + 1 := by omega
              have hnb2 : ∀ k, (tabOwn d ev' p.m1 p.m2 k ∨ p.E k) → k ≠ w1.heap.size := fun k hk e => by
                rcases hk with h | h
                · rcases hto2 k h with h | h
                  · have := hto k h; omega
                  · omega
                · have := M.lt HL.out.em h; omega
              have hnp : ∀ k, DP.own d ⟨f', p.cnt + q, ev', p.m1, p.m2, delS (p.cnt + 1) ((s.ents ++ [(N, X)]).take q) (mput p.l1 N (s.ents.length + p.cnt + 1)), delP (p.cnt + 1) ((s.ents ++ [(N, X)]).take q) (mput p.l2 (N, X) (s.ents.length + p.cnt + 1)), p.E⟩ k → k ≠ w1.heap.size := hnb2
              have hl12 := Hl10.out.frame (w' := w11.setCell ⟨w1.heap.size, 2, none⟩ (.bool sn)) fun k hk => other_set (Ne.symm (hnp k hk))
              have hg12 : IsU8 (w11.setCell ⟨w1.heap.size, 2, none⟩ (.bool sn)) g := Hg10.out.of_heap (other_set (by show w1.heap.size ≠ g; omega))
              have hb12 : Buf (w11.setCell ⟨w1.heap.size, 2, none⟩ (.bool sn)) g o6 c6 rest3 := Hb10.out.kept fun _ => other_set (by show w1.heap.size ≠ g; omega)
              have hu12 : Upd (p.own d) w (w11.setCell ⟨w1.heap.size, 2, none⟩ (.bool sn)) := Hu10.out.trans hu11 (fun k hk e => by omega)
              refine (callEmit_any B _ d M HM.out { s with ents := HD.evict s.max (s.ents ++ [(N, X)]) } l ⟨f', p.cnt + q, ev', p.m1, p.m2, delS (p.cnt + 1) ((s.ents ++ [(N, X)]).take q) (mput p.l1 N (s.ents.length + p.cnt + 1)), delP (p.cnt + 1) ((s.ents ++ [(N, X)]).take q) (mput p.l2 (N, X) (s.ents.length + p.cnt + 1)), p.E⟩ ⟨N, X, sn⟩ hl12 Hl.out).mono ?_
              rintro e w13 ⟨rfl, E', hl13, hE13, hu13⟩
              have Hl12 := Lib.hid hl12
              have Hg12 := Lib.hid hg12
              have Hb12 := Lib.hid hb12
              have Hu12 := Lib.hid hu12
              have Hl13 := Lib.hid hl13
              have HE13 := Lib.hid hE13
              have Hu13 := Lib.hid hu13
              clear hl12 hg12 hb12 hu12 hl13 hE13 hu13 hu11
              go_wp2_with fail
              go_ret
              rw [HP9.out]
              exact REnds.tell Hl12.out (fun k h => h.elim (fun h => (hto2 k h).imp Or.inl (fun h => Nat.le_trans hw10s h)) (fun h => Or.inl (Or.inr h))) (fun i hi h => (hf i (by omega)).trans (by simp only [putF]; rw [if_neg h])) ((hf 11 (by decide)).trans (by simp [putF])) Hb12.out Hu12.out hnum Hg12.out Hl13.out HE13.out Hu13.out
end Go.Proofs.YtjdmaflkafmmpaaDoor
/-
  Every representation meets what is asked of it, if the emitter meets what is asked of it.
-/
namespace Go.Proofs.YtjdmaflkafmmpaaDoor
open Go.ChangeShapes Go.WideShapes Go.ChangeAt Go.RowKit

theorem stepsAll {B d : Nat} {M : Emitter} {aI aN aL : Addr} (hM : EmOk B M) : Steps B d M aI aN aL (fun _ v => v.length ≤ 2 ^ 26) where
  ok s v h hne := by
    cases v with
    | nil => exact absurd rfl hne
    | cons b v =>
      intro w p l g o cap hL hE hb hu h11 hc hl
      have hl40 : l.length ≤ 2 ^ 40 := by omega
      have c11 := hL.row.cell' (i := 11) (by decide) h11
      have hb256 : b.toNat < 256 := b.toNat_lt
      by_cases h1 : 128 ≤ b.toNat
      · have hP : HD.pRepr s (b :: v) = HD.pIdx s (b :: v) := by rw [HD.pRepr, if_pos h1]
        rw [hP]
        refine repr_idx d g o v.length cap b.toNat w _ c11 hb.head hb256 h1 REnds.back ?_
        exact pIdx_any B w d g o cap M hM s l p aI aN aL _ hL hE hb hu h11 hl40
      · by_cases h2 : 64 ≤ b.toNat
        · have hP : HD.pRepr s (b :: v) = HD.pLit s 6 true false (b :: v) := by rw [HD.pRepr, if_neg h1, if_pos h2]
          rw [hP]
          refine repr_lit6 d g o v.length cap b.toNat w _ c11 hb.head (by omega) h2 REnds.back ?_
          exact pLit_any B w d g o cap M hM s l p aI aN aL _ 6 (by decide) 0 true false (by decide) (by decide) hL hE hb hu h11 hc hl40 h
        · by_cases h3 : b.toNat < 16
          · have hP : HD.pRepr s (b :: v) = HD.pLit s 4 false false (b :: v) := by rw [HD.pRepr, if_neg h1, if_neg h2, if_pos h3]
            rw [hP]
            refine repr_lit4 d g o v.length cap b.toNat w _ c11 hb.head h3 REnds.back ?_
            exact pLit_any B w d g o cap M hM s l p aI aN aL _ 4 (by decide) 1 false false (by decide) (by decide) hL hE hb hu h11 hc hl40 h
          · by_cases h4 : b.toNat < 32
            · have hP : HD.pRepr s (b :: v) = HD.pLit s 4 false true (b :: v) := by rw [HD.pRepr, if_neg h1, if_neg h2, if_neg h3, if_pos h4]
              rw [hP]
              refine repr_lit4s d g o v.length cap b.toNat w _ c11 hb.head h4 (by omega) REnds.back ?_
              exact pLit_any B w d g o cap M hM s l p aI aN aL _ 4 (by decide) 2 false true (by decide) (by decide) hL hE hb hu h11 hc hl40 h
            · exact reprUpd_any B w d g o cap M s l p aI aN aL b v hL hE hb hu h11 hc (by omega) (by omega)
  next s v ents max o rest h hr := by
    have := HD.pRepr_len hr
    omega
end Go.Proofs.YtjdmaflkafmmpaaDoor
