/-
  Texts of this seat, one behind the other: DAllow, DSteps, DWr, Cmds, LaidTabs, ErrTab, EnvTab, HD7. What each one shows stands at its head. No condition.
-/
import Derived.Test.YtlkpeeoippbdoaaDoorMg7
import Derived.Test.YtlkpeeoippbdoaaDoorCards
import Derived.Test.YtlkpeeoippbdoaaDoorTie
import Derived.ProofKit
import Derived.OpenShut
import Derived.LaidMore
import Derived.LaidHandle
import Derived.Deep.DeepHandedRow
import Derived.Deep.DeepWitnessRowRef
import Derived.Lib.LaidTab
import Derived.Stop.LaidErr
import Derived.Deep.DeepLaidRun
import Derived.Stop.LaidTwo
/-
  A step of a decoder that tells no bytes: SetAllowedMaxDynamicTableSize, Close, SetEmitEnabled, EmitEnabled.
-/
namespace Go.Proofs.YtlkpeeoippbdoaaDoor
open Go.ChangeShapes Go.WideShapes Go.ChangeAt Go.RowKit

def ans0 : Array Value := #[.slice none 0 0, .slice none 0 0, .int .i64 0, .bool false, .int .i64 0, .int .i64 0]
/-- Memory when a step has been given its value. -/
theorem dec_world (w : World) (cs : Array Value) : Below w.heap.size w (((w.alloc (.cells cs 27)).alloc (.cells ans0 37)).alloc (.cells ans0 37)) ∧
    Row (((w.alloc (.cells cs 27)).alloc (.cells ans0 37)).alloc (.cells ans0 37)) (w.heap.size + 1) 6 (fun i => ans0.getD i undef) ∧
    Row (((w.alloc (.cells cs 27)).alloc (.cells ans0 37)).alloc (.cells ans0 37)) (w.heap.size + 1 + 1) 6 (fun i => ans0.getD i undef) := by
  have hf : ∀ i, i < 6 → ans0[i]? = some (ans0.getD i undef) := fun i hi => by
    rw [Array.getD_eq_getD_getElem?, Array.getElem?_eq_getElem (show i < ans0.size from hi)]; rfl
  refine ⟨(((Below.refl _ w).alloc (Nat.le_refl _) _).alloc (by simp) _).alloc (by simp; omega) _, ?_, ?_⟩
  · have h := Row.new (w.alloc (.cells cs 27)) 37 (by decide) (n := 6) rfl hf
    have hs : (w.alloc (.cells cs 27)).heap.size = w.heap.size + 1 := by simp
    rw [hs] at h
    exact h.alloc _
  · have h := Row.new ((w.alloc (.cells cs 27)).alloc (.cells ans0 37)) 37 (by decide) (n := 6) rfl hf
    have hs : ((w.alloc (.cells cs 27)).alloc (.cells ans0 37)).heap.size = w.heap.size + 1 + 1 := by simp
    rw [hs] at h
    exact h

theorem Row.notU8 {w : World} {b n : Nat} {f : Nat → Value} (h : Row w b n f) : ¬ IsU8 w b := by
  obtain ⟨cs, t, hb, -, -, ht⟩ := h
  rintro ⟨cs', fz, hb'⟩
  rw [hb] at hb'; injection hb' with hb'; injection hb' with _ hb' _; exact ht hb'
/-- Cells of the decoder's struct that tell its mode have changed. -/
theorem Live.mode {B : Nat} {w w' : World} {d : Nat} {M : Emitter} {s s' : HD.St} {l : List HD.Fld} {p : DP} (h : Live B w d M s l p) {f' : Nat → Value} (hr : Row w' d 16 f') (hf : ∀ i, i < 11 → i ≠ 7 → i ≠ 9 → f' i = p.f i) (h7 : f' 7 = .int .u32 (s'.allowed : Nat)) (h9 : f' 9 = .bool s'.on) (h15 : f' 15 = .bool s'.first)
    (he : s'.ents = s.ents) (hm : s'.max = s.max) (ha : s'.allowed ≤ 2 ^ 31) (ho : ∀ k, k ≠ d → p.own d k → w'.heap[k]? = w.heap[k]?) : Live B w' d M s' l { p with f := f' } := by
  have hT := h.mem.tab
  refine ⟨⟨?_, ⟨(hf 5 (by decide) (by decide) (by decide)).trans (by rw [he]; exact h.mem.sized.size), (hf 6 (by decide) (by decide) (by decide)).trans (by rw [hm]; exact h.mem.sized.max)⟩, h7, h9, (hf 10 (by decide) (by decide) (by decide)).trans h.mem.most, h15⟩,
    M.frame h.em fun k hk => ho k (fun e => h.dE (e ▸ hk)) (Or.inr hk), h.emB, (hf 8 (by decide) (by decide) (by decide)).trans h.emv, h.apart, ⟨by rw [he, hm]; exact h.ok.size, by rw [hm]; exact h.ok.max, ha, by rw [he]; exact h.ok.short⟩⟩
  rw [he]
  exact ⟨hr, hT.big, (hf 0 (by decide) (by decide) (by decide)).trans hT.c0, (hf 1 (by decide) (by decide) (by decide)).trans hT.c1, (hf 2 (by decide) (by decide) (by decide)).trans hT.c2, (hf 3 (by decide) (by decide) (by decide)).trans hT.c3, (hf 4 (by decide) (by decide) (by decide)).trans hT.c4,
    ownsRow_of_heap hT.own fun g hg => ho g (fun e => hT.ne (by rw [hg, e])) (Or.inl (Or.inr (Or.inl hg))), hT.ne, hT.mm, hT.lo, hT.map1.of_heap (ho _ (fun e => hT.b_m1 e.symm) (Or.inl (Or.inr (Or.inr (Or.inl rfl))))), hT.map2.of_heap (ho _ (fun e => hT.b_m2 e.symm) (Or.inl (Or.inr (Or.inr (Or.inr rfl)))))⟩

/-- The answer is put together. -/
theorem ans_upd (w1 : World) (n : Nat) (x0 x1 y0 y1 y2 y3 y4 y5 : Value) : Upd (fun i => i = n + 1 ∨ i = n + 1 + 1) w1 ((((((((w1.setCell ⟨n + 1 + 1, 4, none⟩ x0).setCell ⟨n + 1 + 1, 5, none⟩ x1).setCell ⟨n + 1, 0, none⟩ y0).setCell ⟨n + 1, 1, none⟩ y1).setCell ⟨n + 1, 2, none⟩ y2).setCell ⟨n + 1, 3, none⟩ y3).setCell ⟨n + 1, 4, none⟩ y4).setCell ⟨n + 1, 5, none⟩ y5) :=
  ((((((((Upd.refl _ w1).setCell (a := ⟨n + 1 + 1, 4, none⟩) (Or.inl (Or.inr rfl)) x0).setCell (a := ⟨n + 1 + 1, 5, none⟩) (Or.inl (Or.inr rfl)) x1).setCell (a := ⟨n + 1, 0, none⟩) (Or.inl (Or.inl rfl)) y0).setCell (a := ⟨n + 1, 1, none⟩) (Or.inl (Or.inl rfl)) y1).setCell (a := ⟨n + 1, 2, none⟩) (Or.inl (Or.inl rfl)) y2).setCell (a := ⟨n + 1, 3, none⟩) (Or.inl (Or.inl rfl)) y3).setCell (a := ⟨n + 1, 4, none⟩) (Or.inl (Or.inl rfl)) y4).setCell (a := ⟨n + 1, 5, none⟩) (Or.inl (Or.inl rfl)) y5

theorem DEnds.close {B : Nat} {w w1 w2 w3 wf : World} {d : Nat} {M : Emitter} {s : HD.St} {l : List HD.Fld} {p p' : DP} {N : Nat} {r : HD.DS × HD.Ans} {lv : Value} {nn : Int} (hL : Live B w d M s l p)
    (hl : Live B w1 d M r.1.st (l ++ r.2.out) p') (hs : Save B w1 d p'.f r.1.save) (ho : ∀ k, p'.own d k → p.own d k ∨ w.heap.size + 3 ≤ k) (hk : Kept B (p.own d) w w1) (hn : p'.cnt + r.1.st.ents.length + r.1.save.length ≤ N)
    (hf : FRow w1 (fun k => w.heap.size + 3 ≤ k ∧ k < w1.heap.size ∧ ¬ p'.own d k ∧ ¬ IsU8 w1 k) lv r.2.lst) {f1 f2 : Nat → Value} (hr1 : Row w1 (w.heap.size + 1) 6 f1) (hr2 : Row w1 (w.heap.size + 1 + 1) 6 f2)
    (hq1 : Upd (fun i => i = w.heap.size + 1 ∨ i = w.heap.size + 1 + 1) w1 w2) (hb : Below w2.heap.size w2 w3) (hq2 : Upd (fun i => i = w.heap.size + 1 ∨ i = w.heap.size + 1 + 1) w3 wf) :
    DEnds B w d M l p N r (.returned (.agg (ansCells (.slice none 0 0) lv nn r.2))) wf := by
  have hq : Upd (fun i => i = w.heap.size + 1 ∨ i = w.heap.size + 1 + 1) w1 wf := (hq1.step (Upd.of_below hb)).step hq2
  have hown : ∀ k, p'.own d k → wf.heap[k]? = w1.heap[k]? := fun k h => hq.block k (hl.own_lt h) (fun e => by
    rcases ho k h with h' | h'
    · have := hL.own_lt h'; omega
    · omega)
  refine ⟨p', lv, nn, rfl, hf.move (fun k hk => hq.block k hk.2.1 (fun e => by have := hk.1; omega)) (fun k hk => ⟨by omega, Nat.lt_of_lt_of_le hk.2.1 hq.size, hk.2.2.1, fun hu => hk.2.2.2 (hu.of_heap (hq.block k hk.2.1 (fun e => by have := hk.1; omega)).symm)⟩),
    hl.frame hown, hs.kept rfl rfl rfl (fun g hg => hq.block g (hs.u8 hg).lt ?_), fun k h => (ho k h).imp id (by omega), hk.trans (G := fun i => i = w.heap.size + 1 ∨ i = w.heap.size + 1 + 1) (Kept.of_upd hq hl.lo (fun k e => by have := hL.lo; omega)) (fun i hi e => by omega), hn⟩
  rintro (e | e)
  · exact hr1.notU8 (e ▸ hs.u8 hg)
  · exact hr2.notU8 (e ▸ hs.u8 hg)

set_option maxHeartbeats 4000000 in
set_option maxRecDepth 100000 in
theorem decAllow_any (B : Nat) (w : World) (d : Nat) (M : Emitter) (σ : HD.DS) (l : List HD.Fld) (p : DP) (aI aN aL : Addr) (n : Nat)
    (hL : Live B w d M σ.st l p) (hE : Env B w aI aN aL) (hV : Save B w d p.f σ.save) (hn : n ≤ 2 ^ 31) :
    Calls Tryd.prog 23 #[.pointer (some ⟨d, 0, none⟩), .agg #[.int .i64 6, .slice none 0 0, .int .i64 (n : Nat), .bool false]] w (DEnds B w d M l p (p.cnt + σ.st.ents.length + σ.save.length) (HD.dstep σ (.allow n))) := by
  have HL := Lib.hid hL
  have HE := Lib.hid hE
  have HV := Lib.hid hV
  clear hL hE hV
  have hnI : IntKind.u32.wrap (n : Int) = (n : Int) := by simp only [IntKind.wrap, IntKind.bits, IntKind.signed]; simp; omega
  have hd : d < w.heap.size := HL.out.lt
  obtain ⟨hb0, hr0, ha0⟩ := dec_world w #[.int .i64 6, .slice none 0 0, .int .i64 (n : Nat), .bool false]
  have HB0 := Lib.hid hb0
  have HR0 := Lib.hid hr0
  have HA0 := Lib.hid ha0
  clear hb0 hr0 ha0
  go_enter Tryd.func23, Tryd.ntmps23
  go_wp2_with fail
  refine (setAllowed_any d p.f (n : Nat) _ (HL.out.row.of_heap (HB0.out.block d hd)) _ HL.out.mem.allowed).mono ?_
  rintro e w1 ⟨rfl, hr1, hu1⟩
  have hkk : ∀ k, k = w.heap.size + 1 ∨ k = w.heap.size + 1 + 1 → w1.heap[k]? = _ := fun k hk => hu1.block k (by have := HA0.out.lt; omega) (by omega)
  have hrr := HR0.out.of_heap (hkk _ (Or.inl rfl))
  have hra := HA0.out.of_heap (hkk _ (Or.inr rfl))
  have Hr1 := Lib.hid hr1
  have Hu1 := Lib.hid hu1
  clear hr1 hu1 hkk
  go_wp2_with fail
  refine (codeOf_nil _).mono ?_
  rintro e w2 ⟨rfl, rfl⟩
  have a0 := hra.cell' (i := 0) (v := .slice none 0 0) (by decide) rfl
  have a1 := hra.cell' (i := 1) (v := .slice none 0 0) (by decide) rfl
  have a2 := hra.cell' (i := 2) (v := .int .i64 0) (by decide) rfl
  have a3 := hra.cell' (i := 3) (v := .bool false) (by decide) rfl
  have a4 := hra.cell' (i := 4) (v := .int .i64 0) (by decide) rfl
  have a5 := hra.cell' (i := 5) (v := .int .i64 0) (by decide) rfl
  have r0 := hrr.cell' (i := 0) (v := .slice none 0 0) (by decide) rfl
  have r1 := hrr.cell' (i := 1) (v := .slice none 0 0) (by decide) rfl
  have r2 := hrr.cell' (i := 2) (v := .int .i64 0) (by decide) rfl
  have r3 := hrr.cell' (i := 3) (v := .bool false) (by decide) rfl
  have r4 := hrr.cell' (i := 4) (v := .int .i64 0) (by decide) rfl
  have r5 := hrr.cell' (i := 5) (v := .int .i64 0) (by decide) rfl
  have fza := fun i => hra.unfrozen i none
  have fzr := fun i => hrr.unfrozen i none
  go_wp2_with fail
  (try simp only [Exit.inBlock, Exit.then])
  refine bodyPost_ret (v := .agg (ansCells (.slice none 0 0) (.slice none 0 0) 0 ⟨[], [], false, none⟩)) ?_ rfl ?_
  · simp only [results, Tryd.results23]
    go_simp
    rfl
  have hb1 : Below B w w1 := by
    have h1 := HB0.out.mono HL.out.lo
    exact h1.trans (Hu1.out.below (Nat.le_trans HL.out.lo HB0.out.size) (fun k e => by rw [e]; exact HL.out.mem.tab.lo.1))
  have hk1 : ∀ k, k ≠ d → k < w.heap.size → w1.heap[k]? = w.heap[k]? := fun k hk hlt => (Hu1.out.block k (Nat.lt_of_lt_of_le hlt HB0.out.size) hk).trans (HB0.out.block k hlt)
  have hl : Live B w1 d M { σ.st with allowed := n } (l ++ []) { p with f := putF p.f 7 (.int .u32 (n : Nat)) } := by
    rw [List.append_nil]
    exact HL.out.mode Hr1.out (fun i hi h7 h9 => by simp only [putF]; rw [if_neg h7]) (by simp [putF]) (by simp [putF, HL.out.mem.on]) (by simp [putF, HL.out.mem.first]) rfl rfl hn (fun k hne ho => hk1 k hne (HL.out.own_lt ho))
  refine DEnds.close (r := HD.dstep σ (.allow n)) (nn := 0) HL.out hl (HV.out.kept rfl rfl rfl (fun g hg => hk1 g (fun e => HV.out.ne (by rw [hg, e])) (HV.out.u8 hg).lt)) (fun k h => Or.inl h)
    ⟨hb1, fun k hlt hn _ => hk1 k (fun e => hn (e ▸ Or.inl (Or.inl rfl))) hlt⟩ (Nat.le_refl _) (FRow.nil _ _) hrr hra (Upd.refl _ _) (Below.refl _ _) (ans_upd w1 w.heap.size _ _ _ _ _ _ _ _)
end Go.Proofs.YtlkpeeoippbdoaaDoor
/-
  Steps of a decoder: Write, Close, SetEmitEnabled, EmitEnabled.
-/
namespace Go.Proofs.YtlkpeeoippbdoaaDoor
open Go.ChangeShapes Go.WideShapes Go.ChangeAt Go.RowKit

set_option maxHeartbeats 4000000 in
set_option maxRecDepth 100000 in
theorem decOn_any (B : Nat) (w : World) (d : Nat) (M : Emitter) (σ : HD.DS) (l : List HD.Fld) (p : DP) (aI aN aL : Addr) (b : Bool)
    (hL : Live B w d M σ.st l p) (hE : Env B w aI aN aL) (hV : Save B w d p.f σ.save) :
    Calls Tryd.prog 23 #[.pointer (some ⟨d, 0, none⟩), .agg #[.int .i64 4, .slice none 0 0, .int .i64 0, .bool b]] w (DEnds B w d M l p (p.cnt + σ.st.ents.length + σ.save.length) (HD.dstep σ (.on b))) := by
  have HL := Lib.hid hL
  have HE := Lib.hid hE
  have HV := Lib.hid hV
  clear hL hE hV
  have hd : d < w.heap.size := HL.out.lt
  obtain ⟨hb0, hr0, ha0⟩ := dec_world w #[.int .i64 4, .slice none 0 0, .int .i64 0, .bool b]
  have HB0 := Lib.hid hb0
  have HR0 := Lib.hid hr0
  have HA0 := Lib.hid ha0
  clear hb0 hr0 ha0
  go_enter Tryd.func23, Tryd.ntmps23
  go_wp2_with fail
  refine (setOn_any d p.f b _ (HL.out.row.of_heap (HB0.out.block d hd)) _ HL.out.mem.on).mono ?_
  rintro e w1 ⟨rfl, hr1, hu1⟩
  have hkk : ∀ k, k = w.heap.size + 1 ∨ k = w.heap.size + 1 + 1 → w1.heap[k]? = _ := fun k hk => hu1.block k (by have := HA0.out.lt; omega) (by omega)
  have hrr := HR0.out.of_heap (hkk _ (Or.inl rfl))
  have hra := HA0.out.of_heap (hkk _ (Or.inr rfl))
  have Hr1 := Lib.hid hr1
  have Hu1 := Lib.hid hu1
  clear hr1 hu1 hkk
  go_wp2_with fail
  refine (codeOf_nil _).mono ?_
  rintro e w2 ⟨rfl, rfl⟩
  have a0 := hra.cell' (i := 0) (v := .slice none 0 0) (by decide) rfl
  have a1 := hra.cell' (i := 1) (v := .slice none 0 0) (by decide) rfl
  have a2 := hra.cell' (i := 2) (v := .int .i64 0) (by decide) rfl
  have a3 := hra.cell' (i := 3) (v := .bool false) (by decide) rfl
  have a4 := hra.cell' (i := 4) (v := .int .i64 0) (by decide) rfl
  have a5 := hra.cell' (i := 5) (v := .int .i64 0) (by decide) rfl
  have r0 := hrr.cell' (i := 0) (v := .slice none 0 0) (by decide) rfl
  have r1 := hrr.cell' (i := 1) (v := .slice none 0 0) (by decide) rfl
  have r2 := hrr.cell' (i := 2) (v := .int .i64 0) (by decide) rfl
  have r3 := hrr.cell' (i := 3) (v := .bool false) (by decide) rfl
  have r4 := hrr.cell' (i := 4) (v := .int .i64 0) (by decide) rfl
  have r5 := hrr.cell' (i := 5) (v := .int .i64 0) (by decide) rfl
  have fza := fun i => hra.unfrozen i none
  have fzr := fun i => hrr.unfrozen i none
  go_wp2_with fail
  (try simp only [Exit.inBlock, Exit.then])
  refine bodyPost_ret (v := .agg (ansCells (.slice none 0 0) (.slice none 0 0) 0 ⟨[], [], false, none⟩)) ?_ rfl ?_
  · simp only [results, Tryd.results23]
    go_simp
    rfl
  have hb1 : Below B w w1 := by
    have h1 := HB0.out.mono HL.out.lo
    exact h1.trans (Hu1.out.below (Nat.le_trans HL.out.lo HB0.out.size) (fun k e => by rw [e]; exact HL.out.mem.tab.lo.1))
  have hk1 : ∀ k, k ≠ d → k < w.heap.size → w1.heap[k]? = w.heap[k]? := fun k hk hlt => (Hu1.out.block k (Nat.lt_of_lt_of_le hlt HB0.out.size) hk).trans (HB0.out.block k hlt)
  have hl : Live B w1 d M { σ.st with on := b } (l ++ []) { p with f := putF p.f 9 (.bool b) } := by
    rw [List.append_nil]
    exact HL.out.mode Hr1.out (fun i hi h7 h9 => by simp only [putF]; rw [if_neg h9]) (by simp [putF, HL.out.mem.allowed]) (by simp [putF]) (by simp [putF, HL.out.mem.first]) rfl rfl HL.out.ok.allowed (fun k hne ho => hk1 k hne (HL.out.own_lt ho))
  refine DEnds.close (r := HD.dstep σ (.on b)) (nn := 0) HL.out hl (HV.out.kept rfl rfl rfl (fun g hg => hk1 g (fun e => HV.out.ne (by rw [hg, e])) (HV.out.u8 hg).lt)) (fun k h => Or.inl h)
    ⟨hb1, fun k hlt hn _ => hk1 k (fun e => hn (e ▸ Or.inl (Or.inl rfl))) hlt⟩ (Nat.le_refl _) (FRow.nil _ _) hrr hra (Upd.refl _ _) (Below.refl _ _) (ans_upd w1 w.heap.size _ _ _ _ _ _ _ _)

set_option maxHeartbeats 4000000 in
set_option maxRecDepth 100000 in
theorem decIsOn_any (B : Nat) (w : World) (d : Nat) (M : Emitter) (σ : HD.DS) (l : List HD.Fld) (p : DP) (aI aN aL : Addr)
    (hL : Live B w d M σ.st l p) (hE : Env B w aI aN aL) (hV : Save B w d p.f σ.save) :
    Calls Tryd.prog 23 #[.pointer (some ⟨d, 0, none⟩), .agg #[.int .i64 7, .slice none 0 0, .int .i64 0, .bool false]] w (DEnds B w d M l p (p.cnt + σ.st.ents.length + σ.save.length) (HD.dstep σ .isOn)) := by
  have HL := Lib.hid hL
  have HE := Lib.hid hE
  have HV := Lib.hid hV
  clear hL hE hV
  have hd : d < w.heap.size := HL.out.lt
  obtain ⟨hb0, hr0, ha0⟩ := dec_world w #[.int .i64 7, .slice none 0 0, .int .i64 0, .bool false]
  have HB0 := Lib.hid hb0
  have HR0 := Lib.hid hr0
  have HA0 := Lib.hid ha0
  clear hb0 hr0 ha0
  go_enter Tryd.func23, Tryd.ntmps23
  go_wp2_with fail
  refine (emitOn_any d σ.st.on _ ((HL.out.row.of_heap (HB0.out.block d hd)).cell' (by decide) HL.out.mem.on)).mono ?_
  rintro e w1 ⟨rfl, hw1⟩
  have hrr : Row w1 _ _ _ := HR0.out.of_heap (by rw [hw1])
  have hra : Row w1 _ _ _ := HA0.out.of_heap (by rw [hw1])
  have hb1 : Below w.heap.size w w1 := by rw [hw1]; exact HB0.out
  have Hb1 := Lib.hid hb1
  clear hw1 hb1
  have a0 := hra.cell' (i := 0) (v := .slice none 0 0) (by decide) rfl
  have a1 := hra.cell' (i := 1) (v := .slice none 0 0) (by decide) rfl
  have a2 := hra.cell' (i := 2) (v := .int .i64 0) (by decide) rfl
  have a3 := hra.cell' (i := 3) (v := .bool false) (by decide) rfl
  have a4 := hra.cell' (i := 4) (v := .int .i64 0) (by decide) rfl
  have a5 := hra.cell' (i := 5) (v := .int .i64 0) (by decide) rfl
  have r0 := hrr.cell' (i := 0) (v := .slice none 0 0) (by decide) rfl
  have r1 := hrr.cell' (i := 1) (v := .slice none 0 0) (by decide) rfl
  have r2 := hrr.cell' (i := 2) (v := .int .i64 0) (by decide) rfl
  have r3 := hrr.cell' (i := 3) (v := .bool false) (by decide) rfl
  have r4 := hrr.cell' (i := 4) (v := .int .i64 0) (by decide) rfl
  have r5 := hrr.cell' (i := 5) (v := .int .i64 0) (by decide) rfl
  have fza := fun i => hra.unfrozen i none
  have fzr := fun i => hrr.unfrozen i none
  go_wp2_with fail
  refine (codeOf_nil _).mono ?_
  rintro e w2 ⟨rfl, rfl⟩
  go_wp2_with fail
  (try simp only [Exit.inBlock, Exit.then])
  refine bodyPost_ret (v := .agg (ansCells (.slice none 0 0) (.slice none 0 0) 0 ⟨[], [], σ.st.on, none⟩)) ?_ rfl ?_
  · simp only [results, Tryd.results23]
    go_simp
    rfl
  have hl : Live B w1 d M σ.st (l ++ []) p := by
    rw [List.append_nil]
    exact HL.out.below Hb1.out
  refine DEnds.close (r := HD.dstep σ .isOn) (nn := 0) HL.out hl (HV.out.kept rfl rfl rfl (fun g hg => Hb1.out.block g (HV.out.u8 hg).lt)) (fun k h => Or.inl h)
    (Kept.of_below Hb1.out HL.out.lo) (Nat.le_refl _) (FRow.nil _ _) hrr hra ((Upd.refl _ _).setCell (a := ⟨w.heap.size + 1 + 1, 3, none⟩) (Or.inl (Or.inr rfl)) (.bool σ.st.on)) (Below.refl _ _) (ans_upd _ w.heap.size _ _ _ _ _ _ _ _)

set_option maxHeartbeats 4000000 in
set_option maxRecDepth 100000 in
theorem decClose_any (B : Nat) (w : World) (d : Nat) (M : Emitter) (σ : HD.DS) (l : List HD.Fld) (p : DP) (aI aN aL : Addr)
    (hL : Live B w d M σ.st l p) (hE : Env B w aI aN aL) (hV : Save B w d p.f σ.save) (hlen : σ.save.length < 2 ^ 46) :
    Calls Tryd.prog 23 #[.pointer (some ⟨d, 0, none⟩), .agg #[.int .i64 1, .slice none 0 0, .int .i64 0, .bool false]] w (DEnds B w d M l p (p.cnt + σ.st.ents.length + σ.save.length) (HD.dstep σ .close)) := by
  have HL := Lib.hid hL
  have HE := Lib.hid hE
  have HV := Lib.hid hV
  clear hL hE hV
  obtain ⟨c12, a12, h12⟩ : ∃ (c : Nat) (a : Option Addr), p.f 12 = .slice a σ.save.length c := by
    obtain ⟨a, c, h⟩ := own_form HV.out.own
    exact ⟨c, a, h⟩
  have H12 := Lib.hid h12
  clear h12
  have hd : d < w.heap.size := HL.out.lt
  obtain ⟨hb0, hr0, ha0⟩ := dec_world w #[.int .i64 1, .slice none 0 0, .int .i64 0, .bool false]
  have HB0 := Lib.hid hb0
  have HR0 := Lib.hid hr0
  have HA0 := Lib.hid ha0
  clear hb0 hr0 ha0
  go_enter Tryd.func23, Tryd.ntmps23
  go_wp2_with fail
  rcases Classical.em (σ.save = []) with hs0 | hs0
  · have h12 : p.f 12 = .slice a12 0 c12 := by rw [H12.out, hs0]; rfl
    refine (closeOk_any d c12 a12 p.f _ (HL.out.row.of_heap (HB0.out.block d hd)) h12 HV.out.off _ HL.out.mem.first).mono ?_
    rintro e w1 ⟨rfl, hr1, hu1⟩
    have hkk : ∀ k, k = w.heap.size + 1 ∨ k = w.heap.size + 1 + 1 → w1.heap[k]? = _ := fun k hk => hu1.block k (by have := HA0.out.lt; omega) (by omega)
    have hrr := HR0.out.of_heap (hkk _ (Or.inl rfl))
    have hra := HA0.out.of_heap (hkk _ (Or.inr rfl))
    have Hr1 := Lib.hid hr1
    have Hu1 := Lib.hid hu1
    clear hr1 hu1 hkk
    go_wp2_with fail
    refine (codeOf_nil _).mono ?_
    rintro e w2 ⟨rfl, rfl⟩
    have a0 := hra.cell' (i := 0) (v := .slice none 0 0) (by decide) rfl
    have a1 := hra.cell' (i := 1) (v := .slice none 0 0) (by decide) rfl
    have a2 := hra.cell' (i := 2) (v := .int .i64 0) (by decide) rfl
    have a3 := hra.cell' (i := 3) (v := .bool false) (by decide) rfl
    have a4 := hra.cell' (i := 4) (v := .int .i64 0) (by decide) rfl
    have a5 := hra.cell' (i := 5) (v := .int .i64 0) (by decide) rfl
    have r0 := hrr.cell' (i := 0) (v := .slice none 0 0) (by decide) rfl
    have r1 := hrr.cell' (i := 1) (v := .slice none 0 0) (by decide) rfl
    have r2 := hrr.cell' (i := 2) (v := .int .i64 0) (by decide) rfl
    have r3 := hrr.cell' (i := 3) (v := .bool false) (by decide) rfl
    have r4 := hrr.cell' (i := 4) (v := .int .i64 0) (by decide) rfl
    have r5 := hrr.cell' (i := 5) (v := .int .i64 0) (by decide) rfl
    have fza := fun i => hra.unfrozen i none
    have fzr := fun i => hrr.unfrozen i none
    go_wp2_with fail
    (try simp only [Exit.inBlock, Exit.then])
    refine bodyPost_ret (v := .agg (ansCells (.slice none 0 0) (.slice none 0 0) 0 ⟨[], [], false, none⟩)) ?_ rfl ?_
    · simp only [results, Tryd.results23]
      go_simp
      rfl
    have hb1 : Below B w w1 := by
      have h1 := HB0.out.mono HL.out.lo
      exact h1.trans (Hu1.out.below (Nat.le_trans HL.out.lo HB0.out.size) (fun k e => by rw [e]; exact HL.out.mem.tab.lo.1))
    have hk1 : ∀ k, k ≠ d → k < w.heap.size → w1.heap[k]? = w.heap[k]? := fun k hk hlt => (Hu1.out.block k (Nat.lt_of_lt_of_le hlt HB0.out.size) hk).trans (HB0.out.block k hlt)
    have hl : Live B w1 d M { σ.st with first := true } (l ++ []) { p with f := putF p.f 15 (.bool true) } := by
      rw [List.append_nil]
      exact HL.out.put Hr1.out (fun i hi => by simp only [putF]; rw [if_neg (by omega)]) (by simp [putF]) (fun k hne ho => hk1 k hne (HL.out.own_lt ho))
    have hst : HD.dstep σ .close = (⟨{ σ.st with first := true }, []⟩, ⟨[], [], false, none⟩) := by simp only [HD.dstep, HD.close, if_pos hs0]
    have hsv : Save B w1 d (putF p.f 15 (.bool true)) [] := by rw [← hs0]; exact HV.out.kept rfl rfl rfl (fun g hg => hk1 g (fun e => HV.out.ne (by rw [hg, e])) (HV.out.u8 hg).lt)
    rw [hst]
    refine DEnds.close (r := (⟨{ σ.st with first := true }, []⟩, ⟨[], [], false, none⟩)) (nn := 0) HL.out hl hsv (fun k h => Or.inl h)
      ⟨hb1, fun k hlt hn _ => hk1 k (fun e => hn (e ▸ Or.inl (Or.inl rfl))) hlt⟩ (by simp) (FRow.nil _ _) hrr hra (Upd.refl _ _) (Below.refl _ _) (ans_upd w1 w.heap.size _ _ _ _ _ _ _ _)
  · obtain ⟨lr, h14⟩ := HV.out.last
    refine (closeBad_any d σ.save.length c12 a12 p.f _ (HL.out.row.of_heap (HB0.out.block d hd)) H12.out HV.out.off lr h14 (by unfold maxLen; omega) (List.length_pos_iff.2 hs0)).mono ?_
    rintro e w1 ⟨⟨x, rfl, hx⟩, hr1, hu1⟩
    have hkk : ∀ k, k = w.heap.size + 1 ∨ k = w.heap.size + 1 + 1 → w1.heap[k]? = _ := fun k hk => hu1.block k (by have := HA0.out.lt; omega) (by omega)
    have hrr0 := HR0.out.of_heap (hkk _ (Or.inl rfl))
    have hra0 := HA0.out.of_heap (hkk _ (Or.inr rfl))
    have hb1 : Below B w w1 := by
      have h1 := HB0.out.mono HL.out.lo
      exact h1.trans (hu1.below (Nat.le_trans HL.out.lo HB0.out.size) (fun k e => by rw [e]; exact HL.out.mem.tab.lo.1))
    have Hb1 := Lib.hid hb1
    have Hx := Lib.hid hx
    have Hr1 := Lib.hid hr1
    have Hu1 := Lib.hid hu1
    have Hrr0 := Lib.hid hrr0
    have Hra0 := Lib.hid hra0
    clear hr1 hu1 hkk hx hb1 hrr0 hra0
    go_wp2_with fail
    refine (codeOf_any B _ (some .coding) _ aI aN aL _ (HE.out.below (by exact Hb1.out)) (Nat.le_trans HL.out.lo HB0.out.size) ⟨x, rfl, Hx.out⟩).mono ?_
    rintro e w2 ⟨rfl, hb2⟩
    have hrr := Hrr0.out.below hb2 Hrr0.out.lt
    have hra := Hra0.out.below hb2 Hra0.out.lt
    have Hb2 := Lib.hid hb2
    clear hb2
    simp only [HD.code, HD.idx]
    have a0 := hra.cell' (i := 0) (v := .slice none 0 0) (by decide) rfl
    have a1 := hra.cell' (i := 1) (v := .slice none 0 0) (by decide) rfl
    have a2 := hra.cell' (i := 2) (v := .int .i64 0) (by decide) rfl
    have a3 := hra.cell' (i := 3) (v := .bool false) (by decide) rfl
    have a4 := hra.cell' (i := 4) (v := .int .i64 0) (by decide) rfl
    have a5 := hra.cell' (i := 5) (v := .int .i64 0) (by decide) rfl
    have r0 := hrr.cell' (i := 0) (v := .slice none 0 0) (by decide) rfl
    have r1 := hrr.cell' (i := 1) (v := .slice none 0 0) (by decide) rfl
    have r2 := hrr.cell' (i := 2) (v := .int .i64 0) (by decide) rfl
    have r3 := hrr.cell' (i := 3) (v := .bool false) (by decide) rfl
    have r4 := hrr.cell' (i := 4) (v := .int .i64 0) (by decide) rfl
    have r5 := hrr.cell' (i := 5) (v := .int .i64 0) (by decide) rfl
    have fza := fun i => hra.unfrozen i none
    have fzr := fun i => hrr.unfrozen i none
    go_wp2_with fail
    (try simp only [Exit.inBlock, Exit.then])
    refine bodyPost_ret (v := .agg (ansCells (.slice none 0 0) (.slice none 0 0) 0 ⟨[], [], false, some .coding⟩)) ?_ rfl ?_
    · simp only [results, Tryd.results23]
      go_simp
      rfl
    have hk1 : ∀ k, k ≠ d → k < w.heap.size → w1.heap[k]? = w.heap[k]? := fun k hk hlt => (Hu1.out.block k (Nat.lt_of_lt_of_le hlt HB0.out.size) hk).trans (HB0.out.block k hlt)
    have hl : Live B w1 d M { σ.st with first := σ.st.first } (l ++ []) { p with f := putF (putF p.f 12 (.slice a12 0 c12)) 14 (.int .i8 0) } := by
      rw [List.append_nil]
      exact HL.out.put Hr1.out (fun i hi => by simp only [putF]; rw [if_neg (by omega), if_neg (by omega)]) (by simp [putF, HL.out.mem.first]) (fun k hne ho => hk1 k hne (HL.out.own_lt ho))
    have hst : HD.dstep σ .close = (⟨σ.st, []⟩, ⟨[], [], false, some .coding⟩) := by simp only [HD.dstep, HD.close, if_neg hs0]
    have hsv : Save B w1 d (putF (putF p.f 12 (.slice a12 0 c12)) 14 (.int .i8 0)) [] := by
      have hown := HV.out.own
      rw [H12.out] at hown
      have hgs : ∃ g, a12 = some ⟨g, 0, none⟩ := by
        rcases hown.2 with ⟨-, h0⟩ | ⟨g, cap, cur, e, -⟩
        · exact absurd (List.eq_nil_of_length_eq_zero h0) hs0
        · injection e with e; exact ⟨g, e⟩
      obtain ⟨g, rfl⟩ := hgs
      have hg : (p.f 12).ownBlock = some g := by rw [H12.out]; rfl
      have hgd : g ≠ d := fun e => HV.out.ne (by rw [hg, e])
      refine ⟨?_, ?_, by simp [putF, HV.out.off], 0, by simp [putF]⟩
      · have : (putF (putF p.f 12 (.slice (some ⟨g, 0, none⟩) 0 c12)) 14 (.int .i8 0)) 12 = .slice (some ⟨g, 0, none⟩) 0 c12 := by simp [putF]
        rw [this]
        exact ownsRow_of_heap (own_reset hown) fun q hq => by injection hq with hq; subst hq; exact hk1 g hgd (HV.out.u8 hg).lt
      · simp [putF, Value.ownBlock, hgd]
    rw [hst]
    refine DEnds.close (r := (⟨σ.st, []⟩, ⟨[], [], false, some .coding⟩)) (nn := 0) HL.out hl hsv (fun k h => Or.inl h)
      ⟨Hb1.out, fun k hlt hn _ => hk1 k (fun e => hn (e ▸ Or.inl (Or.inl rfl))) hlt⟩ (by simp) (FRow.nil _ _) Hrr0.out Hra0.out (Upd.refl _ _) Hb2.out (ans_upd w2 w.heap.size _ _ _ _ _ _ _ _)
end Go.Proofs.YtlkpeeoippbdoaaDoor
/-
  A step of a decoder: Write.
-/
namespace Go.Proofs.YtlkpeeoippbdoaaDoor
open Go.ChangeShapes Go.WideShapes Go.ChangeAt Go.RowKit

/-- What is known behind the call of Write. -/
structure WMid (B : Nat) (w w2 : World) (d : Nat) (M : Emitter) (l : List HD.Fld) (p p' : DP) (aI : Addr) (N : Nat) (r : HD.WR) (x : Value) : Prop where
  err : ErrO (w.heap.size + 3) w2 aI r.err x
  live : Live B w2 d M r.st (l ++ r.out) p'
  save : Save B w2 d p'.f r.save
  own : ∀ k, p'.own d k → p.own d k ∨ w.heap.size + 3 ≤ k
  kept : Kept B (p.own d) w w2
  num : p'.cnt + r.st.ents.length + r.save.length ≤ N
  rr : Row w2 (w.heap.size + 1) 6 (fun i => ans0.getD i undef)
  ra : Row w2 (w.heap.size + 1 + 1) 6 (fun i => ans0.getD i undef)

theorem wMid (B : Nat) (w w1 : World) (d : Nat) (M : Emitter) (σ : HD.DS) (l : List HD.Fld) (p : DP) (aI aN aL : Addr) (G : HD.St → HD.Bs → Prop) (hS : Steps B d M aI aN aL G) (v : HD.Bs) (b1 : Value) (N : Nat)
    (hL : Live B w d M σ.st l p) (hE : Env B w aI aN aL) (hV : Save B w d p.f σ.save) (hG : G σ.st (σ.save ++ v)) (hN0 : N = p.cnt + σ.st.ents.length + σ.save.length + v.length) (hN : N < 2 ^ 46) (hT : l.length + (σ.save ++ v).length ≤ 2 ^ 40)
    (hb1 : Below w.heap.size w w1) (hr1 : Row w1 (w.heap.size + 1) 6 (fun i => ans0.getD i undef)) (ha1 : Row w1 (w.heap.size + 1 + 1) 6 (fun i => ans0.getD i undef))
    (hs : (v = [] ∧ b1 = .slice none 0 0) ∨ ∃ g o cap, b1 = .slice (some ⟨g, o, none⟩) v.length cap ∧ Buf w1 g o cap v ∧ IsU8 w1 g) :
    Calls Tryd.prog 29 #[.pointer (some ⟨d, 0, none⟩), b1] w1 fun e w2 => ∃ x p', e = .returned (.tuple #[.int .i64 (v.length : Nat), x]) ∧ WMid B w w2 d M l p p' aI N (HD.write σ.st σ.save v) x := by
  have hsz : w.heap.size + 3 ≤ w1.heap.size := by have := ha1.lt; omega
  have hl1 := hL.below hb1
  have he1 := hE.below (hb1.mono hL.lo)
  have hv1 : Save B w1 d p.f σ.save := hV.kept rfl rfl rfl (fun g hg => hb1.block g (hV.u8 hg).lt)
  obtain ⟨sa, cap, rfl, hsrc⟩ : ∃ sa cap, b1 = .slice sa v.length cap ∧ (v = [] ∨ ∃ g o, sa = some ⟨g, o, none⟩ ∧ Buf w1 g o cap v ∧ IsU8 w1 g) := by
    rcases hs with ⟨hv, rfl⟩ | ⟨g, o, cap, rfl, hb, hu⟩
    · exact ⟨none, 0, by rw [hv]; rfl, Or.inl hv⟩
    · exact ⟨_, cap, rfl, Or.inr ⟨g, o, rfl, hb, hu⟩⟩
  refine (write_any B w1 d M σ.st l p aI aN aL G hS σ.save v sa cap N hl1 he1 hv1 hG hsrc (Nat.le_of_eq hN0.symm) hN hT).mono ?_
  rintro e w2 ⟨⟨x, rfl, hx⟩, p', hl2, hs2, ho2, hk2, hn2⟩
  have hkk : ∀ k, k = w.heap.size + 1 ∨ k = w.heap.size + 1 + 1 → w2.heap[k]? = w1.heap[k]? := fun k hk => hk2.block k (by omega) (fun h => by
    have := hL.own_lt h
    omega) (by
      rcases hk with rfl | rfl
      · exact hr1.notU8
      · exact ha1.notU8)
  refine ⟨x, p', rfl, ?_, hl2, hs2, fun k h => (ho2 k h).imp id (fun h => Nat.le_trans hsz h), (Kept.of_below hb1 hL.lo).step hk2, hn2, hr1.of_heap (hkk _ (Or.inl rfl)), ha1.of_heap (hkk _ (Or.inr rfl))⟩
  cases hr : (HD.write σ.st σ.save v).err with
  | none => rw [hr] at hx; exact hx
  | some er => rw [hr] at hx; exact ErrV.move hx hsz (fun k _ _ => rfl)

theorem dec_first (w : World) (cs : Array Value) (v : Value) (h : cs[0]? = some v) : (((w.alloc (.cells cs 27)).alloc (.cells ans0 37)).alloc (.cells ans0 37)).cell? ⟨w.heap.size, 0, none⟩ = some v := by
  have h0 : (w.alloc (.cells cs 27)).heap[w.heap.size]? = some (.cells cs 27 (0, 0)) := by show (w.heap.push _)[w.heap.size]? = _; simp
  have h1 : (((w.alloc (.cells cs 27)).alloc (.cells ans0 37)).alloc (.cells ans0 37)).heap[w.heap.size]? = some (.cells cs 27 (0, 0)) := by
    rw [Below.heap_alloc _ _ _ (by simp; omega), Below.heap_alloc _ _ _ (by simp)]; exact h0
  simp [World.cell?, h1, h]

set_option maxHeartbeats 1000000 in
set_option maxRecDepth 100000 in
theorem decWrite_any (B : Nat) (w : World) (d : Nat) (M : Emitter) (σ : HD.DS) (l : List HD.Fld) (p : DP) (aI aN aL : Addr) (G : HD.St → HD.Bs → Prop) (hS : Steps B d M aI aN aL G) (v : HD.Bs) (b : Value)
    (hL : Live B w d M σ.st l p) (hE : Env B w aI aN aL) (hV : Save B w d p.f σ.save) (hG : G σ.st (σ.save ++ v)) (hb : CmdV w (.write v) b) (hN : p.cnt + σ.st.ents.length + σ.save.length + v.length < 2 ^ 46) (hT : l.length + (σ.save ++ v).length ≤ 2 ^ 40) :
    Calls Tryd.prog 23 #[.pointer (some ⟨d, 0, none⟩), .agg #[.int .i64 0, b, .int .i64 0, .bool false]] w (DEnds B w d M l p (p.cnt + σ.st.ents.length + σ.save.length + v.length) (HD.dstep σ (.write v))) := by
  have HL := Lib.hid hL
  have HE := Lib.hid hE
  have HV := Lib.hid hV
  clear hL hE hV
  have hd : d < w.heap.size := HL.out.lt
  obtain ⟨hb0, hr0, ha0⟩ := dec_world w #[.int .i64 0, b, .int .i64 0, .bool false]
  have HB0 := Lib.hid hb0
  have HR0 := Lib.hid hr0
  have HA0 := Lib.hid ha0
  clear hb0 hr0 ha0
  obtain ⟨hl40, -, hb⟩ := hb
  have hl40 : v.length < 2 ^ 40 := hl40
  rcases hb with ⟨hv, rfl⟩ | ⟨g, o, cap, hbe, hb, -⟩
  · have Hv := Lib.hid hv
    clear hv
    go_enter Tryd.func23, Tryd.ntmps23
    go_wp2_with fail
    refine (wMid B w _ d M σ l p aI aN aL G hS v _ _ HL.out HE.out HV.out hG rfl hN hT (by exact HB0.out) (by exact HR0.out) (by exact HA0.out) (Or.inl ⟨Hv.out, rfl⟩)).mono ?_
    rintro e w2 ⟨x, p', rfl, hm⟩
    have hE2' : Env B (w2.setCell ⟨w.heap.size + 1 + 1, 2, none⟩ (.int .i64 (v.length : Nat))) aI aN aL := (HE.out.below hm.kept.below).below ⟨rfl, rfl, rfl, by rw [World.size_setCell]; exact Nat.le_refl _, fun k hk => other_set (by have := HL.out.lo; omega)⟩
    have hx2 : ErrO (w.heap.size + 3) (w2.setCell ⟨w.heap.size + 1 + 1, 2, none⟩ (.int .i64 (v.length : Nat))) aI (HD.write σ.st σ.save v).err x := by
      have hx := hm.err
      cases hr : (HD.write σ.st σ.save v).err with
      | none => rw [hr] at hx; exact hx
      | some er => rw [hr] at hx; exact ErrV.move hx (Nat.le_refl _) (fun k hk _ => other_set (by omega))
    have Hra3 := Lib.hid (hm.ra.set 2 (.int .i64 (v.length : Nat)))
    have Hrr3 := Lib.hid (hm.rr.setOther (a := ⟨w.heap.size + 1 + 1, 2, none⟩) (by show w.heap.size + 1 ≠ w.heap.size + 1 + 1; omega) (.int .i64 (v.length : Nat)))
    have za2 := hm.ra.cell' (i := 2) (v := .int .i64 0) (by decide) rfl
    have zfa := fun i => hm.ra.unfrozen i none
    have Hx2 := Lib.hid hx2
    have HE2 := Lib.hid hE2'
    have Hm := Lib.hid hm
    have hBs : B ≤ w.heap.size + 3 := by have := HL.out.lo; omega
    clear hm hE2' hx2
    go_wp2_with fail
    refine (codeOf_any B (w.heap.size + 3) (HD.write σ.st σ.save v).err x aI aN aL _ (by exact HE2.out) hBs (by exact Hx2.out)).mono ?_
    rintro e w3 ⟨rfl, hb3⟩
    have hra : Row w3 (w.heap.size + 1 + 1) 6 _ := Hra3.out.below hb3 Hra3.out.lt
    have hrr : Row w3 (w.heap.size + 1) 6 _ := Hrr3.out.below hb3 Hrr3.out.lt
    have Hb3 : Hid (Below (w2.setCell ⟨w.heap.size + 1 + 1, 2, none⟩ (.int .i64 (v.length : Nat))).heap.size (w2.setCell ⟨w.heap.size + 1 + 1, 2, none⟩ (.int .i64 (v.length : Nat))) w3) := Lib.hid hb3
    clear hb3 za2 zfa
    have a0 := hra.cell' (i := 0) (v := .slice none 0 0) (by decide) rfl
    have a1 := hra.cell' (i := 1) (v := .slice none 0 0) (by decide) rfl
    have a2 := hra.cell' (i := 2) (v := .int .i64 (v.length : Nat)) (by decide) rfl
    have a3 := hra.cell' (i := 3) (v := .bool false) (by decide) rfl
    have a4 := hra.cell' (i := 4) (v := .int .i64 0) (by decide) rfl
    have a5 := hra.cell' (i := 5) (v := .int .i64 0) (by decide) rfl
    have r0 := hrr.cell' (i := 0) (v := .slice none 0 0) (by decide) rfl
    have r1 := hrr.cell' (i := 1) (v := .slice none 0 0) (by decide) rfl
    have r2 := hrr.cell' (i := 2) (v := .int .i64 0) (by decide) rfl
    have r3 := hrr.cell' (i := 3) (v := .bool false) (by decide) rfl
    have r4 := hrr.cell' (i := 4) (v := .int .i64 0) (by decide) rfl
    have r5 := hrr.cell' (i := 5) (v := .int .i64 0) (by decide) rfl
    have fza := fun i => hra.unfrozen i none
    have fzr := fun i => hrr.unfrozen i none
    go_wp2_with fail
    (try simp only [Exit.inBlock, Exit.then])
    refine bodyPost_ret (v := .agg (ansCells (.slice none 0 0) (.slice none 0 0) (v.length : Nat) (HD.dstep σ (.write v)).2)) ?_ rfl ?_
    · simp only [results, Tryd.results23]
      go_simp
      rfl
    exact DEnds.close (N := p.cnt + σ.st.ents.length + σ.save.length + v.length) (r := HD.dstep σ (.write v)) (nn := (v.length : Nat)) HL.out Hm.out.live Hm.out.save Hm.out.own Hm.out.kept Hm.out.num (FRow.nil _ _) Hm.out.rr Hm.out.ra ((Upd.refl _ w2).setCell (a := ⟨w.heap.size + 1 + 1, 2, none⟩) (Or.inl (Or.inr rfl)) (.int .i64 (v.length : Nat))) Hb3.out (ans_upd w3 w.heap.size _ _ _ _ _ _ _ _)
  · have hbe : b = .slice (some ⟨g, o, none⟩) v.length cap := hbe
    have hb : Buf w g o cap v := hb
    subst hbe
    have hmost := hb.most
    have hfit := hb.fit
    have hcells : ∀ q u, (Lib.byteCells v)[q]? = some u → (((w.alloc (.cells #[.int .i64 0, .slice (some ⟨g, o, none⟩) v.length cap, .int .i64 0, .bool false] 27)).alloc (.cells ans0 37)).alloc (.cells ans0 37)).cell? ((⟨g, o, none⟩ : Addr).add q) = some u := by
      intro q u hq
      have hq' : q < v.length := by
        have := (List.getElem?_eq_some_iff.1 hq).1
        rwa [byteCells_len] at this
      have h0 := hb.cell q hq'
      rw [Lib.addr_add]
      refine ((HB0.out.cell (p := ⟨g, o + q, none⟩) (World.block_lt_of_cell? w _ h0)).trans h0).trans ?_
      rw [← hq, Lib.byteCells, List.getElem?_map, List.getElem?_eq_getElem hq']; rfl
    have Hcells := Lib.hid hcells
    clear hcells hb
    have Hs0 := Lib.hid (dec_first w #[.int .i64 0, .slice (some ⟨g, o, none⟩) v.length cap, .int .i64 0, .bool false] (.int .i64 0) rfl)
    obtain ⟨i0, hi, hz0, hz1, hz2⟩ := info_parts infoU8
    go_enter Tryd.func23, Tryd.ntmps23
    go_wp2_with (at_builtin; go_must (refine wpList_append_own_at _ rfl _ _ 22 rfl w.heap.size 5 i0 (.int .u8 0) 1 1 Tryd.underlying22 hi hz0 hz1 hz2 rfl (by decide) (.slice none 0 0) 0 [] rfl (World.ownsRow_nil _ w.heap.size _ _) ⟨g, o, none⟩ v.length cap (Lib.byteCells v) rfl (by rw [byteCells_len, Nat.mul_one]) (by exact Hcells.out) (Lib.byteCells_one _) (by unfold maxLen; omega) (by omega) (by simp; omega) ?_); intro v1 w1 hown1 hgrow1 _ _; rw [Nat.zero_add, List.nil_append] at hown1; have hbw1 := (Below.refl _ _).grown hgrow1 (Nat.le_refl _) (fun k hk => by cases hk); have Hown1 := Lib.hid hown1; have Hbw1 := Lib.hid hbw1; have s0 := (hbw1.cell (p := ⟨w.heap.size, 0, none⟩) (by simp; omega)).trans Hs0.out; clear hown1 hgrow1 hbw1)
    have hb1 : Below w.heap.size w w1 := HB0.out.trans (Hbw1.out.mono HB0.out.size)
    have hs1 : (v = [] ∧ v1 = .slice none 0 0) ∨ ∃ g o cap, v1 = .slice (some ⟨g, o, none⟩) v.length cap ∧ Buf w1 g o cap v ∧ IsU8 w1 g := by
      rcases Hown1.out.2 with ⟨e, h0⟩ | ⟨g1, cap1, cur, e, -⟩
      · exact Or.inl ⟨List.eq_nil_of_length_eq_zero h0, e⟩
      · have ho := Hown1.out
        rw [e] at ho
        exact Or.inr ⟨g1, 0, cap1, e, Buf.of_own ho rfl⟩
    refine (wMid B w w1 d M σ l p aI aN aL G hS v v1 _ HL.out HE.out HV.out hG rfl hN hT hb1 (HR0.out.below Hbw1.out HR0.out.lt) (HA0.out.below Hbw1.out HA0.out.lt) hs1).mono ?_
    clear hs1 hb1
    rintro e w2 ⟨x, p', rfl, hm⟩
    have hE2' : Env B (w2.setCell ⟨w.heap.size + 1 + 1, 2, none⟩ (.int .i64 (v.length : Nat))) aI aN aL := (HE.out.below hm.kept.below).below ⟨rfl, rfl, rfl, by rw [World.size_setCell]; exact Nat.le_refl _, fun k hk => other_set (by have := HL.out.lo; omega)⟩
    have hx2 : ErrO (w.heap.size + 3) (w2.setCell ⟨w.heap.size + 1 + 1, 2, none⟩ (.int .i64 (v.length : Nat))) aI (HD.write σ.st σ.save v).err x := by
      have hx := hm.err
      cases hr : (HD.write σ.st σ.save v).err with
      | none => rw [hr] at hx; exact hx
      | some er => rw [hr] at hx; exact ErrV.move hx (Nat.le_refl _) (fun k hk _ => other_set (by omega))
    have Hra3 := Lib.hid (hm.ra.set 2 (.int .i64 (v.length : Nat)))
    have Hrr3 := Lib.hid (hm.rr.setOther (a := ⟨w.heap.size + 1 + 1, 2, none⟩) (by show w.heap.size + 1 ≠ w.heap.size + 1 + 1; omega) (.int .i64 (v.length : Nat)))
    have za2 := hm.ra.cell' (i := 2) (v := .int .i64 0) (by decide) rfl
    have zfa := fun i => hm.ra.unfrozen i none
    have Hx2 := Lib.hid hx2
    have HE2 := Lib.hid hE2'
    have Hm := Lib.hid hm
    have hBs : B ≤ w.heap.size + 3 := by have := HL.out.lo; omega
    clear hm hE2' hx2
    go_wp2_with fail
    refine (codeOf_any B (w.heap.size + 3) (HD.write σ.st σ.save v).err x aI aN aL _ (by exact HE2.out) hBs (by exact Hx2.out)).mono ?_
    rintro e w3 ⟨rfl, hb3⟩
    have hra : Row w3 (w.heap.size + 1 + 1) 6 _ := Hra3.out.below hb3 Hra3.out.lt
    have hrr : Row w3 (w.heap.size + 1) 6 _ := Hrr3.out.below hb3 Hrr3.out.lt
    have Hb3 : Hid (Below (w2.setCell ⟨w.heap.size + 1 + 1, 2, none⟩ (.int .i64 (v.length : Nat))).heap.size (w2.setCell ⟨w.heap.size + 1 + 1, 2, none⟩ (.int .i64 (v.length : Nat))) w3) := Lib.hid hb3
    clear hb3 za2 zfa
    have a0 := hra.cell' (i := 0) (v := .slice none 0 0) (by decide) rfl
    have a1 := hra.cell' (i := 1) (v := .slice none 0 0) (by decide) rfl
    have a2 := hra.cell' (i := 2) (v := .int .i64 (v.length : Nat)) (by decide) rfl
    have a3 := hra.cell' (i := 3) (v := .bool false) (by decide) rfl
    have a4 := hra.cell' (i := 4) (v := .int .i64 0) (by decide) rfl
    have a5 := hra.cell' (i := 5) (v := .int .i64 0) (by decide) rfl
    have r0 := hrr.cell' (i := 0) (v := .slice none 0 0) (by decide) rfl
    have r1 := hrr.cell' (i := 1) (v := .slice none 0 0) (by decide) rfl
    have r2 := hrr.cell' (i := 2) (v := .int .i64 0) (by decide) rfl
    have r3 := hrr.cell' (i := 3) (v := .bool false) (by decide) rfl
    have r4 := hrr.cell' (i := 4) (v := .int .i64 0) (by decide) rfl
    have r5 := hrr.cell' (i := 5) (v := .int .i64 0) (by decide) rfl
    have fza := fun i => hra.unfrozen i none
    have fzr := fun i => hrr.unfrozen i none
    go_wp2_with fail
    (try simp only [Exit.inBlock, Exit.then])
    refine bodyPost_ret (v := .agg (ansCells (.slice none 0 0) (.slice none 0 0) (v.length : Nat) (HD.dstep σ (.write v)).2)) ?_ rfl ?_
    · simp only [results, Tryd.results23]
      go_simp
      rfl
    exact DEnds.close (N := p.cnt + σ.st.ents.length + σ.save.length + v.length) (r := HD.dstep σ (.write v)) (nn := (v.length : Nat)) HL.out Hm.out.live Hm.out.save Hm.out.own Hm.out.kept Hm.out.num (FRow.nil _ _) Hm.out.rr Hm.out.ra ((Upd.refl _ w2).setCell (a := ⟨w.heap.size + 1 + 1, 2, none⟩) (Or.inl (Or.inr rfl)) (.int .i64 (v.length : Nat))) Hb3.out (ans_upd w3 w.heap.size _ _ _ _ _ _ _ _)
end Go.Proofs.YtlkpeeoippbdoaaDoor
/-
  Each step of a decoder meets what is asked of it; steps that lie in memory.
-/
namespace Go.Proofs.YtlkpeeoippbdoaaDoor
open Go.ChangeShapes Go.WideShapes Go.ChangeAt Go.RowKit

theorem CmdV.nil {w : World} {c : HD.Cmd} {b : Value} (h : CmdV w c b) (ht : c.takes = false) : b = .slice none 0 0 := by
  rcases h.2.2 with ⟨-, h⟩ | ⟨g, o, cap, -, -, h⟩
  · exact h
  · rw [ht] at h; cases h
section
variable {B d : Nat} {M : Emitter} {aI aN aL : Addr} {σ : HD.DS}
theorem cmdOk_allow {n : Nat} (hn : n ≤ 2 ^ 31) : CmdOk B d M aI aN aL σ (.allow n) := by
  intro w l p b hL hE hV hb hN hT
  obtain rfl := hb.nil rfl
  exact decAllow_any B w d M σ l p aI aN aL n hL hE hV hn
theorem cmdOk_on {b0 : Bool} : CmdOk B d M aI aN aL σ (.on b0) := by
  intro w l p b hL hE hV hb hN hT
  obtain rfl := hb.nil rfl
  exact decOn_any B w d M σ l p aI aN aL b0 hL hE hV
theorem cmdOk_isOn : CmdOk B d M aI aN aL σ .isOn := by
  intro w l p b hL hE hV hb hN hT
  obtain rfl := hb.nil rfl
  exact decIsOn_any B w d M σ l p aI aN aL hL hE hV
theorem cmdOk_close : CmdOk B d M aI aN aL σ .close := by
  intro w l p b hL hE hV hb hN hT
  obtain rfl := hb.nil rfl
  exact decClose_any B w d M σ l p aI aN aL hL hE hV (by omega)
theorem cmdOk_write {G : HD.St → HD.Bs → Prop} (hS : Steps B d M aI aN aL G) {v : HD.Bs} (hG : G σ.st (σ.save ++ v)) : CmdOk B d M aI aN aL σ (.write v) := by
  intro w l p b hL hE hV hb hN hT
  exact decWrite_any B w d M σ l p aI aN aL G hS v b hL hE hV hG hb hN (by rw [List.length_append]; simpa [HD.Cmd.len, HD.Cmd.bytes, Nat.add_assoc] using hT)
end

def stepCells : List HD.Cmd → List Value → List Value
  | c :: cs, b :: bs => cmdCells c b ++ stepCells cs bs
  | _, _ => []
theorem stepCells_at : ∀ (cs : List HD.Cmd) (bs : List Value) (i : Nat) (h : i < cs.length) (h' : i < bs.length) (j : Nat) (v : Value), (cmdCells cs[i] bs[i])[j]? = some v → (stepCells cs bs)[i * 4 + j]? = some v
  | [], _, _, h, _, _, _, _ => by simp at h
  | _ :: _, [], _, _, h, _, _, _ => by simp at h
  | c :: cs, b :: bs, 0, _, _, j, v, e => by
    have e : (cmdCells c b)[j]? = some v := e
    have hj := (List.getElem?_eq_some_iff.1 e).1
    rw [Nat.zero_mul, Nat.zero_add, stepCells, List.getElem?_append_left hj]
    exact e
  | c :: cs, b :: bs, i + 1, h, h', j, v, e => by
    rw [show (i + 1) * 4 + j = 4 + (i * 4 + j) by omega, stepCells, List.getElem?_append_right (by simp [cmdCells]), show 4 + (i * 4 + j) - (cmdCells c b).length = i * 4 + j by simp [cmdCells]]
    exact stepCells_at cs bs i (by simpa using h) (by simpa using h') j v e
theorem stepCells_len : ∀ (cs : List HD.Cmd) (bs : List Value), bs.length = cs.length → (stepCells cs bs).length = cs.length * 4
  | [], [], _ => rfl
  | [], _ :: _, h => by simp at h
  | _ :: _, [], h => by simp at h
  | c :: cs, b :: bs, h => by
    have := stepCells_len cs bs (by simpa using h)
    simp only [stepCells, List.length_append, this]
    simp [cmdCells]; omega
theorem stepCells_append : ∀ (cs cs' : List HD.Cmd) (bs bs' : List Value), bs.length = cs.length → stepCells (cs ++ cs') (bs ++ bs') = stepCells cs bs ++ stepCells cs' bs'
  | [], _, [], _, _ => rfl
  | [], _, _ :: _, _, h => by simp at h
  | _ :: _, _, [], _, h => by simp at h
  | c :: cs, cs', b :: bs, bs', h => by
    have := stepCells_append cs cs' bs bs' (by simpa using h)
    simp only [List.cons_append, stepCells, this, List.append_assoc]
theorem steps_of_cells {w : World} {g o : Nat} {cs : List HD.Cmd} {bs : List Value} (hl : bs.length = cs.length) (hc : ∀ j v, (stepCells cs bs)[j]? = some v → w.cell? ⟨g, o + j, none⟩ = some v) (hv : ∀ i (h : i < cs.length) (h' : i < bs.length), CmdV w cs[i] bs[i]) : StepsMem w g o cs bs :=
  ⟨hl, fun i h h' j v e => by rw [Nat.add_assoc]; exact hc _ _ (stepCells_at cs bs i h h' j v e), hv⟩
theorem steps_of_own {w : World} {B g n cap : Nat} {cs : List HD.Cmd} {bs : List Value} (hl : bs.length = cs.length) (h : w.ownsRow B 27 4 (.slice (some ⟨g, 0, none⟩) n cap) n (stepCells cs bs)) (hv : ∀ i (h : i < cs.length) (h' : i < bs.length), CmdV w cs[i] bs[i]) : StepsMem w g 0 cs bs :=
  steps_of_cells hl (fun j v e => by
    have := h.cells (g := g) rfl j v e
    rwa [Lib.addr_add] at this) hv
theorem CmdV.plain {w : World} {c : HD.Cmd} (hb : c.bytes = []) (hs : sizeOfC c < 2 ^ 32) : CmdV w c (.slice none 0 0) := ⟨by unfold HD.Cmd.len; rw [hb]; decide, hs, Or.inl ⟨hb, rfl⟩⟩
theorem CmdV.write_own {w : World} {B : Nat} {v : HD.Bs} {a : Option Addr} {cap : Nat} (hl : v.length < 2 ^ 40) (h : w.ownsRow B 5 1 (.slice a v.length cap) v.length (Lib.byteCells v)) : CmdV w (.write v) (.slice a v.length cap) := by
  refine ⟨hl, by simp [sizeOfC], ?_⟩
  rcases h.2 with ⟨e, h0⟩ | ⟨g1, cap1, cur, e, -⟩
  · exact Or.inl ⟨List.eq_nil_of_length_eq_zero h0, e⟩
  · injection e with e1 e2 e3
    subst e1; subst e3
    exact Or.inr ⟨g1, 0, cap, rfl, (Buf.of_own h rfl).1, rfl⟩
theorem CmdV.of_below {w w' : World} {c : HD.Cmd} {b : Value} (h : CmdV w c b) (hb : Below w.heap.size w w') : CmdV w' c b :=
  ⟨h.1, h.2.1, h.2.2.imp id fun ⟨g, o, cap, e, hb', ht⟩ => ⟨g, o, cap, e, hb'.below hb, ht⟩⟩
end Go.Proofs.YtlkpeeoippbdoaaDoor
/-
  What the rows' lists give: the two tables of the Huffman code, as their contracts want them. No condition.
-/
namespace Go.Proofs.YtlkpeeoippbdoaaDoor
open Go.ChangeShapes Go.WideShapes Go.ChangeAt Go.RowKit

/-- A table's datum as values; a variable's cells laid. -/
def tabVals : DataW Unit → Array Value
  | .agg l => (l.map fun | .lit (.int k n) => Value.int k n | _ => .nilIface).toArray
  | _ => #[]
def laidTab (cs : Array Value) : Obj → Obj
  | .cells _ t frozen => .cells cs t frozen
  | o => o

theorem gLen : Tryd.prog.globalNamed "loop.example/pub-g03022/pub/hpack.huffmanCodeLen" = some 4 := by kernel_rfl
theorem gLenType : (Tryd.prog.globals[4]?).map (·.type) = some 127 := by kernel_rfl
theorem gCode : Tryd.prog.globalNamed "loop.example/pub-g03022/pub/hpack.huffmanCodes" = some 3 := by kernel_rfl
theorem gCodeType : (Tryd.prog.globals[3]?).map (·.type) = some 126 := by kernel_rfl
theorem cellsLen : Tryd.prog.cellsOf 127 = 256 := by kernel_rfl
theorem cellsCode : Tryd.prog.cellsOf 126 = 256 := by kernel_rfl
theorem cellsU8 : Tryd.prog.cellsOf 5 = 1 := by kernel_rfl
theorem cellsU32 : Tryd.prog.cellsOf 55 = 1 := by kernel_rfl
def lenInts : List Int := HP.lensL.map Int.ofNat
def codeInts : List Int := HP.codesL.map Int.ofNat
theorem laidLen : (Rows.laid_loop_example_pub_g03022_pub_hpack_huffmanCodeLen : DataW Unit) = Lib.tabData .u8 lenInts := by kernel_rfl
theorem laidCode : (Rows.laid_loop_example_pub_g03022_pub_hpack_huffmanCodes : DataW Unit) = Lib.tabData .u32 codeInts := by kernel_rfl
theorem lenInts_at : ∀ i, i < 256 → lenInts.getD i 0 = (HP.hlen i : Nat) := by decide +kernel
theorem codeInts_at : ∀ i, i < 256 → codeInts.getD i 0 = (HP.hcode i : Nat) := by decide +kernel
theorem lenInts_len : lenInts.length = 256 := by decide +kernel
theorem codeInts_len : codeInts.length = 256 := by decide +kernel

theorem lenTab_of_head {W : World} {r : List (String × DataW Unit)} (h : laidMet Tryd.prog (("loop.example/pub-g03022/pub/hpack.huffmanCodeLen", Lib.tabData .u8 lenInts) :: r) W) : LenTab W := fun i hi => by
  have h1 := Lib.tabIs_of_head gLen gLenType Tryd.underlying127 Tryd.underlying5 cellsU8 cellsLen h
  rw [h1.cell gLen i (by rw [lenInts_len]; exact hi), lenInts_at i hi]
theorem codeTab_of_head {W : World} {r : List (String × DataW Unit)} (h : laidMet Tryd.prog (("loop.example/pub-g03022/pub/hpack.huffmanCodes", Lib.tabData .u32 codeInts) :: r) W) : CodeTab W := fun i hi => by
  have h1 := Lib.tabIs_of_head gCode gCodeType Tryd.underlying126 Tryd.underlying55 cellsU32 cellsCode h
  rw [h1.cell gCode i (by rw [codeInts_len]; exact hi), codeInts_at i hi]
end Go.Proofs.YtlkpeeoippbdoaaDoor
/-
  What a row that lists the error of Huffman codes gives: the variable holds a pointer. No condition.
-/
namespace Go.Proofs.YtlkpeeoippbdoaaDoor
open Go.ChangeShapes Go.WideShapes Go.ChangeAt Go.RowKit

theorem gInv : Tryd.prog.globalNamed "loop.example/pub-g03022/pub/hpack.ErrInvalidHuffman" = some 0 := by kernel_rfl
theorem gInvType : (Tryd.prog.globals[0]?).map (·.type) = some 64 := by kernel_rfl
theorem star : "*errors.errorString" = "*" ++ "errors.errorString" := by kernel_rfl
theorem rowErr (u : TypeId) (h : Tryd.prog.typeName? 3 u = some "*errors.errorString") : u = 121 :=
  typeName_ptr_named (nm := "errors.errorString") (by rw [← star]; kernel_rfl) (by kernel_rfl) (by decide) u (by rw [← star]; exact h)
theorem cellsErr : Tryd.prog.cellsOf 123 = 1 := by kernel_rfl
theorem cellsStr : Tryd.prog.cellsOf 9 = 1 := by kernel_rfl
end Go.Proofs.YtlkpeeoippbdoaaDoor
/-
  What the decoder's rows list: the package's variables that decoding reads. No condition.
-/
namespace Go.Proofs.YtlkpeeoippbdoaaDoor
open Go.ChangeShapes Go.WideShapes Go.ChangeAt Go.RowKit

theorem gMore : Tryd.prog.globalNamed "loop.example/pub-g03022/pub/hpack.errNeedMore" = some 2 := by kernel_rfl
theorem gMoreType : (Tryd.prog.globals[2]?).map (·.type) = some 64 := by kernel_rfl
theorem gLong : Tryd.prog.globalNamed "loop.example/pub-g03022/pub/hpack.ErrStringLength" = some 1 := by kernel_rfl
theorem gLongType : (Tryd.prog.globals[1]?).map (·.type) = some 64 := by kernel_rfl

theorem Env.mono {B B' : Nat} {w : World} {aI aN aL : Addr} (h : Env B w aI aN aL) (hB : B ≤ B') : Env B' w aI aN aL :=
  ⟨h.len, h.code, h.eI, h.eN, h.eL, h.fI, h.fN, h.fL, h.ne, Nat.lt_of_lt_of_le h.bI hB, Nat.lt_of_lt_of_le h.bN hB, Nat.lt_of_lt_of_le h.bL hB, Nat.lt_of_lt_of_le h.g1 hB, Nat.lt_of_lt_of_le h.g2 hB, Nat.lt_of_lt_of_le h.g3 hB, Nat.lt_of_lt_of_le h.g4 hB, Nat.lt_of_lt_of_le h.g5 hB⟩
noncomputable def envList : List (String × DataW Unit) := [("bytes.ErrTooLarge", Rows.laid_bytes_ErrTooLarge), ("loop.example/pub-g03022/pub/hpack.ErrStringLength", Rows.laid_loop_example_pub_g03022_pub_hpack_ErrStringLength), ("loop.example/pub-g03022/pub/hpack.errNeedMore", Rows.laid_loop_example_pub_g03022_pub_hpack_errNeedMore), ("loop.example/pub-g03022/pub/hpack.ErrInvalidHuffman", Rows.laid_loop_example_pub_g03022_pub_hpack_ErrInvalidHuffman), ("loop.example/pub-g03022/pub/hpack.huffmanCodes", Lib.tabData .u32 codeInts), ("loop.example/pub-g03022/pub/hpack.huffmanCodeLen", Lib.tabData .u8 lenInts)]

theorem env_of {W : World} (h : laidMetH Tryd.prog envList W) : ∃ aI aN aL, Env W.heap.size W aI aN aL := by
  have h1 := laidMet.tail h
  have h2 := laidMet.tail h1
  obtain ⟨aL, aN, s0, s1, c0, c1, t0, t1, v0, v1, -, -, -, -, -, -, -, b0, b1⟩ := laid_sentinels2 h1 gLong gLongType gMore gMoreType Tryd.underlying64 rowErr Tryd.underlying121 Tryd.underlying123 rfl rfl Tryd.underlying9 cellsErr cellsStr
  obtain ⟨aN', aI, s2, s3, c2, c3, t2, t3, v2, v3, -, -, -, -, -, -, hne, b2, b3⟩ := laid_sentinels2 h2 gMore gMoreType gInv gInvType Tryd.underlying64 rowErr Tryd.underlying121 Tryd.underlying123 rfl rfl Tryd.underlying9 cellsErr cellsStr
  have e : aN' = aN := by
    rw [v1] at v2
    simpa using v2.symm
  subst e
  have hc := codeTab_of_head (laidMet.tail (laidMet.tail h2))
  have hl := lenTab_of_head (laidMet.tail (laidMet.tail (laidMet.tail h2)))
  have eI : W.cell? ⟨0, 0, none⟩ = some (.iface 121 (.pointer (some aI))) := by simpa using World.var?_cell gInv v3 0
  have eN : W.cell? ⟨2, 0, none⟩ = some (.iface 121 (.pointer (some aN'))) := by simpa using World.var?_cell gMore v1 0
  have eL : W.cell? ⟨1, 0, none⟩ = some (.iface 121 (.pointer (some aL))) := by simpa using World.var?_cell gLong v0 0
  exact ⟨aI, aN', aL, hl, hc, eI, eN, eL, ⟨Nat.zero_le _, _, _, b3⟩, ⟨Nat.zero_le _, _, _, b1⟩, ⟨Nat.zero_le _, _, _, b0⟩, fun h => hne h.symm,
    (Array.getElem?_eq_some_iff.1 b3).1, (Array.getElem?_eq_some_iff.1 b1).1, (Array.getElem?_eq_some_iff.1 b0).1, LenTab.lt hl, CodeTab.lt hc, World.block_lt_of_cell? W _ eI, World.block_lt_of_cell? W _ eN, World.block_lt_of_cell? W _ eL⟩
end Go.Proofs.YtlkpeeoippbdoaaDoor
/-
  PLAIN: how many fields are told. No program in sight.
-/
namespace Go.Proofs.YtlkpeeoippbdoaaDoor.HD

theorem W_len : ∀ (n : Nat) (s : St) (out : List Fld) (v : Bs), v.length ≤ n → (W s out v).out.length + (W s out v).save.length ≤ out.length + v.length
  | n, s, out, [], _ => by simp [W_nil]
  | 0, _, _, _ :: _, h => by simp at h
  | n + 1, s, out, b :: v, h => by
    rw [W_cons]
    cases hr : pRepr s (b :: v) with
    | more => simp
    | bad e => simp
    | ok ents max o rest =>
      have hl := pRepr_len hr
      have := W_len n { s with ents := ents, max := max, first := false } (out ++ o.toList) rest (by simp at *; omega)
      have ho : o.toList.length ≤ 1 := by cases o <;> simp
      rw [List.length_append] at this
      dsimp only
      omega
theorem write_len (s : St) (save p : Bs) : (write s save p).out.length + (write s save p).save.length ≤ save.length + p.length := by
  unfold write
  split
  · simp
  · have := W_len _ s [] (save ++ p) (Nat.le_refl _)
    unfold W at this
    simp only [List.length_nil, List.length_append] at this ⊢
    omega
theorem close_len (s : St) (save : Bs) : (close s save).save.length ≤ save.length := by
  unfold close
  split <;> simp
theorem dstep_len (σ : DS) (c : Cmd) : (dstep σ c).2.out.length + (dstep σ c).1.save.length ≤ σ.save.length + c.len := by
  cases c with
  | write v => exact write_len σ.st σ.save v
  | close => have := close_len σ.st σ.save; simp only [dstep, List.length_nil]; omega
  | full v =>
    have h1 := write_len σ.st σ.save v
    have h2 := close_len (write σ.st σ.save v).st (write σ.st σ.save v).save
    simp only [dstep]
    show _ ≤ σ.save.length + v.length
    split
    · simp; omega
    · split
      · simp; omega
      · simp; omega
  | on b => simp [dstep]
  | resize n => simp [dstep]
  | allow n => simp [dstep]
  | isOn => simp [dstep]
theorem drun_sum : ∀ (cs : List Cmd) (σ : DS), ((drun σ cs).map fun a => a.out.length).sum ≤ σ.save.length + (cs.map Cmd.len).sum
  | [], _ => by simp [drun]
  | c :: cs, σ => by
    have h1 := dstep_len σ c
    have h2 := drun_sum cs (dstep σ c).1
    simp only [drun, List.map_cons, List.sum_cons]
    omega
theorem drun_len : ∀ (cs : List Cmd) (σ : DS), (drun σ cs).length = cs.length
  | [], _ => rfl
  | _ :: cs, σ => by rw [drun, List.length_cons, List.length_cons, drun_len cs]
theorem intg_len (above bits n : Nat) (hn : n < 2 ^ 35) : (intg above bits n).length ≤ 7 := by
  unfold intg
  split
  · simp
  · have := digs_len (n - (2 ^ bits - 1)) 5 (by omega)
    simp; omega
end Go.Proofs.YtlkpeeoippbdoaaDoor.HD
