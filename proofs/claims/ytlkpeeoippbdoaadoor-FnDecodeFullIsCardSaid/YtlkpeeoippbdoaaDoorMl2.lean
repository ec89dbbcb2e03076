/-
  Texts of this seat, one behind the other: DSteps, DWr, Cmds, LaidTabs, ErrTab, EnvTab, HD7, CallEm, Stat, Stat2, Stat3, Stat4. What each one shows stands at its head. No condition.
-/
import Derived.Test.YtlkpeeoippbdoaaDoorMl1
import Derived.Test.YtlkpeeoippbdoaaDoorCards
import Derived.Test.YtlkpeeoippbdoaaDoorTie
import Derived.ProofKit
import Derived.OpenShut
import Derived.LaidMore
import Derived.LaidHandle
import Derived.Deep.DeepHandedRow
import Derived.Deep.DeepWitnessRowRef
import Derived.Lib.LaidTab
import Derived.Stop.LaidErr
import Derived.Deep.DeepLaidRun
import Derived.Stop.LaidTwo
import Derived.Deep.RegionHeld3
import Derived.Laws.Tables
import Derived.Great.BuildSlice
import Derived.Carry
import Derived.Orders
import Derived.Deep.Cut
/-
  Steps of a decoder: Write, Close, SetEmitEnabled, EmitEnabled.
-/
namespace Go.Proofs.YtlkpeeoippbdoaaDoor
open Go.ChangeShapes Go.WideShapes Go.ChangeAt Go.RowKit

set_option maxHeartbeats 4000000 in
set_option maxRecDepth 100000 in
theorem decOn_any (B : Nat) (w : World) (d : Nat) (M : Emitter) (σ : HD.DS) (l : List HD.Fld) (p : DP) (aI aN aL : Addr) (b : Bool)
    (hL : Live B w d M σ.st l p) (hE : Env B w aI aN aL) (hV : Save B w d p.f σ.save) :
    Calls Tryd.prog 23 #[.pointer (some ⟨d, 0, none⟩), .agg #[.int .i64 4, .slice none 0 0, .int .i64 0, .bool b]] w (DEnds B w d M l p (p.cnt + σ.st.ents.length + σ.save.length) (HD.dstep σ (.on b))) := by
  have HL := Lib.hid hL
  have HE := Lib.hid hE
  have HV := Lib.hid hV
  clear hL hE hV
  have hd : d < w.heap.size := HL.out.lt
  obtain ⟨hb0, hr0, ha0⟩ := dec_world w #[.int .i64 4, .slice none 0 0, .int .i64 0, .bool b]
  have HB0 := Lib.hid hb0
  have HR0 := Lib.hid hr0
  have HA0 := Lib.hid ha0
  clear hb0 hr0 ha0
  go_enter Tryd.func23, Tryd.ntmps23
  go_wp2_with fail
  refine (setOn_any d p.f b _ (HL.out.row.of_heap (HB0.out.block d hd)) _ HL.out.mem.on).mono ?_
  rintro e w1 ⟨rfl, hr1, hu1⟩
  have hkk : ∀ k, k = w.heap.size + 1 ∨ k = w.heap.size + 1 + 1 → w1.heap[k]? = _ := fun k hk => hu1.block k (by have := HA0.out.lt; omega) (by omega)
  have hrr := HR0.out.of_heap (hkk _ (Or.inl rfl))
  have hra := HA0.out.of_heap (hkk _ (Or.inr rfl))
  have Hr1 := Lib.hid hr1
  have Hu1 := Lib.hid hu1
  clear hr1 hu1 hkk
  go_wp2_with fail
  refine (codeOf_nil _).mono ?_
  rintro e w2 ⟨rfl, rfl⟩
  have a0 := hra.cell' (i := 0) (v := .slice none 0 0) (by decide) rfl
  have a1 := hra.cell' (i := 1) (v := .slice none 0 0) (by decide) rfl
  have a2 := hra.cell' (i := 2) (v := .int .i64 0) (by decide) rfl
  have a3 := hra.cell' (i := 3) (v := .bool false) (by decide) rfl
  have a4 := hra.cell' (i := 4) (v := .int .i64 0) (by decide) rfl
  have a5 := hra.cell' (i := 5) (v := .int .i64 0) (by decide) rfl
  have r0 := hrr.cell' (i := 0) (v := .slice none 0 0) (by decide) rfl
  have r1 := hrr.cell' (i := 1) (v := .slice none 0 0) (by decide) rfl
  have r2 := hrr.cell' (i := 2) (v := .int .i64 0) (by decide) rfl
  have r3 := hrr.cell' (i := 3) (v := .bool false) (by decide) rfl
  have r4 := hrr.cell' (i := 4) (v := .int .i64 0) (by decide) rfl
  have r5 := hrr.cell' (i := 5) (v := .int .i64 0) (by decide) rfl
  have fza := fun i => hra.unfrozen i none
  have fzr := fun i => hrr.unfrozen i none
  go_wp2_with fail
  (try simp only [Exit.inBlock, Exit.then])
  refine bodyPost_ret (v := .agg (ansCells (.slice none 0 0) (.slice none 0 0) 0 ⟨[], [], false, none⟩)) ?_ rfl ?_
  · simp only [results, Tryd.results23]
    go_simp
    rfl
  have hb1 : Below B w w1 := by
    have h1 := HB0.out.mono HL.out.lo
    exact h1.trans (Hu1.out.below (Nat.le_trans HL.out.lo HB0.out.size) (fun k e => by rw [e]; exact HL.out.mem.tab.lo.1))
  have hk1 : ∀ k, k ≠ d → k < w.heap.size → w1.heap[k]? = w.heap[k]? := fun k hk hlt => (Hu1.out.block k (Nat.lt_of_lt_of_le hlt HB0.out.size) hk).trans (HB0.out.block k hlt)
  have hl : Live B w1 d M { σ.st with on := b } (l ++ []) { p with f := putF p.f 9 (.bool b) } := by
    rw [List.append_nil]
    exact HL.out.mode Hr1.out (fun i hi h7 h9 => by simp only [putF]; rw [if_neg h9]) (by simp [putF, HL.out.mem.allowed]) (by simp [putF]) (by simp [putF, HL.out.mem.first]) rfl rfl HL.out.ok.allowed (fun k hne ho => hk1 k hne (HL.out.own_lt ho))
  refine DEnds.close (r := HD.dstep σ (.on b)) (nn := 0) HL.out hl (HV.out.kept rfl rfl rfl (fun g hg => hk1 g (fun e => HV.out.ne (by rw [hg, e])) (HV.out.u8 hg).lt)) (fun k h => Or.inl h)
    ⟨hb1, fun k hlt hn _ => hk1 k (fun e => hn (e ▸ Or.inl (Or.inl rfl))) hlt⟩ (Nat.le_refl _) (FRow.nil _ _) hrr hra (Upd.refl _ _) (Below.refl _ _) (ans_upd w1 w.heap.size _ _ _ _ _ _ _ _)

set_option maxHeartbeats 4000000 in
set_option maxRecDepth 100000 in
theorem decIsOn_any (B : Nat) (w : World) (d : Nat) (M : Emitter) (σ : HD.DS) (l : List HD.Fld) (p : DP) (aI aN aL : Addr)
    (hL : Live B w d M σ.st l p) (hE : Env B w aI aN aL) (hV : Save B w d p.f σ.save) :
    Calls Tryd.prog 23 #[.pointer (some ⟨d, 0, none⟩), .agg #[.int .i64 7, .slice none 0 0, .int .i64 0, .bool false]] w (DEnds B w d M l p (p.cnt + σ.st.ents.length + σ.save.length) (HD.dstep σ .isOn)) := by
  have HL := Lib.hid hL
  have HE := Lib.hid hE
  have HV := Lib.hid hV
  clear hL hE hV
  have hd : d < w.heap.size := HL.out.lt
  obtain ⟨hb0, hr0, ha0⟩ := dec_world w #[.int .i64 7, .slice none 0 0, .int .i64 0, .bool false]
  have HB0 := Lib.hid hb0
  have HR0 := Lib.hid hr0
  have HA0 := Lib.hid ha0
  clear hb0 hr0 ha0
  go_enter Tryd.func23, Tryd.ntmps23
  go_wp2_with fail
  refine (emitOn_any d σ.st.on _ ((HL.out.row.of_heap (HB0.out.block d hd)).cell' (by decide) HL.out.mem.on)).mono ?_
  rintro e w1 ⟨rfl, hw1⟩
  have hrr : Row w1 _ _ _ := HR0.out.of_heap (by rw [hw1])
  have hra : Row w1 _ _ _ := HA0.out.of_heap (by rw [hw1])
  have hb1 : Below w.heap.size w w1 := by rw [hw1]; exact HB0.out
  have Hb1 := Lib.hid hb1
  clear hw1 hb1
  have a0 := hra.cell' (i := 0) (v := .slice none 0 0) (by decide) rfl
  have a1 := hra.cell' (i := 1) (v := .slice none 0 0) (by decide) rfl
  have a2 := hra.cell' (i := 2) (v := .int .i64 0) (by decide) rfl
  have a3 := hra.cell' (i := 3) (v := .bool false) (by decide) rfl
  have a4 := hra.cell' (i := 4) (v := .int .i64 0) (by decide) rfl
  have a5 := hra.cell' (i := 5) (v := .int .i64 0) (by decide) rfl
  have r0 := hrr.cell' (i := 0) (v := .slice none 0 0) (by decide) rfl
  have r1 := hrr.cell' (i := 1) (v := .slice none 0 0) (by decide) rfl
  have r2 := hrr.cell' (i := 2) (v := .int .i64 0) (by decide) rfl
  have r3 := hrr.cell' (i := 3) (v := .bool false) (by decide) rfl
  have r4 := hrr.cell' (i := 4) (v := .int .i64 0) (by decide) rfl
  have r5 := hrr.cell' (i := 5) (v := .int .i64 0) (by decide) rfl
  have fza := fun i => hra.unfrozen i none
  have fzr := fun i => hrr.unfrozen i none
  go_wp2_with fail
  refine (codeOf_nil _).mono ?_
  rintro e w2 ⟨rfl, rfl⟩
  go_wp2_with fail
  (try simp only [Exit.inBlock, Exit.then])
  refine bodyPost_ret (v := .agg (ansCells (.slice none 0 0) (.slice none 0 0) 0 ⟨[], [], σ.st.on, none⟩)) ?_ rfl ?_
  · simp only [results, Tryd.results23]
    go_simp
    rfl
  have hl : Live B w1 d M σ.st (l ++ []) p := by
    rw [List.append_nil]
    exact HL.out.below Hb1.out
  refine DEnds.close (r := HD.dstep σ .isOn) (nn := 0) HL.out hl (HV.out.kept rfl rfl rfl (fun g hg => Hb1.out.block g (HV.out.u8 hg).lt)) (fun k h => Or.inl h)
    (Kept.of_below Hb1.out HL.out.lo) (Nat.le_refl _) (FRow.nil _ _) hrr hra ((Upd.refl _ _).setCell (a := ⟨w.heap.size + 1 + 1, 3, none⟩) (Or.inl (Or.inr rfl)) (.bool σ.st.on)) (Below.refl _ _) (ans_upd _ w.heap.size _ _ _ _ _ _ _ _)

set_option maxHeartbeats 4000000 in
set_option maxRecDepth 100000 in
theorem decClose_any (B : Nat) (w : World) (d : Nat) (M : Emitter) (σ : HD.DS) (l : List HD.Fld) (p : DP) (aI aN aL : Addr)
    (hL : Live B w d M σ.st l p) (hE : Env B w aI aN aL) (hV : Save B w d p.f σ.save) (hlen : σ.save.length < 2 ^ 46) :
    Calls Tryd.prog 23 #[.pointer (some ⟨d, 0, none⟩), .agg #[.int .i64 1, .slice none 0 0, .int .i64 0, .bool false]] w (DEnds B w d M l p (p.cnt + σ.st.ents.length + σ.save.length) (HD.dstep σ .close)) := by
  have HL := Lib.hid hL
  have HE := Lib.hid hE
  have HV := Lib.hid hV
  clear hL hE hV
  obtain ⟨c12, a12, h12⟩ : ∃ (c : Nat) (a : Option Addr), p.f 12 = .slice a σ.save.length c := by
    obtain ⟨a, c, h⟩ := own_form HV.out.own
    exact ⟨c, a, h⟩
  have H12 := Lib.hid h12
  clear h12
  have hd : d < w.heap.size := HL.out.lt
  obtain ⟨hb0, hr0, ha0⟩ := dec_world w #[.int .i64 1, .slice none 0 0, .int .i64 0, .bool false]
  have HB0 := Lib.hid hb0
  have HR0 := Lib.hid hr0
  have HA0 := Lib.hid ha0
  clear hb0 hr0 ha0
  go_enter Tryd.func23, Tryd.ntmps23
  go_wp2_with fail
  rcases Classical.em (σ.save = []) with hs0 | hs0
  · have h12 : p.f 12 = .slice a12 0 c12 := by rw [H12.out, hs0]; rfl
    refine (closeOk_any d c12 a12 p.f _ (HL.out.row.of_heap (HB0.out.block d hd)) h12 HV.out.off _ HL.out.mem.first).mono ?_
    rintro e w1 ⟨rfl, hr1, hu1⟩
    have hkk : ∀ k, k = w.heap.size + 1 ∨ k = w.heap.size + 1 + 1 → w1.heap[k]? = _ := fun k hk => hu1.block k (by have := HA0.out.lt; omega) (by omega)
    have hrr := HR0.out.of_heap (hkk _ (Or.inl rfl))
    have hra := HA0.out.of_heap (hkk _ (Or.inr rfl))
    have Hr1 := Lib.hid hr1
    have Hu1 := Lib.hid hu1
    clear hr1 hu1 hkk
    go_wp2_with fail
    refine (codeOf_nil _).mono ?_
    rintro e w2 ⟨rfl, rfl⟩
    have a0 := hra.cell' (i := 0) (v := .slice none 0 0) (by decide) rfl
    have a1 := hra.cell' (i := 1) (v := .slice none 0 0) (by decide) rfl
    have a2 := hra.cell' (i := 2) (v := .int .i64 0) (by decide) rfl
    have a3 := hra.cell' (i := 3) (v := .bool false) (by decide) rfl
    have a4 := hra.cell' (i := 4) (v := .int .i64 0) (by decide) rfl
    have a5 := hra.cell' (i := 5) (v := .int .i64 0) (by decide) rfl
    have r0 := hrr.cell' (i := 0) (v := .slice none 0 0) (by decide) rfl
    have r1 := hrr.cell' (i := 1) (v := .slice none 0 0) (by decide) rfl
    have r2 := hrr.cell' (i := 2) (v := .int .i64 0) (by decide) rfl
    have r3 := hrr.cell' (i := 3) (v := .bool false) (by decide) rfl
    have r4 := hrr.cell' (i := 4) (v := .int .i64 0) (by decide) rfl
    have r5 := hrr.cell' (i := 5) (v := .int .i64 0) (by decide) rfl
    have fza := fun i => hra.unfrozen i none
    have fzr := fun i => hrr.unfrozen i none
    go_wp2_with fail
    (try simp only [Exit.inBlock, Exit.then])
    refine bodyPost_ret (v := .agg (ansCells (.slice none 0 0) (.slice none 0 0) 0 ⟨[], [], false, none⟩)) ?_ rfl ?_
    · simp only [results, Tryd.results23]
      go_simp
      rfl
    have hb1 : Below B w w1 := by
      have h1 := HB0.out.mono HL.out.lo
      exact h1.trans (Hu1.out.below (Nat.le_trans HL.out.lo HB0.out.size) (fun k e => by rw [e]; exact HL.out.mem.tab.lo.1))
    have hk1 : ∀ k, k ≠ d → k < w.heap.size → w1.heap[k]? = w.heap[k]? := fun k hk hlt => (Hu1.out.block k (Nat.lt_of_lt_of_le hlt HB0.out.size) hk).trans (HB0.out.block k hlt)
    have hl : Live B w1 d M { σ.st with first := true } (l ++ []) { p with f := putF p.f 15 (.bool true) } := by
      rw [List.append_nil]
      exact HL.out.put Hr1.out (fun i hi => by simp only [putF]; rw [if_neg (by omega)]) (by simp [putF]) (fun k hne ho => hk1 k hne (HL.out.own_lt ho))
    have hst : HD.dstep σ .close = (⟨{ σ.st with first := true }, []⟩, ⟨[], [], false, none⟩) := by simp only [HD.dstep, HD.close, if_pos hs0]
    have hsv : Save B w1 d (putF p.f 15 (.bool true)) [] := by rw [← hs0]; exact HV.out.kept rfl rfl rfl (fun g hg => hk1 g (fun e => HV.out.ne (by rw [hg, e])) (HV.out.u8 hg).lt)
    rw [hst]
    refine DEnds.close (r := (⟨{ σ.st with first := true }, []⟩, ⟨[], [], false, none⟩)) (nn := 0) HL.out hl hsv (fun k h => Or.inl h)
      ⟨hb1, fun k hlt hn _ => hk1 k (fun e => hn (e ▸ Or.inl (Or.inl rfl))) hlt⟩ (by simp) (FRow.nil _ _) hrr hra (Upd.refl _ _) (Below.refl _ _) (ans_upd w1 w.heap.size _ _ _ _ _ _ _ _)
  · obtain ⟨lr, h14⟩ := HV.out.last
    refine (closeBad_any d σ.save.length c12 a12 p.f _ (HL.out.row.of_heap (HB0.out.block d hd)) H12.out HV.out.off lr h14 (by unfold maxLen; omega) (List.length_pos_iff.2 hs0)).mono ?_
    rintro e w1 ⟨⟨x, rfl, hx⟩, hr1, hu1⟩
    have hkk : ∀ k, k = w.heap.size + 1 ∨ k = w.heap.size + 1 + 1 → w1.heap[k]? = _ := fun k hk => hu1.block k (by have := HA0.out.lt; omega) (by omega)
    have hrr0 := HR0.out.of_heap (hkk _ (Or.inl rfl))
    have hra0 := HA0.out.of_heap (hkk _ (Or.inr rfl))
    have hb1 : Below B w w1 := by
      have h1 := HB0.out.mono HL.out.lo
      exact h1.trans (hu1.below (Nat.le_trans HL.out.lo HB0.out.size) (fun k e => by rw [e]; exact HL.out.mem.tab.lo.1))
    have Hb1 := Lib.hid hb1
    have Hx := Lib.hid hx
    have Hr1 := Lib.hid hr1
    have Hu1 := Lib.hid hu1
    have Hrr0 := Lib.hid hrr0
    have Hra0 := Lib.hid hra0
    clear hr1 hu1 hkk hx hb1 hrr0 hra0
    go_wp2_with fail
    refine (codeOf_any B _ (some .coding) _ aI aN aL _ (HE.out.below (by exact Hb1.out)) (Nat.le_trans HL.out.lo HB0.out.size) ⟨x, rfl, Hx.out⟩).mono ?_
    rintro e w2 ⟨rfl, hb2⟩
    have hrr := Hrr0.out.below hb2 Hrr0.out.lt
    have hra := Hra0.out.below hb2 Hra0.out.lt
    have Hb2 := Lib.hid hb2
    clear hb2
    simp only [HD.code, HD.idx]
    have a0 := hra.cell' (i := 0) (v := .slice none 0 0) (by decide) rfl
    have a1 := hra.cell' (i := 1) (v := .slice none 0 0) (by decide) rfl
    have a2 := hra.cell' (i := 2) (v := .int .i64 0) (by decide) rfl
    have a3 := hra.cell' (i := 3) (v := .bool false) (by decide) rfl
    have a4 := hra.cell' (i := 4) (v := .int .i64 0) (by decide) rfl
    have a5 := hra.cell' (i := 5) (v := .int .i64 0) (by decide) rfl
    have r0 := hrr.cell' (i := 0) (v := .slice none 0 0) (by decide) rfl
    have r1 := hrr.cell' (i := 1) (v := .slice none 0 0) (by decide) rfl
    have r2 := hrr.cell' (i := 2) (v := .int .i64 0) (by decide) rfl
    have r3 := hrr.cell' (i := 3) (v := .bool false) (by decide) rfl
    have r4 := hrr.cell' (i := 4) (v := .int .i64 0) (by decide) rfl
    have r5 := hrr.cell' (i := 5) (v := .int .i64 0) (by decide) rfl
    have fza := fun i => hra.unfrozen i none
    have fzr := fun i => hrr.unfrozen i none
    go_wp2_with fail
    (try simp only [Exit.inBlock, Exit.then])
    refine bodyPost_ret (v := .agg (ansCells (.slice none 0 0) (.slice none 0 0) 0 ⟨[], [], false, some .coding⟩)) ?_ rfl ?_
    · simp only [results, Tryd.results23]
      go_simp
      rfl
    have hk1 : ∀ k, k ≠ d → k < w.heap.size → w1.heap[k]? = w.heap[k]? := fun k hk hlt => (Hu1.out.block k (Nat.lt_of_lt_of_le hlt HB0.out.size) hk).trans (HB0.out.block k hlt)
    have hl : Live B w1 d M { σ.st with first := σ.st.first } (l ++ []) { p with f := putF (putF p.f 12 (.slice a12 0 c12)) 14 (.int .i8 0) } := by
      rw [List.append_nil]
      exact HL.out.put Hr1.out (fun i hi => by simp only [putF]; rw [if_neg (by omega), if_neg (by omega)]) (by simp [putF, HL.out.mem.first]) (fun k hne ho => hk1 k hne (HL.out.own_lt ho))
    have hst : HD.dstep σ .close = (⟨σ.st, []⟩, ⟨[], [], false, some .coding⟩) := by simp only [HD.dstep, HD.close, if_neg hs0]
    have hsv : Save B w1 d (putF (putF p.f 12 (.slice a12 0 c12)) 14 (.int .i8 0)) [] := by
      have hown := HV.out.own
      rw [H12.out] at hown
      have hgs : ∃ g, a12 = some ⟨g, 0, none⟩ := by
        rcases hown.2 with ⟨-, h0⟩ | ⟨g, cap, cur, e, -⟩
        · exact absurd (List.eq_nil_of_length_eq_zero h0) hs0
        · injection e with e; exact ⟨g, e⟩
      obtain ⟨g, rfl⟩ := hgs
      have hg : (p.f 12).ownBlock = some g := by rw [H12.out]; rfl
      have hgd : g ≠ d := fun e => HV.out.ne (by rw [hg, e])
      refine ⟨?_, ?_, by simp [putF, HV.out.off], 0, by simp [putF]⟩
      · have : (putF (putF p.f 12 (.slice (some ⟨g, 0, none⟩) 0 c12)) 14 (.int .i8 0)) 12 = .slice (some ⟨g, 0, none⟩) 0 c12 := by simp [putF]
        rw [this]
        exact ownsRow_of_heap (own_reset hown) fun q hq => by injection hq with hq; subst hq; exact hk1 g hgd (HV.out.u8 hg).lt
      · simp [putF, Value.ownBlock, hgd]
    rw [hst]
    refine DEnds.close (r := (⟨σ.st, []⟩, ⟨[], [], false, some .coding⟩)) (nn := 0) HL.out hl hsv (fun k h => Or.inl h)
      ⟨Hb1.out, fun k hlt hn _ => hk1 k (fun e => hn (e ▸ Or.inl (Or.inl rfl))) hlt⟩ (by simp) (FRow.nil _ _) Hrr0.out Hra0.out (Upd.refl _ _) Hb2.out (ans_upd w2 w.heap.size _ _ _ _ _ _ _ _)
end Go.Proofs.YtlkpeeoippbdoaaDoor
/-
  A step of a decoder: Write.
-/
namespace Go.Proofs.YtlkpeeoippbdoaaDoor
open Go.ChangeShapes Go.WideShapes Go.ChangeAt Go.RowKit

/-- What is known behind the call of Write. -/
structure WMid (B : Nat) (w w2 : World) (d : Nat) (M : Emitter) (l : List HD.Fld) (p p' : DP) (aI : Addr) (N : Nat) (r : HD.WR) (x : Value) : Prop where
  err : ErrO (w.heap.size + 3) w2 aI r.err x
  live : Live B w2 d M r.st (l ++ r.out) p'
  save : Save B w2 d p'.f r.save
  own : ∀ k, p'.own d k → p.own d k ∨ w.heap.size + 3 ≤ k
  kept : Kept B (p.own d) w w2
  num : p'.cnt + r.st.ents.length + r.save.length ≤ N
  rr : Row w2 (w.heap.size + 1) 6 (fun i => ans0.getD i undef)
  ra : Row w2 (w.heap.size + 1 + 1) 6 (fun i => ans0.getD i undef)

theorem wMid (B : Nat) (w w1 : World) (d : Nat) (M : Emitter) (σ : HD.DS) (l : List HD.Fld) (p : DP) (aI aN aL : Addr) (G : HD.St → HD.Bs → Prop) (hS : Steps B d M aI aN aL G) (v : HD.Bs) (b1 : Value) (N : Nat)
    (hL : Live B w d M σ.st l p) (hE : Env B w aI aN aL) (hV : Save B w d p.f σ.save) (hG : G σ.st (σ.save ++ v)) (hN0 : N = p.cnt + σ.st.ents.length + σ.save.length + v.length) (hN : N < 2 ^ 46) (hT : l.length + (σ.save ++ v).length ≤ 2 ^ 40)
    (hb1 : Below w.heap.size w w1) (hr1 : Row w1 (w.heap.size + 1) 6 (fun i => ans0.getD i undef)) (ha1 : Row w1 (w.heap.size + 1 + 1) 6 (fun i => ans0.getD i undef))
    (hs : (v = [] ∧ b1 = .slice none 0 0) ∨ ∃ g o cap, b1 = .slice (some ⟨g, o, none⟩) v.length cap ∧ Buf w1 g o cap v ∧ IsU8 w1 g) :
    Calls Tryd.prog 29 #[.pointer (some ⟨d, 0, none⟩), b1] w1 fun e w2 => ∃ x p', e = .returned (.tuple #[.int .i64 (v.length : Nat), x]) ∧ WMid B w w2 d M l p p' aI N (HD.write σ.st σ.save v) x := by
  have hsz : w.heap.size + 3 ≤ w1.heap.size := by have := ha1.lt; omega
  have hl1 := hL.below hb1
  have he1 := hE.below (hb1.mono hL.lo)
  have hv1 : Save B w1 d p.f σ.save := hV.kept rfl rfl rfl (fun g hg => hb1.block g (hV.u8 hg).lt)
  obtain ⟨sa, cap, rfl, hsrc⟩ : ∃ sa cap, b1 = .slice sa v.length cap ∧ (v = [] ∨ ∃ g o, sa = some ⟨g, o, none⟩ ∧ Buf w1 g o cap v ∧ IsU8 w1 g) := by
    rcases hs with ⟨hv, rfl⟩ | ⟨g, o, cap, rfl, hb, hu⟩
    · exact ⟨none, 0, by rw [hv]; rfl, Or.inl hv⟩
    · exact ⟨_, cap, rfl, Or.inr ⟨g, o, rfl, hb, hu⟩⟩
  refine (write_any B w1 d M σ.st l p aI aN aL G hS σ.save v sa cap N hl1 he1 hv1 hG hsrc (Nat.le_of_eq hN0.symm) hN hT).mono ?_
  rintro e w2 ⟨⟨x, rfl, hx⟩, p', hl2, hs2, ho2, hk2, hn2⟩
  have hkk : ∀ k, k = w.heap.size + 1 ∨ k = w.heap.size + 1 + 1 → w2.heap[k]? = w1.heap[k]? := fun k hk => hk2.block k (by omega) (fun h => by
    have := hL.own_lt h
    omega) (by
      rcases hk with rfl | rfl
      · exact hr1.notU8
      · exact ha1.notU8)
  refine ⟨x, p', rfl, ?_, hl2, hs2, fun k h => (ho2 k h).imp id (fun h => Nat.le_trans hsz h), (Kept.of_below hb1 hL.lo).step hk2, hn2, hr1.of_heap (hkk _ (Or.inl rfl)), ha1.of_heap (hkk _ (Or.inr rfl))⟩
  cases hr : (HD.write σ.st σ.save v).err with
  | none => rw [hr] at hx; exact hx
  | some er => rw [hr] at hx; exact ErrV.move hx hsz (fun k _ _ => rfl)

theorem dec_first (w : World) (cs : Array Value) (v : Value) (h : cs[0]? = some v) : (((w.alloc (.cells cs 27)).alloc (.cells ans0 37)).alloc (.cells ans0 37)).cell? ⟨w.heap.size, 0, none⟩ = some v := by
  have h0 : (w.alloc (.cells cs 27)).heap[w.heap.size]? = some (.cells cs 27 (0, 0)) := by show (w.heap.push _)[w.heap.size]? = _; simp
  have h1 : (((w.alloc (.cells cs 27)).alloc (.cells ans0 37)).alloc (.cells ans0 37)).heap[w.heap.size]? = some (.cells cs 27 (0, 0)) := by
    rw [Below.heap_alloc _ _ _ (by simp; omega), Below.heap_alloc _ _ _ (by simp)]; exact h0
  simp [World.cell?, h1, h]

set_option maxHeartbeats 1000000 in
set_option maxRecDepth 100000 in
theorem decWrite_any (B : Nat) (w : World) (d : Nat) (M : Emitter) (σ : HD.DS) (l : List HD.Fld) (p : DP) (aI aN aL : Addr) (G : HD.St → HD.Bs → Prop) (hS : Steps B d M aI aN aL G) (v : HD.Bs) (b : Value)
    (hL : Live B w d M σ.st l p) (hE : Env B w aI aN aL) (hV : Save B w d p.f σ.save) (hG : G σ.st (σ.save ++ v)) (hb : CmdV w (.write v) b) (hN : p.cnt + σ.st.ents.length + σ.save.length + v.length < 2 ^ 46) (hT : l.length + (σ.save ++ v).length ≤ 2 ^ 40) :
    Calls Tryd.prog 23 #[.pointer (some ⟨d, 0, none⟩), .agg #[.int .i64 0, b, .int .i64 0, .bool false]] w (DEnds B w d M l p (p.cnt + σ.st.ents.length + σ.save.length + v.length) (HD.dstep σ (.write v))) := by
  have HL := Lib.hid hL
  have HE := Lib.hid hE
  have HV := Lib.hid hV
  clear hL hE hV
  have hd : d < w.heap.size := HL.out.lt
  obtain ⟨hb0, hr0, ha0⟩ := dec_world w #[.int .i64 0, b, .int .i64 0, .bool false]
  have HB0 := Lib.hid hb0
  have HR0 := Lib.hid hr0
  have HA0 := Lib.hid ha0
  clear hb0 hr0 ha0
  obtain ⟨hl40, -, hb⟩ := hb
  have hl40 : v.length < 2 ^ 40 := hl40
  rcases hb with ⟨hv, rfl⟩ | ⟨sa, cap, hbe, hb, -⟩
  · have Hv := Lib.hid hv
    clear hv
    go_enter Tryd.func23, Tryd.ntmps23
    go_wp2_with fail
    refine (wMid B w _ d M σ l p aI aN aL G hS v _ _ HL.out HE.out HV.out hG rfl hN hT (by exact HB0.out) (by exact HR0.out) (by exact HA0.out) (Or.inl ⟨Hv.out, rfl⟩)).mono ?_
    rintro e w2 ⟨x, p', rfl, hm⟩
    have hE2' : Env B (w2.setCell ⟨w.heap.size + 1 + 1, 2, none⟩ (.int .i64 (v.length : Nat))) aI aN aL := (HE.out.below hm.kept.below).below ⟨rfl, rfl, rfl, by rw [World.size_setCell]; exact Nat.le_refl _, fun k hk => other_set (by have := HL.out.lo; omega)⟩
    have hx2 : ErrO (w.heap.size + 3) (w2.setCell ⟨w.heap.size + 1 + 1, 2, none⟩ (.int .i64 (v.length : Nat))) aI (HD.write σ.st σ.save v).err x := by
      have hx := hm.err
      cases hr : (HD.write σ.st σ.save v).err with
      | none => rw [hr] at hx; exact hx
      | some er => rw [hr] at hx; exact ErrV.move hx (Nat.le_refl _) (fun k hk _ => other_set (by omega))
    have Hra3 := Lib.hid (hm.ra.set 2 (.int .i64 (v.length : Nat)))
    have Hrr3 := Lib.hid (hm.rr.setOther (a := ⟨w.heap.size + 1 + 1, 2, none⟩) (by show w.heap.size + 1 ≠ w.heap.size + 1 + 1; omega) (.int .i64 (v.length : Nat)))
    have za2 := hm.ra.cell' (i := 2) (v := .int .i64 0) (by decide) rfl
    have zfa := fun i => hm.ra.unfrozen i none
    have Hx2 := Lib.hid hx2
    have HE2 := Lib.hid hE2'
    have Hm := Lib.hid hm
    have hBs : B ≤ w.heap.size + 3 := by have := HL.out.lo; omega
    clear hm hE2' hx2
    go_wp2_with fail
    refine (codeOf_any B (w.heap.size + 3) (HD.write σ.st σ.save v).err x aI aN aL _ (by exact HE2.out) hBs (by exact Hx2.out)).mono ?_
    rintro e w3 ⟨rfl, hb3⟩
    have hra : Row w3 (w.heap.size + 1 + 1) 6 _ := Hra3.out.below hb3 Hra3.out.lt
    have hrr : Row w3 (w.heap.size + 1) 6 _ := Hrr3.out.below hb3 Hrr3.out.lt
    have Hb3 : Hid (Below (w2.setCell ⟨w.heap.size + 1 + 1, 2, none⟩ (.int .i64 (v.length : Nat))).heap.size (w2.setCell ⟨w.heap.size + 1 + 1, 2, none⟩ (.int .i64 (v.length : Nat))) w3) := Lib.hid hb3
    clear hb3 za2 zfa
    have a0 := hra.cell' (i := 0) (v := .slice none 0 0) (by decide) rfl
    have a1 := hra.cell' (i := 1) (v := .slice none 0 0) (by decide) rfl
    have a2 := hra.cell' (i := 2) (v := .int .i64 (v.length : Nat)) (by decide) rfl
    have a3 := hra.cell' (i := 3) (v := .bool false) (by decide) rfl
    have a4 := hra.cell' (i := 4) (v := .int .i64 0) (by decide) rfl
    have a5 := hra.cell' (i := 5) (v := .int .i64 0) (by decide) rfl
    have r0 := hrr.cell' (i := 0) (v := .slice none 0 0) (by decide) rfl
    have r1 := hrr.cell' (i := 1) (v := .slice none 0 0) (by decide) rfl
    have r2 := hrr.cell' (i := 2) (v := .int .i64 0) (by decide) rfl
    have r3 := hrr.cell' (i := 3) (v := .bool false) (by decide) rfl
    have r4 := hrr.cell' (i := 4) (v := .int .i64 0) (by decide) rfl
    have r5 := hrr.cell' (i := 5) (v := .int .i64 0) (by decide) rfl
    have fza := fun i => hra.unfrozen i none
    have fzr := fun i => hrr.unfrozen i none
    go_wp2_with fail
    (try simp only [Exit.inBlock, Exit.then])
    refine bodyPost_ret (v := .agg (ansCells (.slice none 0 0) (.slice none 0 0) (v.length : Nat) (HD.dstep σ (.write v)).2)) ?_ rfl ?_
    · simp only [results, Tryd.results23]
      go_simp
      rfl
    exact DEnds.close (N := p.cnt + σ.st.ents.length + σ.save.length + v.length) (r := HD.dstep σ (.write v)) (nn := (v.length : Nat)) HL.out Hm.out.live Hm.out.save Hm.out.own Hm.out.kept Hm.out.num (FRow.nil _ _) Hm.out.rr Hm.out.ra ((Upd.refl _ w2).setCell (a := ⟨w.heap.size + 1 + 1, 2, none⟩) (Or.inl (Or.inr rfl)) (.int .i64 (v.length : Nat))) Hb3.out (ans_upd w3 w.heap.size _ _ _ _ _ _ _ _)
  · have hbe : b = .slice (some sa) v.length cap := hbe
    have hb : ∀ q u, (Lib.byteCells v)[q]? = some u → w.cell? (sa.add q) = some u := hb
    subst hbe
    have hcells : ∀ q u, (Lib.byteCells v)[q]? = some u → (((w.alloc (.cells #[.int .i64 0, .slice (some sa) v.length cap, .int .i64 0, .bool false] 27)).alloc (.cells ans0 37)).alloc (.cells ans0 37)).cell? (sa.add q) = some u := by
      intro q u hq
      have h0 := hb q u hq
      exact (HB0.out.cell (World.block_lt_of_cell? w _ h0)).trans h0
    have Hcells := Lib.hid hcells
    clear hcells hb
    have Hs0 := Lib.hid (dec_first w #[.int .i64 0, .slice (some sa) v.length cap, .int .i64 0, .bool false] (.int .i64 0) rfl)
    obtain ⟨i0, hi, hz0, hz1, hz2⟩ := info_parts infoU8
    go_enter Tryd.func23, Tryd.ntmps23
    go_wp2_with (at_builtin; go_must (refine wpList_append_own_at _ rfl _ _ 22 rfl w.heap.size 5 i0 (.int .u8 0) 1 1 Tryd.underlying22 hi hz0 hz1 hz2 rfl (by decide) (.slice none 0 0) 0 [] rfl (World.ownsRow_nil _ w.heap.size _ _) sa v.length cap (Lib.byteCells v) rfl (by rw [byteCells_len, Nat.mul_one]) (by exact Hcells.out) (Lib.byteCells_one _) (by unfold maxLen; omega) (by omega) (by simp; omega) ?_); intro v1 w1 hown1 hgrow1 _ _; rw [Nat.zero_add, List.nil_append] at hown1; have hbw1 := (Below.refl _ _).grown hgrow1 (Nat.le_refl _) (fun k hk => by cases hk); have Hown1 := Lib.hid hown1; have Hbw1 := Lib.hid hbw1; have s0 := (hbw1.cell (p := ⟨w.heap.size, 0, none⟩) (by simp; omega)).trans Hs0.out; clear hown1 hgrow1 hbw1)
    have hb1 : Below w.heap.size w w1 := HB0.out.trans (Hbw1.out.mono HB0.out.size)
    have hs1 : (v = [] ∧ v1 = .slice none 0 0) ∨ ∃ g o cap, v1 = .slice (some ⟨g, o, none⟩) v.length cap ∧ Buf w1 g o cap v ∧ IsU8 w1 g := by
      rcases Hown1.out.2 with ⟨e, h0⟩ | ⟨g1, cap1, cur, e, -⟩
      · exact Or.inl ⟨List.eq_nil_of_length_eq_zero h0, e⟩
      · have ho := Hown1.out
        rw [e] at ho
        exact Or.inr ⟨g1, 0, cap1, e, Buf.of_own ho rfl⟩
    refine (wMid B w w1 d M σ l p aI aN aL G hS v v1 _ HL.out HE.out HV.out hG rfl hN hT hb1 (HR0.out.below Hbw1.out HR0.out.lt) (HA0.out.below Hbw1.out HA0.out.lt) hs1).mono ?_
    clear hs1 hb1
    rintro e w2 ⟨x, p', rfl, hm⟩
    have hE2' : Env B (w2.setCell ⟨w.heap.size + 1 + 1, 2, none⟩ (.int .i64 (v.length : Nat))) aI aN aL := (HE.out.below hm.kept.below).below ⟨rfl, rfl, rfl, by rw [World.size_setCell]; exact Nat.le_refl _, fun k hk => other_set (by have := HL.out.lo; omega)⟩
    have hx2 : ErrO (w.heap.size + 3) (w2.setCell ⟨w.heap.size + 1 + 1, 2, none⟩ (.int .i64 (v.length : Nat))) aI (HD.write σ.st σ.save v).err x := by
      have hx := hm.err
      cases hr : (HD.write σ.st σ.save v).err with
      | none => rw [hr] at hx; exact hx
      | some er => rw [hr] at hx; exact ErrV.move hx (Nat.le_refl _) (fun k hk _ => other_set (by omega))
    have Hra3 := Lib.hid (hm.ra.set 2 (.int .i64 (v.length : Nat)))
    have Hrr3 := Lib.hid (hm.rr.setOther (a := ⟨w.heap.size + 1 + 1, 2, none⟩) (by show w.heap.size + 1 ≠ w.heap.size + 1 + 1; omega) (.int .i64 (v.length : Nat)))
    have za2 := hm.ra.cell' (i := 2) (v := .int .i64 0) (by decide) rfl
    have zfa := fun i => hm.ra.unfrozen i none
    have Hx2 := Lib.hid hx2
    have HE2 := Lib.hid hE2'
    have Hm := Lib.hid hm
    have hBs : B ≤ w.heap.size + 3 := by have := HL.out.lo; omega
    clear hm hE2' hx2
    go_wp2_with fail
    refine (codeOf_any B (w.heap.size + 3) (HD.write σ.st σ.save v).err x aI aN aL _ (by exact HE2.out) hBs (by exact Hx2.out)).mono ?_
    rintro e w3 ⟨rfl, hb3⟩
    have hra : Row w3 (w.heap.size + 1 + 1) 6 _ := Hra3.out.below hb3 Hra3.out.lt
    have hrr : Row w3 (w.heap.size + 1) 6 _ := Hrr3.out.below hb3 Hrr3.out.lt
    have Hb3 : Hid (Below (w2.setCell ⟨w.heap.size + 1 + 1, 2, none⟩ (.int .i64 (v.length : Nat))).heap.size (w2.setCell ⟨w.heap.size + 1 + 1, 2, none⟩ (.int .i64 (v.length : Nat))) w3) := Lib.hid hb3
    clear hb3 za2 zfa
    have a0 := hra.cell' (i := 0) (v := .slice none 0 0) (by decide) rfl
    have a1 := hra.cell' (i := 1) (v := .slice none 0 0) (by decide) rfl
    have a2 := hra.cell' (i := 2) (v := .int .i64 (v.length : Nat)) (by decide) rfl
    have a3 := hra.cell' (i := 3) (v := .bool false) (by decide) rfl
    have a4 := hra.cell' (i := 4) (v := .int .i64 0) (by decide) rfl
    have a5 := hra.cell' (i := 5) (v := .int .i64 0) (by decide) rfl
    have r0 := hrr.cell' (i := 0) (v := .slice none 0 0) (by decide) rfl
    have r1 := hrr.cell' (i := 1) (v := .slice none 0 0) (by decide) rfl
    have r2 := hrr.cell' (i := 2) (v := .int .i64 0) (by decide) rfl
    have r3 := hrr.cell' (i := 3) (v := .bool false) (by decide) rfl
    have r4 := hrr.cell' (i := 4) (v := .int .i64 0) (by decide) rfl
    have r5 := hrr.cell' (i := 5) (v := .int .i64 0) (by decide) rfl
    have fza := fun i => hra.unfrozen i none
    have fzr := fun i => hrr.unfrozen i none
    go_wp2_with fail
    (try simp only [Exit.inBlock, Exit.then])
    refine bodyPost_ret (v := .agg (ansCells (.slice none 0 0) (.slice none 0 0) (v.length : Nat) (HD.dstep σ (.write v)).2)) ?_ rfl ?_
    · simp only [results, Tryd.results23]
      go_simp
      rfl
    exact DEnds.close (N := p.cnt + σ.st.ents.length + σ.save.length + v.length) (r := HD.dstep σ (.write v)) (nn := (v.length : Nat)) HL.out Hm.out.live Hm.out.save Hm.out.own Hm.out.kept Hm.out.num (FRow.nil _ _) Hm.out.rr Hm.out.ra ((Upd.refl _ w2).setCell (a := ⟨w.heap.size + 1 + 1, 2, none⟩) (Or.inl (Or.inr rfl)) (.int .i64 (v.length : Nat))) Hb3.out (ans_upd w3 w.heap.size _ _ _ _ _ _ _ _)
end Go.Proofs.YtlkpeeoippbdoaaDoor
/-
  Each step of a decoder meets what is asked of it; steps that lie in memory.
-/
namespace Go.Proofs.YtlkpeeoippbdoaaDoor
open Go.ChangeShapes Go.WideShapes Go.ChangeAt Go.RowKit

theorem CmdV.nil {w : World} {c : HD.Cmd} {b : Value} (h : CmdV w c b) (ht : c.takes = false) : b = .slice none 0 0 := by
  rcases h.2.2 with ⟨-, h⟩ | ⟨a, cap, -, -, h⟩
  · exact h
  · rw [ht] at h; cases h
section
variable {B d : Nat} {M : Emitter} {aI aN aL : Addr} {σ : HD.DS}
theorem cmdOk_allow {n : Nat} (hn : n ≤ 2 ^ 31) : CmdOk B d M aI aN aL σ (.allow n) := by
  intro w l p b hL hE hV hb hN hT
  obtain rfl := hb.nil rfl
  exact decAllow_any B w d M σ l p aI aN aL n hL hE hV hn
theorem cmdOk_on {b0 : Bool} : CmdOk B d M aI aN aL σ (.on b0) := by
  intro w l p b hL hE hV hb hN hT
  obtain rfl := hb.nil rfl
  exact decOn_any B w d M σ l p aI aN aL b0 hL hE hV
theorem cmdOk_isOn : CmdOk B d M aI aN aL σ .isOn := by
  intro w l p b hL hE hV hb hN hT
  obtain rfl := hb.nil rfl
  exact decIsOn_any B w d M σ l p aI aN aL hL hE hV
theorem cmdOk_close : CmdOk B d M aI aN aL σ .close := by
  intro w l p b hL hE hV hb hN hT
  obtain rfl := hb.nil rfl
  exact decClose_any B w d M σ l p aI aN aL hL hE hV (by omega)
theorem cmdOk_write {G : HD.St → HD.Bs → Prop} (hS : Steps B d M aI aN aL G) {v : HD.Bs} (hG : G σ.st (σ.save ++ v)) : CmdOk B d M aI aN aL σ (.write v) := by
  intro w l p b hL hE hV hb hN hT
  exact decWrite_any B w d M σ l p aI aN aL G hS v b hL hE hV hG hb hN (by rw [List.length_append]; simpa [HD.Cmd.len, HD.Cmd.bytes, Nat.add_assoc] using hT)
end

def stepCells : List HD.Cmd → List Value → List Value
  | c :: cs, b :: bs => cmdCells c b ++ stepCells cs bs
  | _, _ => []
theorem stepCells_at : ∀ (cs : List HD.Cmd) (bs : List Value) (i : Nat) (h : i < cs.length) (h' : i < bs.length) (j : Nat) (v : Value), (cmdCells cs[i] bs[i])[j]? = some v → (stepCells cs bs)[i * 4 + j]? = some v
  | [], _, _, h, _, _, _, _ => by simp at h
  | _ :: _, [], _, _, h, _, _, _ => by simp at h
  | c :: cs, b :: bs, 0, _, _, j, v, e => by
    have e : (cmdCells c b)[j]? = some v := e
    have hj := (List.getElem?_eq_some_iff.1 e).1
    rw [Nat.zero_mul, Nat.zero_add, stepCells, List.getElem?_append_left hj]
    exact e
  | c :: cs, b :: bs, i + 1, h, h', j, v, e => by
    rw [show (i + 1) * 4 + j = 4 + (i * 4 + j) by omega, stepCells, List.getElem?_append_right (by simp [cmdCells]), show 4 + (i * 4 + j) - (cmdCells c b).length = i * 4 + j by simp [cmdCells]]
    exact stepCells_at cs bs i (by simpa using h) (by simpa using h') j v e
theorem stepCells_len : ∀ (cs : List HD.Cmd) (bs : List Value), bs.length = cs.length → (stepCells cs bs).length = cs.length * 4
  | [], [], _ => rfl
  | [], _ :: _, h => by simp at h
  | _ :: _, [], h => by simp at h
  | c :: cs, b :: bs, h => by
    have := stepCells_len cs bs (by simpa using h)
    simp only [stepCells, List.length_append, this]
    simp [cmdCells]; omega
theorem stepCells_append : ∀ (cs cs' : List HD.Cmd) (bs bs' : List Value), bs.length = cs.length → stepCells (cs ++ cs') (bs ++ bs') = stepCells cs bs ++ stepCells cs' bs'
  | [], _, [], _, _ => rfl
  | [], _, _ :: _, _, h => by simp at h
  | _ :: _, _, [], _, h => by simp at h
  | c :: cs, cs', b :: bs, bs', h => by
    have := stepCells_append cs cs' bs bs' (by simpa using h)
    simp only [List.cons_append, stepCells, this, List.append_assoc]
theorem steps_of_cells {w : World} {g o : Nat} {cs : List HD.Cmd} {bs : List Value} (hl : bs.length = cs.length) (hc : ∀ j v, (stepCells cs bs)[j]? = some v → w.cell? ⟨g, o + j, none⟩ = some v) (hv : ∀ i (h : i < cs.length) (h' : i < bs.length), CmdV w cs[i] bs[i]) : StepsMem w g o cs bs :=
  ⟨hl, fun i h h' j v e => by rw [Nat.add_assoc]; exact hc _ _ (stepCells_at cs bs i h h' j v e), hv⟩
theorem steps_of_own {w : World} {B g n cap : Nat} {cs : List HD.Cmd} {bs : List Value} (hl : bs.length = cs.length) (h : w.ownsRow B 27 4 (.slice (some ⟨g, 0, none⟩) n cap) n (stepCells cs bs)) (hv : ∀ i (h : i < cs.length) (h' : i < bs.length), CmdV w cs[i] bs[i]) : StepsMem w g 0 cs bs :=
  steps_of_cells hl (fun j v e => by
    have := h.cells (g := g) rfl j v e
    rwa [Lib.addr_add] at this) hv
theorem CmdV.plain {w : World} {c : HD.Cmd} (hb : c.bytes = []) (hs : sizeOfC c < 2 ^ 32) : CmdV w c (.slice none 0 0) := ⟨by unfold HD.Cmd.len; rw [hb]; decide, hs, Or.inl ⟨hb, rfl⟩⟩
theorem CmdV.write_own {w : World} {B : Nat} {v : HD.Bs} {a : Option Addr} {cap : Nat} (hl : v.length < 2 ^ 40) (h : w.ownsRow B 5 1 (.slice a v.length cap) v.length (Lib.byteCells v)) : CmdV w (.write v) (.slice a v.length cap) := by
  refine ⟨hl, by simp [sizeOfC], ?_⟩
  rcases h.2 with ⟨e, h0⟩ | ⟨g1, cap1, cur, e, -⟩
  · exact Or.inl ⟨List.eq_nil_of_length_eq_zero h0, e⟩
  · injection e with e1 e2 e3
    subst e1; subst e3
    exact Or.inr ⟨⟨g1, 0, none⟩, cap, rfl, h.cells (g := g1) rfl, rfl⟩
theorem CmdV.of_below {w w' : World} {c : HD.Cmd} {b : Value} (h : CmdV w c b) (hb : Below w.heap.size w w') : CmdV w' c b :=
  ⟨h.1, h.2.1, h.2.2.imp id fun ⟨a, cap, e, hb', ht⟩ => ⟨a, cap, e, fun q u hu => (hb.cell (World.block_lt_of_cell? w _ (hb' q u hu))).trans (hb' q u hu), ht⟩⟩
end Go.Proofs.YtlkpeeoippbdoaaDoor
/-
  What the rows' lists give: the two tables of the Huffman code, as their contracts want them. No condition.
-/
namespace Go.Proofs.YtlkpeeoippbdoaaDoor
open Go.ChangeShapes Go.WideShapes Go.ChangeAt Go.RowKit

/-- A table's datum as values; a variable's cells laid. -/
def tabVals : DataW Unit → Array Value
  | .agg l => (l.map fun | .lit (.int k n) => Value.int k n | _ => .nilIface).toArray
  | _ => #[]
def laidTab (cs : Array Value) : Obj → Obj
  | .cells _ t frozen => .cells cs t frozen
  | o => o

theorem gLen : Tryd.prog.globalNamed "loop.example/pub-g03022/pub/hpack.huffmanCodeLen" = some 4 := by kernel_rfl
theorem gLenType : (Tryd.prog.globals[4]?).map (·.type) = some 127 := by kernel_rfl
theorem gCode : Tryd.prog.globalNamed "loop.example/pub-g03022/pub/hpack.huffmanCodes" = some 3 := by kernel_rfl
theorem gCodeType : (Tryd.prog.globals[3]?).map (·.type) = some 126 := by kernel_rfl
theorem cellsLen : Tryd.prog.cellsOf 127 = 256 := by kernel_rfl
theorem cellsCode : Tryd.prog.cellsOf 126 = 256 := by kernel_rfl
theorem cellsU8 : Tryd.prog.cellsOf 5 = 1 := by kernel_rfl
theorem cellsU32 : Tryd.prog.cellsOf 55 = 1 := by kernel_rfl
def lenInts : List Int := HP.lensL.map Int.ofNat
def codeInts : List Int := HP.codesL.map Int.ofNat
theorem laidLen : (Rows.laid_loop_example_pub_g03022_pub_hpack_huffmanCodeLen : DataW Unit) = Lib.tabData .u8 lenInts := by kernel_rfl
theorem laidCode : (Rows.laid_loop_example_pub_g03022_pub_hpack_huffmanCodes : DataW Unit) = Lib.tabData .u32 codeInts := by kernel_rfl
theorem lenInts_at : ∀ i, i < 256 → lenInts.getD i 0 = (HP.hlen i : Nat) := by decide +kernel
theorem codeInts_at : ∀ i, i < 256 → codeInts.getD i 0 = (HP.hcode i : Nat) := by decide +kernel
theorem lenInts_len : lenInts.length = 256 := by decide +kernel
theorem codeInts_len : codeInts.length = 256 := by decide +kernel

theorem lenTab_of_head {W : World} {r : List (String × DataW Unit)} (h : laidMet Tryd.prog (("loop.example/pub-g03022/pub/hpack.huffmanCodeLen", Lib.tabData .u8 lenInts) :: r) W) : LenTab W := fun i hi => by
  have h1 := Lib.tabIs_of_head gLen gLenType Tryd.underlying127 Tryd.underlying5 cellsU8 cellsLen h
  rw [h1.cell gLen i (by rw [lenInts_len]; exact hi), lenInts_at i hi]
theorem codeTab_of_head {W : World} {r : List (String × DataW Unit)} (h : laidMet Tryd.prog (("loop.example/pub-g03022/pub/hpack.huffmanCodes", Lib.tabData .u32 codeInts) :: r) W) : CodeTab W := fun i hi => by
  have h1 := Lib.tabIs_of_head gCode gCodeType Tryd.underlying126 Tryd.underlying55 cellsU32 cellsCode h
  rw [h1.cell gCode i (by rw [codeInts_len]; exact hi), codeInts_at i hi]
end Go.Proofs.YtlkpeeoippbdoaaDoor
/-
  What a row that lists the error of Huffman codes gives: the variable holds a pointer. No condition.
-/
namespace Go.Proofs.YtlkpeeoippbdoaaDoor
open Go.ChangeShapes Go.WideShapes Go.ChangeAt Go.RowKit

theorem gInv : Tryd.prog.globalNamed "loop.example/pub-g03022/pub/hpack.ErrInvalidHuffman" = some 0 := by kernel_rfl
theorem gInvType : (Tryd.prog.globals[0]?).map (·.type) = some 64 := by kernel_rfl
theorem star : "*errors.errorString" = "*" ++ "errors.errorString" := by kernel_rfl
theorem rowErr (u : TypeId) (h : Tryd.prog.typeName? 3 u = some "*errors.errorString") : u = 121 :=
  typeName_ptr_named (nm := "errors.errorString") (by rw [← star]; kernel_rfl) (by kernel_rfl) (by decide) u (by rw [← star]; exact h)
theorem cellsErr : Tryd.prog.cellsOf 123 = 1 := by kernel_rfl
theorem cellsStr : Tryd.prog.cellsOf 9 = 1 := by kernel_rfl
end Go.Proofs.YtlkpeeoippbdoaaDoor
/-
  What the decoder's rows list: the package's variables that decoding reads. No condition.
-/
namespace Go.Proofs.YtlkpeeoippbdoaaDoor
open Go.ChangeShapes Go.WideShapes Go.ChangeAt Go.RowKit

theorem gMore : Tryd.prog.globalNamed "loop.example/pub-g03022/pub/hpack.errNeedMore" = some 2 := by kernel_rfl
theorem gMoreType : (Tryd.prog.globals[2]?).map (·.type) = some 64 := by kernel_rfl
theorem gLong : Tryd.prog.globalNamed "loop.example/pub-g03022/pub/hpack.ErrStringLength" = some 1 := by kernel_rfl
theorem gLongType : (Tryd.prog.globals[1]?).map (·.type) = some 64 := by kernel_rfl

theorem Env.mono {B B' : Nat} {w : World} {aI aN aL : Addr} (h : Env B w aI aN aL) (hB : B ≤ B') : Env B' w aI aN aL :=
  ⟨h.len, h.code, h.eI, h.eN, h.eL, h.fI, h.fN, h.fL, h.ne, Nat.lt_of_lt_of_le h.bI hB, Nat.lt_of_lt_of_le h.bN hB, Nat.lt_of_lt_of_le h.bL hB, Nat.lt_of_lt_of_le h.g1 hB, Nat.lt_of_lt_of_le h.g2 hB, Nat.lt_of_lt_of_le h.g3 hB, Nat.lt_of_lt_of_le h.g4 hB, Nat.lt_of_lt_of_le h.g5 hB⟩
noncomputable def envList : List (String × DataW Unit) := [("bytes.ErrTooLarge", Rows.laid_bytes_ErrTooLarge), ("loop.example/pub-g03022/pub/hpack.ErrStringLength", Rows.laid_loop_example_pub_g03022_pub_hpack_ErrStringLength), ("loop.example/pub-g03022/pub/hpack.errNeedMore", Rows.laid_loop_example_pub_g03022_pub_hpack_errNeedMore), ("loop.example/pub-g03022/pub/hpack.ErrInvalidHuffman", Rows.laid_loop_example_pub_g03022_pub_hpack_ErrInvalidHuffman), ("loop.example/pub-g03022/pub/hpack.huffmanCodes", Lib.tabData .u32 codeInts), ("loop.example/pub-g03022/pub/hpack.huffmanCodeLen", Lib.tabData .u8 lenInts)]

theorem env_of {W : World} (h : laidMetH Tryd.prog envList W) : ∃ aI aN aL, Env W.heap.size W aI aN aL := by
  have h1 := laidMet.tail h
  have h2 := laidMet.tail h1
  obtain ⟨aL, aN, s0, s1, c0, c1, t0, t1, v0, v1, -, -, -, -, -, -, -, b0, b1⟩ := laid_sentinels2 h1 gLong gLongType gMore gMoreType Tryd.underlying64 rowErr Tryd.underlying121 Tryd.underlying123 rfl rfl Tryd.underlying9 cellsErr cellsStr
  obtain ⟨aN', aI, s2, s3, c2, c3, t2, t3, v2, v3, -, -, -, -, -, -, hne, b2, b3⟩ := laid_sentinels2 h2 gMore gMoreType gInv gInvType Tryd.underlying64 rowErr Tryd.underlying121 Tryd.underlying123 rfl rfl Tryd.underlying9 cellsErr cellsStr
  have e : aN' = aN := by
    rw [v1] at v2
    simpa using v2.symm
  subst e
  have hc := codeTab_of_head (laidMet.tail (laidMet.tail h2))
  have hl := lenTab_of_head (laidMet.tail (laidMet.tail (laidMet.tail h2)))
  have eI : W.cell? ⟨0, 0, none⟩ = some (.iface 121 (.pointer (some aI))) := by simpa using World.var?_cell gInv v3 0
  have eN : W.cell? ⟨2, 0, none⟩ = some (.iface 121 (.pointer (some aN'))) := by simpa using World.var?_cell gMore v1 0
  have eL : W.cell? ⟨1, 0, none⟩ = some (.iface 121 (.pointer (some aL))) := by simpa using World.var?_cell gLong v0 0
  exact ⟨aI, aN', aL, hl, hc, eI, eN, eL, ⟨Nat.zero_le _, _, _, b3⟩, ⟨Nat.zero_le _, _, _, b1⟩, ⟨Nat.zero_le _, _, _, b0⟩, fun h => hne h.symm,
    (Array.getElem?_eq_some_iff.1 b3).1, (Array.getElem?_eq_some_iff.1 b1).1, (Array.getElem?_eq_some_iff.1 b0).1, LenTab.lt hl, CodeTab.lt hc, World.block_lt_of_cell? W _ eI, World.block_lt_of_cell? W _ eN, World.block_lt_of_cell? W _ eL⟩
end Go.Proofs.YtlkpeeoippbdoaaDoor
/-
  PLAIN: how many fields are told. No program in sight.
-/
namespace Go.Proofs.YtlkpeeoippbdoaaDoor.HD

theorem W_len : ∀ (n : Nat) (s : St) (out : List Fld) (v : Bs), v.length ≤ n → (W s out v).out.length + (W s out v).save.length ≤ out.length + v.length
  | n, s, out, [], _ => by simp [W_nil]
  | 0, _, _, _ :: _, h => by simp at h
  | n + 1, s, out, b :: v, h => by
    rw [W_cons]
    cases hr : pRepr s (b :: v) with
    | more => simp
    | bad e => simp
    | ok ents max o rest =>
      have hl := pRepr_len hr
      have := W_len n { s with ents := ents, max := max, first := false } (out ++ o.toList) rest (by simp at *; omega)
      have ho : o.toList.length ≤ 1 := by cases o <;> simp
      rw [List.length_append] at this
      dsimp only
      omega
theorem write_len (s : St) (save p : Bs) : (write s save p).out.length + (write s save p).save.length ≤ save.length + p.length := by
  unfold write
  split
  · simp
  · have := W_len _ s [] (save ++ p) (Nat.le_refl _)
    unfold W at this
    simp only [List.length_nil, List.length_append] at this ⊢
    omega
theorem close_len (s : St) (save : Bs) : (close s save).save.length ≤ save.length := by
  unfold close
  split <;> simp
theorem dstep_len (σ : DS) (c : Cmd) : (dstep σ c).2.out.length + (dstep σ c).1.save.length ≤ σ.save.length + c.len := by
  cases c with
  | write v => exact write_len σ.st σ.save v
  | close => have := close_len σ.st σ.save; simp only [dstep, List.length_nil]; omega
  | full v =>
    have h1 := write_len σ.st σ.save v
    have h2 := close_len (write σ.st σ.save v).st (write σ.st σ.save v).save
    simp only [dstep]
    show _ ≤ σ.save.length + v.length
    split
    · simp; omega
    · split
      · simp; omega
      · simp; omega
  | on b => simp [dstep]
  | resize n => simp [dstep]
  | allow n => simp [dstep]
  | isOn => simp [dstep]
theorem drun_sum : ∀ (cs : List Cmd) (σ : DS), ((drun σ cs).map fun a => a.out.length).sum ≤ σ.save.length + (cs.map Cmd.len).sum
  | [], _ => by simp [drun]
  | c :: cs, σ => by
    have h1 := dstep_len σ c
    have h2 := drun_sum cs (dstep σ c).1
    simp only [drun, List.map_cons, List.sum_cons]
    omega
theorem drun_len : ∀ (cs : List Cmd) (σ : DS), (drun σ cs).length = cs.length
  | [], _ => rfl
  | _ :: cs, σ => by rw [drun, List.length_cons, List.length_cons, drun_len cs]
theorem intg_len (above bits n : Nat) (hn : n < 2 ^ 35) : (intg above bits n).length ≤ 7 := by
  unfold intg
  split
  · simp
  · have := digs_len (n - (2 ^ bits - 1)) 5 (by omega)
    simp; omega
end Go.Proofs.YtlkpeeoippbdoaaDoor.HD
/-
  callEmit: a field is told.
-/
namespace Go.Proofs.YtlkpeeoippbdoaaDoor
open Go.ChangeShapes Go.WideShapes Go.ChangeAt Go.RowKit

def fldV (f : HD.Fld) : Value := .agg #[.string ⟨f.name.toArray⟩, .string ⟨f.value.toArray⟩, .bool f.sens]
/-- What is asked of the function that fields are told to. -/
structure EmOk (B : Nat) (M : Emitter) : Prop where
  call : ∃ (F : FuncId) (cv : Value), M.val = .func (.func F) #[] #[cv] ∧ (∀ (args : Array Value) (w : World), (callFunc F args).run Tryd.prog w = .ok (.enter F args) w) ∧ ∀ (w : World) (l : List HD.Fld) (E : Nat → Prop) (f : HD.Fld), B ≤ w.heap.size → M.holds w l E → l.length ≤ 2 ^ 40 →
    Calls Tryd.prog F #[fldV f, cv] w fun e w' => e = .returned (.tuple #[]) ∧ ∃ E', M.holds w' (l ++ [f]) E' ∧ (∀ k, E' k → E k ∨ w.heap.size ≤ k) ∧ Upd E w w'

theorem Live.told {B : Nat} {w w' : World} {d : Nat} {M : Emitter} {s : HD.St} {l l' : List HD.Fld} {p : DP} (h : Live B w d M s l p) {E' : Nat → Prop} (hh : M.holds w' l' E') (hE : ∀ k, E' k → p.E k ∨ w.heap.size ≤ k) (hu : Upd p.E w w') : Live B w' d M s l' { p with E := E' } := by
  have hk : ∀ k, tabOwn d p.ev p.m1 p.m2 k → w'.heap[k]? = w.heap[k]? := fun k hk => hu.block k (h.mem.tab.own_lt hk) (h.apart k hk)
  exact ⟨⟨h.mem.tab.frame hk, h.mem.sized, h.mem.allowed, h.mem.on, h.mem.most, h.mem.first⟩, hh, fun k hk => (hE k hk).elim (h.emB k) (fun h' => Nat.le_trans h.lo h'), h.emv, fun k hk he => (hE k he).elim (h.apart k hk) (fun h' => by have := h.mem.tab.own_lt hk; omega), h.ok⟩

set_option maxHeartbeats 1000000 in
set_option maxRecDepth 100000 in
theorem callEmit_any (B : Nat) (w : World) (d : Nat) (M : Emitter) (hM : EmOk B M) (s : HD.St) (l : List HD.Fld) (p : DP) (f : HD.Fld) (hL : Live B w d M s l p) (hl : l.length ≤ 2 ^ 40) :
    Calls Tryd.prog 63 #[.pointer (some ⟨d, 0, none⟩), fldV f] w fun e w' => e = .returned .nilIface ∧ ∃ E', Live B w' d M s (l ++ (HD.tell s f).toList) { p with E := E' } ∧ (∀ k, E' k → p.E k ∨ w.heap.size ≤ k) ∧ Upd p.E w w' := by
  obtain ⟨F, cv, hv, hrun, hcall⟩ := hM.call
  have c8 := hL.row.cell' (i := 8) (by decide) (hL.emv.trans hv)
  have c9 := hL.row.cell' (i := 9) (by decide) hL.mem.on
  have c10 := hL.row.cell' (i := 10) (by decide) hL.mem.most
  have hdl := hL.lt
  obtain ⟨on, hon⟩ : ∃ b, b = s.on := ⟨_, rfl⟩
  rw [← hon] at c9
  have HL := Lib.hid hL
  have Hcall := Lib.hid hcall
  have Hon := Lib.hid hon
  have Hl := Lib.hid hl
  clear hL hcall hon hv hM hl
  have hb1 : Below w.heap.size w (w.alloc (.cells #[.string ⟨f.name.toArray⟩, .string ⟨f.value.toArray⟩, .bool f.sens] 56)) := (Below.refl _ _).alloc (Nat.le_refl _) _
  have hl1 := HL.out.below hb1
  have q0 : (w.alloc (.cells #[.string ⟨f.name.toArray⟩, .string ⟨f.value.toArray⟩, .bool f.sens] 56)).cell? ⟨w.heap.size, 0, none⟩ = some (.string ⟨f.name.toArray⟩) := (Lib.cell_of_heap (heap_alloc_new w _) 0).trans rfl
  have q1 : (w.alloc (.cells #[.string ⟨f.name.toArray⟩, .string ⟨f.value.toArray⟩, .bool f.sens] 56)).cell? ⟨w.heap.size, 1, none⟩ = some (.string ⟨f.value.toArray⟩) := (Lib.cell_of_heap (heap_alloc_new w _) 1).trans rfl
  have q2 : (w.alloc (.cells #[.string ⟨f.name.toArray⟩, .string ⟨f.value.toArray⟩, .bool f.sens] 56)).cell? ⟨w.heap.size, 2, none⟩ = some (.bool f.sens) := (Lib.cell_of_heap (heap_alloc_new w _) 2).trans rfl
  have e8 := (hb1.cell (p := ⟨d, 8, none⟩) hdl).trans c8
  have HQ := Lib.hid (And.intro e8 (And.intro q0 (And.intro q1 q2)))
  have Hb1 := Lib.hid hb1
  have Hl1 := Lib.hid hl1
  clear hb1 hl1 q0 q1 q2 e8
  unfold fldV
  cases on with
  | false =>
    go_enter Tryd.func63, Tryd.ntmps63
    go_wp2_with fail
    go_ret
    have ht : HD.tell s f = none := by unfold HD.tell; rw [← Hon.out]; rfl
    rw [ht]
    refine ⟨rfl, p.E, ?_, fun k h => Or.inl h, Upd.of_below Hb1.out⟩
    show Live B _ d M s (l ++ []) p
    rw [List.append_nil]
    exact Hl1.out
  | true =>
    have ht : HD.tell s f = some f := by unfold HD.tell; rw [← Hon.out]; rfl
    rw [ht]
    go_enter Tryd.func63, Tryd.ntmps63
    go_wp2_with fail
    refine wp_region_held_drew (S := (fun w' => w'.cell? ⟨d, 8, none⟩ = some (.func (.func F) #[] #[cv]) ∧ w'.cell? ⟨w.heap.size, 0, none⟩ = some (.string ⟨f.name.toArray⟩) ∧ w'.cell? ⟨w.heap.size, 1, none⟩ = some (.string ⟨f.value.toArray⟩) ∧ w'.cell? ⟨w.heap.size, 2, none⟩ = some (.bool f.sens))) (by kernel_rfl) ((by exact HQ.out)) (fun hHeld => ?_)
    refine takeH 0 (v := ?_) rfl rfl (by kernel_rfl) (by kernel_rfl) (by kernel_rfl) (fun _ _ _ h => h) (Or.inl ⟨by rfl, ?_⟩) (by assumption) ?_
    rotate_left
    · (intro w hSw; (try dsimp only at hSw); go_simp <;> with_reducible rfl)
    simp only [List.setIfInBounds_toArray, List.set_cons_zero, List.set_cons_succ]
    refine takeH 1 (v := ?_) rfl rfl (by kernel_rfl) (by kernel_rfl) (by kernel_rfl) (fun _ _ _ h => h) (Or.inl ⟨by rfl, ?_⟩) (by assumption) ?_
    rotate_left
    · (intro w hSw; (try dsimp only at hSw); go_simp <;> with_reducible rfl)
    simp only [List.setIfInBounds_toArray, List.set_cons_zero, List.set_cons_succ]
    refine takeH 2 (v := ?_) rfl rfl (by kernel_rfl) (by kernel_rfl) (by kernel_rfl) (fun _ _ _ h => h) (Or.inl ⟨by rfl, ?_⟩) (by assumption) ?_
    rotate_left
    · (intro w hSw; (try dsimp only at hSw); go_simp <;> with_reducible rfl)
    simp only [List.setIfInBounds_toArray, List.set_cons_zero, List.set_cons_succ]
    refine takeH 3 (v := ?_) rfl rfl (by kernel_rfl) (by kernel_rfl) (by kernel_rfl) (fun _ _ _ h => h) (Or.inl ⟨by rfl, ?_⟩) (by assumption) ?_
    rotate_left
    · (intro w hSw; (try dsimp only at hSw); go_simp <;> with_reducible rfl)
    simp only [List.setIfInBounds_toArray, List.set_cons_zero, List.set_cons_succ]
    refine takeH 4 (v := ?_) rfl rfl (by kernel_rfl) (by kernel_rfl) (by kernel_rfl) (fun _ _ _ h => h) (Or.inl ⟨by rfl, ?_⟩) (by assumption) ?_
    rotate_left
    · (intro w hSw; (try dsimp only at hSw); go_simp <;> with_reducible rfl)
    simp only [List.setIfInBounds_toArray, List.set_cons_zero, List.set_cons_succ]
    refine wpAnyH_ready (rs := [5]) (by kernel_rfl) (by simp) ?_
    refine AllReadyH.cons rfl (fun K hK => ?_) AllReadyH.nil
    go_simp
    refine (Hcall.out _ l p.E f (by have := HL.out.lo; show B ≤ (w.heap.push _).size; simp; omega) (M.frame (w' := World.drew _) Hl1.out.em fun _ _ => rfl) Hl.out).mono ?_
    rintro e w2 ⟨rfl, E', hh, hE, hu⟩
    go_simp
    refine hK.out _ _ ?_ (fun hHeld => ?_)
    · have hd : ¬ p.E d := HL.out.dE
      have hw : ¬ p.E w.heap.size := fun h => Nat.lt_irrefl _ (M.lt HL.out.em h)
      have hs : d < (w.alloc (.cells #[.string ⟨f.name.toArray⟩, .string ⟨f.value.toArray⟩, .bool f.sens] 56)).heap.size := by simp; omega
      have hs2 : w.heap.size < (w.alloc (.cells #[.string ⟨f.name.toArray⟩, .string ⟨f.value.toArray⟩, .bool f.sens] 56)).heap.size := by simp
      have k1 := hu.block d hs hd
      have k2 := hu.block w.heap.size hs2 hw
      exact ⟨(World.cell?_of_block (a := ⟨d, 8, none⟩) k1).trans HQ.out.1, (World.cell?_of_block (a := ⟨w.heap.size, 0, none⟩) k2).trans HQ.out.2.1, (World.cell?_of_block (a := ⟨w.heap.size, 1, none⟩) k2).trans HQ.out.2.2.1, (World.cell?_of_block (a := ⟨w.heap.size, 2, none⟩) k2).trans HQ.out.2.2.2⟩
    clear hK K
    have hE' : ∀ k, E' k → p.E k ∨ w.heap.size ≤ k := fun k h => (hE k h).imp id fun h' => Nat.le_trans Hb1.out.size h'
    have hu' : Upd p.E w w2 := ((Upd.of_below Hb1.out).drew).step hu
    have Hh := Lib.hid hh
    have HE' := Lib.hid hE'
    have Hu' := Lib.hid hu'
    clear hh hE hu hE' hu' hHeld
    refine wpAnyH_done (by kernel_rfl) ?_ _
    go_wp2_with fail
    go_ret
    exact ⟨rfl, E', HL.out.told Hh.out HE'.out Hu'.out, HE'.out, Hu'.out⟩
end Go.Proofs.YtlkpeeoippbdoaaDoor
/-
  staticTable's one great region draws its order: an invariant that every operation keeps, whichever comes up. Plain part: the operations, what each waits for.
-/
namespace Go.Proofs.YtlkpeeoippbdoaaDoor
open Go.ChangeShapes Go.WideShapes Go.ChangeAt Go.RowKit

section any
variable {P : Program} {ops : Array Oper} {Q : Exit → Act → World → Prop} {md : Region.Mode}
def lis (L : Array Bool) (i : Nat) : Prop := L.getD i false = true
def left (L : Array Bool) (n : Nat) : Nat := ((List.range n).filter fun i => !L.getD i true).length
theorem getD_set (L : Array Bool) (i j : Nat) (d : Bool) : (L.setIfInBounds i true).getD j d = if j = i ∧ i < L.size then true else L.getD j d := by
  simp only [Array.getD_eq_getD_getElem?]
  by_cases h : j = i
  · subst h
    by_cases hl : j < L.size
    · simp [hl]
    · simp [hl]
  · rw [Array.getElem?_setIfInBounds_ne (Ne.symm h)]; simp [h]
theorem left_set {L : Array Bool} {n i : Nat} (hi : i < n) (h : L.getD i true = false) : left (L.setIfInBounds i true) n < left L n := by
  have hl : i < L.size := by
    rcases Nat.lt_or_ge i L.size with h' | h'
    · exact h'
    · simp [Array.getElem?_eq_none h'] at h
  unfold left
  have e : (List.range n).filter (fun j => !(L.setIfInBounds i true).getD j true) = ((List.range n).filter fun j => !L.getD j true).filter fun j => !decide (j = i) := by
    rw [List.filter_filter]
    congr 1
    funext j
    rw [getD_set]
    by_cases hj : j = i <;> simp [hj, hl]
  rw [e, List.length_filter_lt_length_iff_exists]
  exact ⟨i, by simp [hi]; simpa using h, by simp⟩
theorem wpAny_inv (I : Array Bool → Act → World → Prop) (hstep : ∀ L a w i, I L a w → i ∈ Region.ready md ops L → wpOp P ops Q i (fun a' w' => I (L.setIfInBounds i true) a' w') a w)
    (hdone : ∀ L a w, I L a w → Region.ready md ops L = [] → Q .normal a w) : ∀ (fuel : Nat) (L : Array Bool) (a : Act) (w : World), I L a w → left L ops.size ≤ fuel → wpAny P md ops Q fuel L a w
  | 0, L, a, w, hI, hf => by
    have hr : Region.ready md ops L = [] := by
      cases hr : Region.ready md ops L with
      | nil => rfl
      | cons i l =>
        obtain ⟨h1, o, ho, -⟩ := mem_ready.1 (show i ∈ Region.ready md ops L by rw [hr]; simp)
        have hi : i < ops.size := (Array.getElem?_eq_some_iff.1 ho).1
        have := left_set hi h1
        omega
    exact ⟨hr, hdone L a w hI hr⟩
  | n + 1, L, a, w, hI, hf => ⟨hdone L a w hI, fun i hi => wpOp_mono (fun a' w' h' => wpAny_inv I hstep hdone n _ a' w' h' (by
      obtain ⟨h1, o, ho, -⟩ := mem_ready.1 hi
      have := left_set (Array.getElem?_eq_some_iff.1 ho).1 h1
      omega)) (hstep L a w i hI hi)⟩
theorem all_listed {L : Array Bool} (hL : L.size = ops.size) (hac : ∀ (i : Nat) o, ops[i]? = some o → ∀ e ∈ o.after, e.on < i) (hr : Region.ready md ops L = []) : ∀ i, i < ops.size → lis L i := by
  intro i
  induction i using Nat.strongRecOn with
  | ind i ih =>
    intro hi
    rcases Bool.eq_false_or_eq_true (L.getD i true) with h | h
    · unfold lis
      simp only [Array.getD_eq_getD_getElem?, Array.getElem?_eq_getElem (show i < L.size by omega), Option.getD_some] at h ⊢
      exact h
    · exfalso
      have : i ∈ Region.ready md ops L := mem_ready.2 ⟨h, ops[i], Array.getElem?_eq_getElem hi, fun e he _ => ih e.on (hac i _ (Array.getElem?_eq_getElem hi) e he) (Nat.lt_trans (hac i _ (Array.getElem?_eq_getElem hi) e he) hi)⟩
      rw [hr] at this; cases this
theorem wpOp_plain {i : Nat} {o : Oper} {K : Act → World → Prop} {a : Act} {w : World} (ho : ops[i]? = some o) (hg : o.guard = none) (h : o.wp P a w K Q) : wpOp P ops Q i K a w := by
  unfold wpOp
  rw [ho]
  have : Region.wanted o (yielded ops a.tmps) = true := by simp [Region.wanted, hg]
  simp only [this, if_true]
  exact Or.inl h
end any

/-- The operations of staticTable. -/
inductive SK where
  | mk1 | mk2 | mv2 | mv65 | sl | st | bx | fin
  | in1 (k : HD.Bs) (v : Nat)
  | bp (e : HD.Bs × HD.Bs) (t : Nat)
  | in2 (e : HD.Bs × HD.Bs) (v t : Nat)
  | bf (e : HD.Bs × HD.Bs) (t : Nat)
namespace SK
def dst : SK → Option Nat
  | mk1 => some 1
  | mk2 => some 3
  | mv2 => some 2
  | mv65 => some 65
  | sl => some 127
  | st => some 128
  | bx => some 129
  | fin => some 0
  | in1 _ _ => none
  | bp _ t => some t
  | in2 _ _ _ => none
  | bf _ t => some t
def op : SK → Op
  | mk1 => .makeMap 71 none
  | mk2 => .makeMap 72 none
  | mv2 => .move (.tmp 1)
  | mv65 => .move (.tmp 3)
  | sl => .buildSlice 69 61 ((List.range 61).map fun i => (i, .tmp (66 + i))).toArray
  | st => .build 74 #[(0, .const (.bool true)), (2, .const (.int .u64 0)), (3, .tmp 2), (4, .tmp 65), (1, .tmp 127)]
  | bx => .box 74 (.tmp 128)
  | fin => .assign (.tmp 129)
  | in1 k v => .insert 71 (.tmp 1) (.const (encS k)) (.const (.int .u64 (v : Nat)))
  | bp e _ => .build 129 #[(0, .const (.string ⟨e.1.toArray⟩)), (1, .const (.string ⟨e.2.toArray⟩))]
  | in2 _ v t => .insert 72 (.tmp 3) (.tmp t) (.const (.int .u64 (v : Nat)))
  | bf e _ => .build 56 #[(0, .const (.string ⟨e.1.toArray⟩)), (1, .const (.string ⟨e.2.toArray⟩)), (2, .const (.bool false))]
/-- What an operation waits for. -/
def needs (i : Nat) : SK → List Nat
  | in1 _ _ => [0]
  | mv2 => [0]
  | in2 _ _ _ => [54, i - 1]
  | mv65 => [54]
  | sl => (List.range 61).map (178 + ·)
  | st => [53, 177, 239]
  | bx => [240]
  | fin => [241]
  | _ => []
end SK
def sCls : List SK := .mk1 :: (HD.statS.map fun p => .in1 p.1 p.2) ++ [.mv2, .mk2] ++ (HD.static.zipIdx.flatMap fun p => [.bp p.1 (4 + p.2), .in2 p.1 (p.2 + 1) (4 + p.2)]) ++ [.mv65] ++ (HD.static.zipIdx.map fun p => .bf p.1 (66 + p.2)) ++ [.sl, .st, .bx, .fin]
noncomputable def sOps : Array Oper := match Tryd.f71.body with
  | some (.seq _ (.seq (.region _ ops _) _)) => ops
  | _ => #[]
theorem sLen : sOps.size = 243 := by kernel_rfl
theorem cLen : sCls.length = 243 := by kernel_rfl
theorem opsFact : sOps.toList.map (fun o => (o.dst, o.op, o.guard)) = sCls.map (fun k => (k.dst, k.op, none)) := by kernel_rfl
theorem depsFact : ((List.range 243).all fun i => match sCls[i]?, sOps[i]? with
    | some k, some o => (k.needs i).all fun t => o.after.any fun e => e.on == t && Region.binds .any e
    | _, _ => false) = true := by kernel_rfl
theorem acycFact : ((List.range 243).all fun i => match sOps[i]? with
    | some o => o.after.all fun e => decide (e.on < i)
    | _ => true) = true := by kernel_rfl
theorem dstFact : ((sCls.filterMap SK.dst).all fun d => decide (d < 130)) = true := by kernel_rfl
theorem dstNodup : (sCls.zipIdx.all fun p => match p.1.dst with
    | none => true
    | some d => sCls.findIdx? (fun q => q.dst == some d) == some p.2) = true := by kernel_rfl
theorem in2Fact : (sCls.zipIdx.all fun p => match p.1 with
    | .in2 e _ t => (match sCls[p.2 - 1]? with
      | some (.bp e' t') => decide (e = e' ∧ t = t')
      | _ => false)
    | _ => true) = true := by kernel_rfl
end Go.Proofs.YtlkpeeoippbdoaaDoor
/-
  The contract of staticTable: what stands in memory behind it, whichever order its region draws.
-/
namespace Go.Proofs.YtlkpeeoippbdoaaDoor
open Go.ChangeShapes Go.WideShapes Go.ChangeAt Go.RowKit

/-- Where the table's parts lie: its two maps, its entries, its struct. -/
structure Bl where
  b1 : Nat
  b2 : Nat
  g : Nat
  x : Nat
def tabCells (B : Bl) : Array Value := #[.bool true, .slice (some ⟨B.g, 0, none⟩) 61 61, .int .u64 0, .map (some B.b1), .map (some B.b2)]
def sval (B : Bl) : SK → Value
  | .mk1 => .map (some B.b1)
  | .mv2 => .map (some B.b1)
  | .mk2 => .map (some B.b2)
  | .mv65 => .map (some B.b2)
  | .sl => .slice (some ⟨B.g, 0, none⟩) 61 61
  | .st => .agg (tabCells B)
  | .bx => .pointer (some ⟨B.x, 0, none⟩)
  | .fin => .pointer (some ⟨B.x, 0, none⟩)
  | .bp e _ => encP e
  | .bf e _ => .agg (eCells e).toArray
  | .in1 _ _ => undef
  | .in2 _ _ _ => undef
def C1 (L : Array Bool) (l : List (HD.Bs × Nat)) : Prop := (∀ p ∈ l, p ∈ HD.statS) ∧ ∀ (j : Nat) k v, sCls[j]? = some (.in1 k v) → lis L j → (k, v) ∈ l
def C2 (L : Array Bool) (l : List ((HD.Bs × HD.Bs) × Nat)) : Prop := (∀ p ∈ l, p ∈ HD.statP) ∧ ∀ (j : Nat) e v t, sCls[j]? = some (.in2 e v t) → lis L j → (e, v) ∈ l
def gObj : Obj := .cells (entCells HD.static).toArray 56 (0, 0)
def xObj (B : Bl) : Obj := .cells (tabCells B) 74 (0, 0)

structure SI (n0 : Nat) (w0 : World) (B : Bl) (L : Array Bool) (a : Act) (w : World) : Prop where
  defers : a.defers = []
  size : a.tmps.size = 130
  lsize : L.size = 243
  below : Below n0 w0 w
  lo : n0 ≤ w.heap.size
  closed : ∀ (j : Nat) k, sCls[j]? = some k → lis L j → ∀ t ∈ k.needs j, lis L t
  slots : ∀ (j : Nat) k d, sCls[j]? = some k → lis L j → k.dst = some d → a.tmps[d]? = some (sval B k)
  h1 : lis L 0 → n0 ≤ B.b1 ∧ ∃ l, MapMem encS w B.b1 l ∧ C1 L l
  h2 : lis L 54 → n0 ≤ B.b2 ∧ ∃ l, MapMem encP w B.b2 l ∧ C2 L l
  h3 : lis L 239 → n0 ≤ B.g ∧ w.heap[B.g]? = some gObj
  h4 : lis L 241 → n0 ≤ B.x ∧ w.heap[B.x]? = some (xObj B)
  h12 : lis L 0 → lis L 54 → B.b1 ≠ B.b2

theorem lis_set {L : Array Bool} {i : Nat} (hi : i < L.size) (j : Nat) : lis (L.setIfInBounds i true) j ↔ j = i ∨ lis L j := by
  unfold lis
  rw [getD_set]
  by_cases h : j = i <;> simp [h, hi]
theorem dst_idx {i : Nat} {k : SK} {d : Nat} (h : sCls[i]? = some k) (hd : k.dst = some d) : sCls.findIdx? (fun q => q.dst == some d) = some i := by
  have := List.all_eq_true.1 dstNodup (k, i) (by rw [List.mem_zipIdx_iff_getElem?]; exact h)
  simpa [hd] using this
theorem idx_unique {i j : Nat} {k q : SK} {d : Nat} (h : sCls[i]? = some k) (h' : sCls[j]? = some q) (hd : k.dst = some d) (hd' : q.dst = some d) : i = j := by
  have e := (dst_idx h hd).symm.trans (dst_idx h' hd')
  simpa using e
theorem dst_lt {i : Nat} {k : SK} {d : Nat} (h : sCls[i]? = some k) (hd : k.dst = some d) : d < 130 := by
  have := List.all_eq_true.1 dstFact d (List.mem_filterMap.2 ⟨k, List.mem_of_getElem? h, hd⟩)
  simpa using this
theorem c0 : sCls[0]? = some .mk1 := by kernel_rfl
theorem c53 : sCls[53]? = some .mv2 := by kernel_rfl
theorem c54 : sCls[54]? = some .mk2 := by kernel_rfl
theorem c177 : sCls[177]? = some .mv65 := by kernel_rfl
theorem c239 : sCls[239]? = some .sl := by kernel_rfl
theorem c240 : sCls[240]? = some .st := by kernel_rfl
theorem c241 : sCls[241]? = some .bx := by kernel_rfl
theorem c242 : sCls[242]? = some .fin := by kernel_rfl

theorem SI.next {n0 : Nat} {w0 : World} {B : Bl} {L : Array Bool} {a : Act} {w : World} (h : SI n0 w0 B L a w) {i : Nat} {k : SK} (hi : sCls[i]? = some k) (hn : ∀ t ∈ k.needs i, lis L t)
    (B' : Bl) (v : Value) (w' : World) (hv : ∀ d, k.dst = some d → v = sval B' k) (hB : ∀ (j : Nat) q, sCls[j]? = some q → lis L j → sval B' q = sval B q) (hb : Below n0 w0 w') (hlo : n0 ≤ w'.heap.size)
    (h1 : 0 = i ∨ lis L 0 → n0 ≤ B'.b1 ∧ ∃ l, MapMem encS w' B'.b1 l ∧ C1 (L.setIfInBounds i true) l) (h2 : 54 = i ∨ lis L 54 → n0 ≤ B'.b2 ∧ ∃ l, MapMem encP w' B'.b2 l ∧ C2 (L.setIfInBounds i true) l)
    (h3 : 239 = i ∨ lis L 239 → n0 ≤ B'.g ∧ w'.heap[B'.g]? = some gObj) (h4 : 241 = i ∨ lis L 241 → n0 ≤ B'.x ∧ w'.heap[B'.x]? = some (xObj B')) (h12 : 0 = i ∨ lis L 0 → 54 = i ∨ lis L 54 → B'.b1 ≠ B'.b2) :
    SI n0 w0 B' (L.setIfInBounds i true) (a.put k.dst v) w' := by
  have hil : i < L.size := by
    rw [h.lsize, ← cLen]; exact (List.getElem?_eq_some_iff.1 hi).1
  have hl := lis_set hil
  refine ⟨?_, ?_, by simp [h.lsize], hb, hlo, ?_, ?_, fun q => h1 ((hl 0).1 q), fun q => h2 ((hl 54).1 q), fun q => h3 ((hl 239).1 q), fun q => h4 ((hl 241).1 q), fun q r => h12 ((hl 0).1 q) ((hl 54).1 r)⟩
  · cases hd : k.dst <;> exact h.defers
  · cases hd : k.dst <;> simp [Act.put, h.size]
  · intro j q hq hj t ht
    rcases (hl j).1 hj with rfl | hj
    · rw [hi] at hq
      obtain rfl := Option.some.inj hq
      exact (hl t).2 (Or.inr (hn t ht))
    · exact (hl t).2 (Or.inr (h.closed j q hq hj t ht))
  · intro j q d hq hj hd
    by_cases hji : j = i
    · subst hji
      rw [hi] at hq
      obtain rfl := Option.some.inj hq
      rw [hd]
      simp only [Act.put]
      rw [Array.getElem?_setIfInBounds_self_of_lt (by rw [h.size]; exact dst_lt hi hd), hv d hd]
    · have hj' : lis L j := ((hl j).1 hj).resolve_left hji
      rw [hB j q hq hj', ← h.slots j q d hq hj' hd]
      cases hd2 : k.dst with
      | none => rfl
      | some d2 =>
        simp only [Act.put]
        rw [Array.getElem?_setIfInBounds_ne (fun e => hji (idx_unique hq hi hd (by rw [hd2, e])))]
theorem SI.ev {n0 : Nat} {w0 : World} {B : Bl} {L : Array Bool} {a : Act} {w : World} (h : SI n0 w0 B L a w) {j : Nat} {k : SK} {d : Nat} (hj : sCls[j]? = some k) (hl : lis L j) (hd : k.dst = some d) : a.eval (.tmp d) = sval B k := by
  simp [Act.eval, Array.getD_eq_getD_getElem?, h.slots j k d hj hl hd]
/-- An operation that makes no block and writes none. -/
theorem SI.quiet {n0 : Nat} {w0 : World} {B : Bl} {L : Array Bool} {a : Act} {w : World} (h : SI n0 w0 B L a w) {i : Nat} {k : SK} (hi : sCls[i]? = some k) (hn : ∀ t ∈ k.needs i, lis L t) (v : Value) (hv : ∀ d, k.dst = some d → v = sval B k)
    (k1 : k ≠ .mk1) (k2 : k ≠ .mk2) (k3 : k ≠ .sl) (k4 : k ≠ .bx) (k5 : ∀ e v, k ≠ .in1 e v) (k6 : ∀ e v t, k ≠ .in2 e v t) : SI n0 w0 B (L.setIfInBounds i true) (a.put k.dst v) w := by
  have hil : i < L.size := by
    rw [h.lsize, ← cLen]; exact (List.getElem?_eq_some_iff.1 hi).1
  have ne : ∀ (j : Nat) q, sCls[j]? = some q → k ≠ q → j ≠ i := fun j q hq hk e => hk (by rw [e, hi] at hq; exact Option.some.inj hq)
  refine h.next hi hn B v w hv (fun _ _ _ _ => rfl) h.below h.lo ?_ ?_ ?_ ?_ ?_
  · intro q
    obtain ⟨a1, l, a2, a3, a4⟩ := h.h1 (q.resolve_left (ne 0 _ c0 k1))
    exact ⟨a1, l, a2, a3, fun j e v hj hl => a4 j e v hj (((lis_set hil j).1 hl).resolve_left (ne j _ hj (k5 e v)))⟩
  · intro q
    obtain ⟨a1, l, a2, a3, a4⟩ := h.h2 (q.resolve_left (ne 54 _ c54 k2))
    exact ⟨a1, l, a2, a3, fun j e v t hj hl => a4 j e v t hj (((lis_set hil j).1 hl).resolve_left (ne j _ hj (k6 e v t)))⟩
  · exact fun q => h.h3 (q.resolve_left (ne 239 _ c239 k3))
  · exact fun q => h.h4 (q.resolve_left (ne 241 _ c241 k4))
  · exact fun q r => h.h12 (q.resolve_left (ne 0 _ c0 k1)) (r.resolve_left (ne 54 _ c54 k2))

theorem built_pair (a b : ByteArray) : Tryd.prog.built 129 [(0, .string a), (1, .string b)] = some #[.string a, .string b] := by kernel_rfl
theorem built_field (a b : ByteArray) : Tryd.prog.built 56 [(0, .string a), (1, .string b), (2, .bool false)] = some #[.string a, .string b, .bool false] := by kernel_rfl
theorem built_tab (b1 b2 g : Nat) : Tryd.prog.built 74 [(0, .bool true), (2, .int .u64 0), (3, .map (some b1)), (4, .map (some b2)), (1, .slice (some ⟨g, 0, none⟩) 61 61)] = some #[.bool true, .slice (some ⟨g, 0, none⟩) 61 61, .int .u64 0, .map (some b1), .map (some b2)] := by kernel_rfl
def fv (i : Nat) : Value := match HD.static[i]? with
  | some e => .agg (eCells e).toArray
  | none => undef
theorem bfFact : ((List.range 61).all fun i => match sCls[178 + i]?, HD.static[i]? with
    | some (.bf e t), some e' => decide (e = e' ∧ t = 66 + i)
    | _, _ => false) = true := by kernel_rfl
theorem infoF : (Tryd.prog.info? 56).map (fun i => (i.zero, i.size)) = some (some (.agg #[.string ByteArray.empty, .string ByteArray.empty, .bool false]), 3) := by kernel_rfl
theorem fillFact : Instr.fill (fun i => some (i * 3, 3)) ((Array.range (61 * 3)).map ((Value.agg #[.string ByteArray.empty, .string ByteArray.empty, .bool false]).cells[· % (Value.agg #[.string ByteArray.empty, .string ByteArray.empty, .bool false]).cells.size]!)) ((List.range 61).map fun i => (i, fv i)) = some (entCells HD.static).toArray := by kernel_rfl
theorem in1Fact : (sCls.all fun k => match k with
    | .in1 k v => HD.statS.contains (k, v)
    | _ => true) = true := by kernel_rfl
theorem in2Fact2 : (sCls.all fun k => match k with
    | .in2 e v _ => HD.statP.contains (e, v)
    | _ => true) = true := by kernel_rfl
theorem uniqS : (HD.statS.all fun p => HD.statS.all fun q => decide (p.1 = q.1 → p.2 = q.2)) = true := by kernel_rfl
theorem uniqP : (HD.statP.all fun p => HD.statP.all fun q => decide (p.1 = q.1 → p.2 = q.2)) = true := by kernel_rfl

theorem mem_mput {K : Type} [DecidableEq K] {l : List (K × Nat)} {k : K} {v : Nat} : (k, v) ∈ mput l k v := by
  unfold mput
  split
  · rename_i h
    obtain ⟨p, hp, rfl⟩ := List.mem_map.1 h
    exact List.mem_map.2 ⟨p, hp, by simp⟩
  · simp
theorem mem_mput_old {K : Type} [DecidableEq K] {l : List (K × Nat)} {k : K} {v : Nat} {p : K × Nat} (hp : p ∈ l) (hu : p.1 = k → p.2 = v) : p ∈ mput l k v := by
  unfold mput
  split
  · refine List.mem_map.2 ⟨p, hp, ?_⟩
    split
    · rename_i h; rw [← hu h]
    · rfl
  · simp [hp]
theorem of_mem_mput {K : Type} [DecidableEq K] {l : List (K × Nat)} {k : K} {v : Nat} {p : K × Nat} (hp : p ∈ mput l k v) : p = (k, v) ∨ p ∈ l := by
  unfold mput at hp
  split at hp
  · obtain ⟨q, hq, rfl⟩ := List.mem_map.1 hp
    split
    · rename_i h; exact Or.inl (by rw [← h])
    · exact Or.inr hq
  · simpa [or_comm] using hp
end Go.Proofs.YtlkpeeoippbdoaaDoor
/-
  The contract of staticTable: each operation keeps the invariant; what stands in memory behind it.
-/
namespace Go.Proofs.YtlkpeeoippbdoaaDoor
open Go.ChangeShapes Go.WideShapes Go.ChangeAt Go.RowKit

theorem below_alloc {n0 : Nat} {w0 w : World} (h : Below n0 w0 w) (hl : n0 ≤ w.heap.size) (o : Obj) : Below n0 w0 (w.alloc o) := h.alloc hl o
theorem below_grown {n0 : Nat} {w0 w w' : World} (h : Below n0 w0 w) (hl : n0 ≤ w.heap.size) {b : Nat} (hg : w.grownBy w' (some b)) (hb : n0 ≤ b) : Below n0 w0 w' :=
  h.trans ⟨hg.os, hg.tape, hg.output, hg.size, fun k hk => hg.block k (by omega) (fun e => by have := Option.some.inj e; omega)⟩

set_option maxRecDepth 100000 in
theorem si_step {n0 : Nat} {w0 : World} {Q : Exit → Act → World → Prop} (L : Array Bool) (a : Act) (w : World) (i : Nat) (hI : ∃ B, SI n0 w0 B L a w) (hr : i ∈ Region.ready .any sOps L) :
    wpOp Tryd.prog sOps Q i (fun a' w' => ∃ B, SI n0 w0 B (L.setIfInBounds i true) a' w') a w := by
  obtain ⟨B, h⟩ := hI
  obtain ⟨hun, o, ho, haft⟩ := mem_ready.1 hr
  have hi : i < 243 := by rw [← sLen]; exact (Array.getElem?_eq_some_iff.1 ho).1
  obtain ⟨k, hk⟩ : ∃ k, sCls[i]? = some k := ⟨_, List.getElem?_eq_getElem (by rw [cLen]; exact hi)⟩
  have hil : i < L.size := by rw [h.lsize]; exact hi
  have hun' : ¬ lis L i := by
    unfold lis
    simp only [Array.getD_eq_getD_getElem?, Array.getElem?_eq_getElem hil, Option.getD_some] at hun ⊢
    simp [hun]
  obtain ⟨hdst, hop, hg⟩ : o.dst = k.dst ∧ o.op = k.op ∧ o.guard = none := by
    have e : (sOps.toList.map (fun o => (o.dst, o.op, o.guard)))[i]? = (sCls.map (fun k => (k.dst, k.op, none)))[i]? := by rw [opsFact]
    rw [List.getElem?_map, List.getElem?_map, hk, Array.getElem?_toList, ho] at e
    have e' := Option.some.inj e
    exact ⟨congrArg (·.1) e', congrArg (·.2.1) e', congrArg (·.2.2) e'⟩
  have hn : ∀ t ∈ k.needs i, lis L t := by
    have := List.all_eq_true.1 depsFact i (List.mem_range.2 hi)
    rw [hk, ho] at this
    intro t ht
    obtain ⟨e, he, he2⟩ := Array.any_eq_true'.1 (List.all_eq_true.1 this t ht)
    simp only [Bool.and_eq_true, beq_iff_eq] at he2
    have := haft e he he2.2
    rwa [he2.1] at this
  refine wpOp_plain ho hg ?_
  unfold Oper.wp
  rw [show execOp a.eval o = execOp a.eval { o with op := k.op } by unfold execOp; rw [hop]]
  have hset : ∀ j, lis (L.setIfInBounds i true) j → j = i ∨ lis L j := fun j => (lis_set hil j).1
  have ne : ∀ (j : Nat) q, sCls[j]? = some q → k ≠ q → j ≠ i := fun j q hq hkq e => hkq (by rw [e, hk] at hq; exact Option.some.inj hq)
  cases k with
  | mk1 =>
    obtain rfl : i = 0 := idx_unique hk c0 (d := 1) rfl rfl
    simp only [SK.op, execOp, Option.map_none, Sem.run_bind, run_makeMap, Result.andThen_ok, Sem.run_pure, Oper.upon]
    rw [hdst]
    refine ⟨Bl.mk w.heap.size B.b2 B.g B.x, h.next hk hn _ _ _ (fun d _ => rfl) ?_ (h.below.alloc h.lo _) (by simp; have := h.lo; omega) ?_ ?_ ?_ ?_ ?_⟩
    · intro j q hq hj
      have h53 : ¬ lis L 53 := fun h' => hun' (h.closed 53 _ c53 h' 0 (by simp [SK.needs]))
      cases q with
      | mk1 => exact absurd ((idx_unique hq c0 (d := 1) rfl rfl) ▸ hj) hun'
      | mv2 => exact absurd (h.closed j _ hq hj 0 (by simp [SK.needs])) hun'
      | st => exact absurd (h.closed j _ hq hj 53 (by simp [SK.needs])) h53
      | _ => rfl
    · intro _
      exact ⟨h.lo, [], mapMem_mk w, fun p hp => (List.not_mem_nil hp).elim, fun j e v hj hl => by
        rcases hset j hl with rfl | hl
        · rw [c0] at hj; cases hj
        · exact absurd (h.closed j _ hj hl 0 (by simp [SK.needs])) hun'⟩
    · intro q
      obtain ⟨a1, l, a2, a3, a4⟩ := h.h2 (q.resolve_left (by decide))
      exact ⟨a1, l, a2.of_heap (Below.heap_alloc _ _ _ a2.lt), a3, fun j e v t hj hl => a4 j e v t hj ((hset j hl).resolve_left (ne j _ hj (by simp)))⟩
    · intro q
      obtain ⟨a1, a2⟩ := h.h3 (q.resolve_left (by decide))
      exact ⟨a1, (Below.heap_alloc _ _ _ (Array.getElem?_eq_some_iff.1 a2).1).trans a2⟩
    · intro q
      have h241 := q.resolve_left (by decide)
      have h240 := h.closed 241 _ c241 h241 240 (by simp [SK.needs])
      have h53 := h.closed 240 _ c240 h240 53 (by simp [SK.needs])
      exact absurd (h.closed 53 _ c53 h53 0 (by simp [SK.needs])) hun'
    · intro _ r
      obtain ⟨a1, l, a2, -⟩ := h.h2 (r.resolve_left (by decide))
      exact Nat.ne_of_gt a2.lt
  | mk2 =>
    obtain rfl : i = 54 := idx_unique hk c54 (d := 3) rfl rfl
    simp only [SK.op, execOp, Option.map_none, Sem.run_bind, run_makeMap, Result.andThen_ok, Sem.run_pure, Oper.upon]
    rw [hdst]
    refine ⟨Bl.mk B.b1 w.heap.size B.g B.x, h.next hk hn _ _ _ (fun d _ => rfl) ?_ (h.below.alloc h.lo _) (by simp; have := h.lo; omega) ?_ ?_ ?_ ?_ ?_⟩
    · intro j q hq hj
      have h177 : ¬ lis L 177 := fun h' => hun' (h.closed 177 _ c177 h' 54 (by simp [SK.needs]))
      cases q with
      | mk2 => exact absurd ((idx_unique hq c54 (d := 3) rfl rfl) ▸ hj) hun'
      | mv65 => exact absurd (h.closed j _ hq hj 54 (by simp [SK.needs])) hun'
      | st => exact absurd (h.closed j _ hq hj 177 (by simp [SK.needs])) h177
      | _ => rfl
    · intro q
      obtain ⟨a1, l, a2, a3, a4⟩ := h.h1 (q.resolve_left (by decide))
      exact ⟨a1, l, a2.of_heap (Below.heap_alloc _ _ _ a2.lt), a3, fun j e v hj hl => a4 j e v hj ((hset j hl).resolve_left (ne j _ hj (by simp)))⟩
    · intro _
      exact ⟨h.lo, [], mapMem_mk w, fun p hp => (List.not_mem_nil hp).elim, fun j e v t hj hl => by
        rcases hset j hl with rfl | hl
        · rw [c54] at hj; cases hj
        · exact absurd (h.closed j _ hj hl 54 (by simp [SK.needs])) hun'⟩
    · intro q
      obtain ⟨a1, a2⟩ := h.h3 (q.resolve_left (by decide))
      exact ⟨a1, (Below.heap_alloc _ _ _ (Array.getElem?_eq_some_iff.1 a2).1).trans a2⟩
    · intro q
      have h241 := q.resolve_left (by decide)
      have h240 := h.closed 241 _ c241 h241 240 (by simp [SK.needs])
      have h177 := h.closed 240 _ c240 h240 177 (by simp [SK.needs])
      exact absurd (h.closed 177 _ c177 h177 54 (by simp [SK.needs])) hun'
    · intro r _
      obtain ⟨a1, l, a2, -⟩ := h.h1 (r.resolve_left (by decide))
      exact Nat.ne_of_lt a2.lt
  | mv2 =>
    simp only [SK.op, execOp, Sem.run_pure, Oper.upon]
    rw [hdst, h.ev (d := 1) c0 (hn 0 (by simp [SK.needs])) rfl]
    exact ⟨B, h.quiet hk hn _ (fun d _ => rfl) (by simp) (by simp) (by simp) (by simp) (by simp) (by simp)⟩
  | mv65 =>
    simp only [SK.op, execOp, Sem.run_pure, Oper.upon]
    rw [hdst, h.ev (d := 3) c54 (hn 54 (by simp [SK.needs])) rfl]
    exact ⟨B, h.quiet hk hn _ (fun d _ => rfl) (by simp) (by simp) (by simp) (by simp) (by simp) (by simp)⟩
  | fin =>
    simp only [SK.op, execOp, Sem.run_pure, Oper.upon]
    rw [hdst, h.ev (d := 129) c241 (hn 241 (by simp [SK.needs])) rfl]
    exact ⟨B, h.quiet hk hn _ (fun d _ => rfl) (by simp) (by simp) (by simp) (by simp) (by simp) (by simp)⟩
  | bp e t =>
    have hb := run_build (P := Tryd.prog) w 129 #[(0, .string ⟨e.1.toArray⟩), (1, .string ⟨e.2.toArray⟩)] _ (built_pair _ _)
    simp only [SK.op, execOp, List.map_toArray, List.map_cons, List.map_nil, Act.eval, Sem.run_bind, hb, Result.andThen_ok, Sem.run_pure, Oper.upon]
    rw [hdst]
    exact ⟨B, h.quiet hk hn _ (fun d _ => rfl) (by simp) (by simp) (by simp) (by simp) (by simp) (by simp)⟩
  | bf e t =>
    have hb := run_build (P := Tryd.prog) w 56 #[(0, .string ⟨e.1.toArray⟩), (1, .string ⟨e.2.toArray⟩), (2, .bool false)] _ (built_field _ _)
    simp only [SK.op, execOp, List.map_toArray, List.map_cons, List.map_nil, Act.eval, Sem.run_bind, hb, Result.andThen_ok, Sem.run_pure, Oper.upon]
    rw [hdst]
    exact ⟨B, h.quiet hk hn _ (fun d _ => rfl) (by simp) (by simp) (by simp) (by simp) (by simp) (by simp)⟩
  | st =>
    have e2 := h.ev (d := 2) c53 (hn 53 (by simp [SK.needs])) rfl
    have e65 := h.ev (d := 65) c177 (hn 177 (by simp [SK.needs])) rfl
    have e127 := h.ev (d := 127) c239 (hn 239 (by simp [SK.needs])) rfl
    have hb := run_build (P := Tryd.prog) w 74 #[(0, .bool true), (2, .int .u64 0), (3, .map (some B.b1)), (4, .map (some B.b2)), (1, .slice (some ⟨B.g, 0, none⟩) 61 61)] _ (built_tab B.b1 B.b2 B.g)
    have ec1 : a.eval (.const (.bool true)) = .bool true := rfl
    have ec2 : a.eval (.const (.int .u64 0)) = .int .u64 0 := rfl
    simp only [SK.op, execOp, List.map_toArray, List.map_cons, List.map_nil, e2, e65, e127, ec1, ec2, sval, Sem.run_bind, hb, Result.andThen_ok, Sem.run_pure, Oper.upon]
    rw [hdst]
    exact ⟨B, h.quiet hk hn _ (fun d _ => rfl) (by simp) (by simp) (by simp) (by simp) (by simp) (by simp)⟩
  | bx =>
    obtain rfl : i = 241 := idx_unique hk c241 (d := 129) rfl rfl
    have e128 := h.ev (d := 128) c240 (hn 240 (by simp [SK.needs])) rfl
    have hb : (Instr.box 74 (.agg (tabCells B))).run Tryd.prog w = .ok (.pointer (some ⟨w.heap.size, 0, none⟩)) (w.alloc (.cells (tabCells B) 74)) := rfl
    simp only [SK.op, execOp, e128, sval, Sem.run_bind, hb, Result.andThen_ok, Sem.run_pure, Oper.upon]
    rw [hdst]
    refine ⟨Bl.mk B.b1 B.b2 B.g w.heap.size, h.next hk hn _ _ _ (fun d _ => rfl) ?_ (h.below.alloc h.lo _) (by simp; have := h.lo; omega) ?_ ?_ ?_ ?_ ?_⟩
    · intro j q hq hj
      cases q with
      | bx => exact absurd ((idx_unique hq c241 (d := 129) rfl rfl) ▸ hj) hun'
      | fin => exact absurd (h.closed j _ hq hj 241 (by simp [SK.needs])) hun'
      | _ => rfl
    · intro q
      obtain ⟨a1, l, a2, a3, a4⟩ := h.h1 (q.resolve_left (by decide))
      exact ⟨a1, l, a2.of_heap (Below.heap_alloc _ _ _ a2.lt), a3, fun j e v hj hl => a4 j e v hj ((hset j hl).resolve_left (ne j _ hj (by simp)))⟩
    · intro q
      obtain ⟨a1, l, a2, a3, a4⟩ := h.h2 (q.resolve_left (by decide))
      exact ⟨a1, l, a2.of_heap (Below.heap_alloc _ _ _ a2.lt), a3, fun j e v t hj hl => a4 j e v t hj ((hset j hl).resolve_left (ne j _ hj (by simp)))⟩
    · intro q
      obtain ⟨a1, a2⟩ := h.h3 (q.resolve_left (by decide))
      exact ⟨a1, (Below.heap_alloc _ _ _ (Array.getElem?_eq_some_iff.1 a2).1).trans a2⟩
    · intro _
      exact ⟨h.lo, heap_alloc_new w _⟩
    · intro q r
      exact h.h12 (q.resolve_left (by decide)) (r.resolve_left (by decide))
  | sl =>
    obtain rfl : i = 239 := idx_unique hk c239 (d := 127) rfl rfl
    have hparts : ((((List.range 61).map fun i => (i, Operand.tmp (66 + i))).toArray.map fun (i, x) => (i, a.eval x))).toList = (List.range 61).map fun i => (i, fv i) := by
      simp only [List.map_toArray, List.map_map]
      refine List.map_congr_left fun j hj => ?_
      have hj' : j < 61 := List.mem_range.1 hj
      have := List.all_eq_true.1 bfFact j hj
      have hl : lis L (178 + j) := hn _ (by simp [SK.needs]; exact hj')
      split at this
      · rename_i e t e' h1 h2
        obtain ⟨rfl, rfl⟩ := of_decide_eq_true this
        have := h.ev (d := 66 + j) h1 hl rfl
        simp only [Function.comp, this, fv, h2, sval]
      · cases this
    obtain ⟨ie, hie, hz, hs⟩ : ∃ ie, Tryd.prog.info? 56 = some ie ∧ ie.zero = some (.agg #[.string ByteArray.empty, .string ByteArray.empty, .bool false]) ∧ ie.size = 3 := by
      have hF := infoF
      cases hi : Tryd.prog.info? 56 with
      | none => rw [hi] at hF; cases hF
      | some ie =>
        rw [hi] at hF
        simp at hF
        exact ⟨ie, rfl, hF.1, hF.2⟩
    have hb := run_buildSlice (P := Tryd.prog) w 69 56 61 ((((List.range 61).map fun i => (i, Operand.tmp (66 + i))).toArray.map fun (i, x) => (i, a.eval x))) (entCells HD.static).toArray ie _ Tryd.underlying69 hie hz (by rw [hs]; decide) (by rw [hs]; decide) (by rw [hs, hparts]; exact fillFact)
    simp only [SK.op, execOp, Sem.run_bind, hb, Result.andThen_ok, Sem.run_pure, Oper.upon]
    rw [hdst]
    refine ⟨Bl.mk B.b1 B.b2 w.heap.size B.x, h.next hk hn _ _ _ (fun d _ => rfl) ?_ (h.below.alloc h.lo _) (by simp; have := h.lo; omega) ?_ ?_ ?_ ?_ ?_⟩
    · intro j q hq hj
      cases q with
      | sl => exact absurd ((idx_unique hq c239 (d := 127) rfl rfl) ▸ hj) hun'
      | st => exact absurd (h.closed j _ hq hj 239 (by simp [SK.needs])) hun'
      | _ => rfl
    · intro q
      obtain ⟨a1, l, a2, a3, a4⟩ := h.h1 (q.resolve_left (by decide))
      exact ⟨a1, l, a2.of_heap (Below.heap_alloc _ _ _ a2.lt), a3, fun j e v hj hl => a4 j e v hj ((hset j hl).resolve_left (ne j _ hj (by simp)))⟩
    · intro q
      obtain ⟨a1, l, a2, a3, a4⟩ := h.h2 (q.resolve_left (by decide))
      exact ⟨a1, l, a2.of_heap (Below.heap_alloc _ _ _ a2.lt), a3, fun j e v t hj hl => a4 j e v t hj ((hset j hl).resolve_left (ne j _ hj (by simp)))⟩
    · intro _
      exact ⟨h.lo, heap_alloc_new w _⟩
    · intro q
      have h241 := q.resolve_left (by decide)
      have h240 := h.closed 241 _ c241 h241 240 (by simp [SK.needs])
      exact absurd (h.closed 240 _ c240 h240 239 (by simp [SK.needs])) hun'
    · intro q r
      exact h.h12 (q.resolve_left (by decide)) (r.resolve_left (by decide))
  | in1 e v =>
    obtain ⟨b0, l, m1, m2, m3⟩ := h.h1 (hn 0 (by simp [SK.needs]))
    have hmem : (e, v) ∈ HD.statS := by simpa using List.all_eq_true.1 in1Fact _ (List.mem_of_getElem? hk)
    have e1 := h.ev (d := 1) c0 (hn 0 (by simp [SK.needs])) rfl
    obtain ⟨w', hrun, r1, r2, r3⟩ := run_mput (key_string Tryd.underlying9) Tryd.underlying71 m1 e v
    have ec1 : a.eval (.const (encS e)) = encS e := rfl
    have ec2 : a.eval (.const (.int .u64 (v : Nat))) = .int .u64 (v : Nat) := rfl
    simp only [SK.op, execOp, e1, ec1, ec2, sval, Sem.run_bind, hrun, Result.andThen_ok, Sem.run_pure, Oper.upon]
    rw [hdst]
    have hh : ∀ b, b < w.heap.size → b ≠ B.b1 → w'.heap[b]? = w.heap[b]? := fun b hb hne => r2.block b hb (fun e => hne (Option.some.inj e))
    refine ⟨B, h.next hk hn _ _ _ (fun d hd => by cases hd) (fun _ _ _ _ => rfl) (below_grown h.below h.lo r2 b0) (by rw [r3]; exact h.lo) ?_ ?_ ?_ ?_ ?_⟩
    · intro _
      refine ⟨b0, _, r1, fun p hp => ?_, fun j e' v' hj hl => ?_⟩
      · rcases of_mem_mput hp with rfl | hp
        · exact hmem
        · exact m2 p hp
      · rcases hset j hl with rfl | hl
        · rw [hk] at hj
          injection hj with hj
          injection hj with ha hb
          subst ha; subst hb
          exact mem_mput
        · have hp := m3 j e' v' hj hl
          refine mem_mput_old hp fun heq => ?_
          have := of_decide_eq_true (List.all_eq_true.1 (List.all_eq_true.1 uniqS _ (m2 _ hp)) _ hmem)
          exact this heq
    · intro q
      have h54 := q.resolve_left (ne 54 _ c54 (by simp))
      obtain ⟨a1, l2, a2, a3, a4⟩ := h.h2 h54
      exact ⟨a1, l2, a2.of_heap (hh _ a2.lt (Ne.symm (h.h12 (hn 0 (by simp [SK.needs])) h54))), a3, fun j e v t hj hl => a4 j e v t hj ((hset j hl).resolve_left (ne j _ hj (by simp)))⟩
    · intro q
      obtain ⟨a1, a2⟩ := h.h3 (q.resolve_left (ne 239 _ c239 (by simp)))
      refine ⟨a1, (hh _ (Array.getElem?_eq_some_iff.1 a2).1 (fun e => ?_)).trans a2⟩
      obtain ⟨-, es, c, hb, -⟩ := m1
      rw [e, hb] at a2; cases a2
    · intro q
      obtain ⟨a1, a2⟩ := h.h4 (q.resolve_left (ne 241 _ c241 (by simp)))
      refine ⟨a1, (hh _ (Array.getElem?_eq_some_iff.1 a2).1 (fun e => ?_)).trans a2⟩
      obtain ⟨-, es, c, hb, -⟩ := m1
      rw [e, hb] at a2; cases a2
    · exact fun q r => h.h12 (q.resolve_left (ne 0 _ c0 (by simp))) (r.resolve_left (ne 54 _ c54 (by simp)))
  | in2 e v t =>
    obtain ⟨b0, l, m1, m2, m3⟩ := h.h2 (hn 54 (by simp [SK.needs]))
    have hmem : (e, v) ∈ HD.statP := by simpa using List.all_eq_true.1 in2Fact2 _ (List.mem_of_getElem? hk)
    have e3 := h.ev (d := 3) c54 (hn 54 (by simp [SK.needs])) rfl
    have hprev : sCls[i - 1]? = some (.bp e t) := by
      have := List.all_eq_true.1 in2Fact (.in2 e v t, i) (by rw [List.mem_zipIdx_iff_getElem?]; exact hk)
      dsimp only at this
      split at this
      · rename_i e' t' h1
        obtain ⟨rfl, rfl⟩ := of_decide_eq_true this
        exact h1
      · cases this
    have et := h.ev (d := t) hprev (hn (i - 1) (by simp [SK.needs])) rfl
    obtain ⟨w', hrun, r1, r2, r3⟩ := run_mput key_pair Tryd.underlying72 m1 e v
    have ec2 : a.eval (.const (.int .u64 (v : Nat))) = .int .u64 (v : Nat) := rfl
    simp only [SK.op, execOp, e3, et, ec2, sval, Sem.run_bind, hrun, Result.andThen_ok, Sem.run_pure, Oper.upon]
    rw [hdst]
    have hh : ∀ b, b < w.heap.size → b ≠ B.b2 → w'.heap[b]? = w.heap[b]? := fun b hb hne => r2.block b hb (fun e => hne (Option.some.inj e))
    refine ⟨B, h.next hk hn _ _ _ (fun d hd => by cases hd) (fun _ _ _ _ => rfl) (below_grown h.below h.lo r2 b0) (by rw [r3]; exact h.lo) ?_ ?_ ?_ ?_ ?_⟩
    · intro q
      have h0 := q.resolve_left (ne 0 _ c0 (by simp))
      obtain ⟨a1, l2, a2, a3, a4⟩ := h.h1 h0
      exact ⟨a1, l2, a2.of_heap (hh _ a2.lt (h.h12 h0 (hn 54 (by simp [SK.needs])))), a3, fun j e v hj hl => a4 j e v hj ((hset j hl).resolve_left (ne j _ hj (by simp)))⟩
    · intro _
      refine ⟨b0, _, r1, fun p hp => ?_, fun j e' v' t' hj hl => ?_⟩
      · rcases of_mem_mput hp with rfl | hp
        · exact hmem
        · exact m2 p hp
      · rcases hset j hl with rfl | hl
        · rw [hk] at hj
          injection hj with hj
          injection hj with ha hb
          subst ha; subst hb
          exact mem_mput
        · have hp := m3 j e' v' t' hj hl
          refine mem_mput_old hp fun heq => ?_
          have := of_decide_eq_true (List.all_eq_true.1 (List.all_eq_true.1 uniqP _ (m2 _ hp)) _ hmem)
          exact this heq
    · intro q
      obtain ⟨a1, a2⟩ := h.h3 (q.resolve_left (ne 239 _ c239 (by simp)))
      refine ⟨a1, (hh _ (Array.getElem?_eq_some_iff.1 a2).1 (fun e => ?_)).trans a2⟩
      obtain ⟨-, es, c, hb, -⟩ := m1
      rw [e, hb] at a2; cases a2
    · intro q
      obtain ⟨a1, a2⟩ := h.h4 (q.resolve_left (ne 241 _ c241 (by simp)))
      refine ⟨a1, (hh _ (Array.getElem?_eq_some_iff.1 a2).1 (fun e => ?_)).trans a2⟩
      obtain ⟨-, es, c, hb, -⟩ := m1
      rw [e, hb] at a2; cases a2
    · exact fun q r => h.h12 (q.resolve_left (ne 0 _ c0 (by simp))) (r.resolve_left (ne 54 _ c54 (by simp)))

/-- The static table in memory, in blocks that are not older than n0. -/
structure StatMem (n0 : Nat) (w : World) (B : Bl) : Prop where
  x : n0 ≤ B.x ∧ w.heap[B.x]? = some (xObj B)
  g : n0 ≤ B.g ∧ w.heap[B.g]? = some gObj
  m1 : n0 ≤ B.b1 ∧ ∃ l, MapMem encS w B.b1 l ∧ ∀ p, p ∈ l ↔ p ∈ HD.statS
  m2 : n0 ≤ B.b2 ∧ ∃ l, MapMem encP w B.b2 l ∧ ∀ p, p ∈ l ↔ p ∈ HD.statP

set_option maxRecDepth 100000 in
theorem si_done {n0 : Nat} {w0 : World} {L : Array Bool} {a : Act} {w : World} (hI : ∃ B, SI n0 w0 B L a w) (hr : Region.ready .any sOps L = []) :
    ∃ B, StatMem n0 w B ∧ Below n0 w0 w ∧ a.defers = [] ∧ a.tmps[0]? = some (.pointer (some ⟨B.x, 0, none⟩)) := by
  obtain ⟨B, h⟩ := hI
  have hall : ∀ i, i < 243 → lis L i := fun i hi => all_listed (ops := sOps) (md := .any) (by rw [h.lsize, sLen]) (fun i o ho e he => by
    have hi : i < 243 := by rw [← sLen]; exact (Array.getElem?_eq_some_iff.1 ho).1
    have := List.all_eq_true.1 acycFact i (List.mem_range.2 hi)
    rw [ho] at this
    simpa using Array.all_eq_true'.1 this e he) hr i (by rw [sLen]; exact hi)
  refine ⟨B, ⟨h.h4 (hall 241 (by decide)), h.h3 (hall 239 (by decide)), ?_, ?_⟩, h.below, h.defers, h.slots 242 _ 0 c242 (hall 242 (by decide)) rfl⟩
  · obtain ⟨a1, l, a2, a3, a4⟩ := h.h1 (hall 0 (by decide))
    refine ⟨a1, l, a2, fun p => ⟨a3 p, fun hp => ?_⟩⟩
    have hm : SK.in1 p.1 p.2 ∈ sCls := by
      unfold sCls
      simp only [List.cons_append, List.mem_cons, List.mem_append, List.mem_map]
      exact Or.inr (Or.inl (Or.inl (Or.inl (Or.inl (Or.inl ⟨p, hp, rfl⟩)))))
    obtain ⟨j, hj, e⟩ := List.getElem_of_mem hm
    exact a4 j p.1 p.2 (by rw [List.getElem?_eq_getElem hj, e]) (hall j (by rw [← cLen]; exact hj))
  · obtain ⟨a1, l, a2, a3, a4⟩ := h.h2 (hall 54 (by decide))
    refine ⟨a1, l, a2, fun p => ⟨a3 p, fun hp => ?_⟩⟩
    obtain ⟨q, hq, rfl⟩ := List.mem_map.1 (show p ∈ HD.static.zipIdx.map _ from hp)
    have hm : SK.in2 q.1 (q.2 + 1) (4 + q.2) ∈ sCls := by
      unfold sCls
      simp only [List.cons_append, List.mem_cons, List.mem_append, List.mem_flatMap]
      exact Or.inr (Or.inl (Or.inl (Or.inl (Or.inr ⟨q, hq, by simp⟩))))
    obtain ⟨j, hj, e⟩ := List.getElem_of_mem hm
    exact a4 j q.1 (q.2 + 1) (4 + q.2) (by rw [List.getElem?_eq_getElem hj, e]) (hall j (by rw [← cLen]; exact hj))
end Go.Proofs.YtlkpeeoippbdoaaDoor
/-
  The contract of staticTable.
-/
namespace Go.Proofs.YtlkpeeoippbdoaaDoor
open Go.ChangeShapes Go.WideShapes Go.ChangeAt Go.RowKit

def sReg0 : Array Oper := #[{ dst := some 0, op := .assign (.const (.pointer none)), type := 101, pos := "static_table.go:6", after := #[], guard := none }]
theorem bodyEq : Tryd.f71.body = some (.seq (.region 0 sReg0 false) (.seq (.region 1 sOps true) .ret)) := by kernel_rfl
theorem resEq : Tryd.f71.results = #[.tmp 0] := by kernel_rfl
theorem si_start (n0 : Nat) (w0 w : World) (tm : Array Value) (hs : tm.size = 130) (hb : Below n0 w0 w) (hl : n0 ≤ w.heap.size) : ∃ B, SI n0 w0 B (Array.replicate 243 false) ⟨tm, []⟩ w := by
  have hno : ∀ i, ¬ lis (Array.replicate 243 false) i := fun i h => by
    unfold lis at h
    rw [Array.getD_eq_getD_getElem?, Array.getElem?_replicate] at h
    split at h <;> simp at h
  exact ⟨⟨0, 0, 0, 0⟩, rfl, hs, by simp, hb, hl, fun j _ _ h => absurd h (hno j), fun j _ _ _ h => absurd h (hno j), fun h => absurd h (hno 0), fun h => absurd h (hno 54), fun h => absurd h (hno 239), fun h => absurd h (hno 241), fun h => absurd h (hno 0)⟩

set_option maxRecDepth 100000 in
theorem static_any (w : World) : Calls Tryd.prog 71 #[] w fun e w' => ∃ B : Bl, e = .returned (.pointer (some ⟨B.x, 0, none⟩)) ∧ StatMem w.heap.size w' B ∧ Below w.heap.size w w' := by
  refine calls_of_wp Tryd.func71 bodyEq ?_
  refine wp_seq (wp_region ?_)
  rw [show List.range sReg0.size = [0] from rfl, wpOps_cons]
  refine wpOp_plain (show sReg0[0]? = some _ from rfl) rfl ?_
  unfold Oper.wp
  simp only [execOp, Oper.upon, wpOps, Exit.then, Act.put]
  refine wp_seq (wp_region_any (by kernel_rfl) (wpAny_inv (fun L a w' => ∃ B, SI w.heap.size w B L a w') (fun L a w' i hI hi => si_step L a w' i hI hi) (fun L a w' hI hr => ?_) _ _ _ _ ?_ ?_))
  · obtain ⟨B, hS, hb, hd, h0⟩ := si_done hI hr
    simp only [Exit.then]
    refine wp_ret ⟨hd, .pointer (some ⟨B.x, 0, none⟩), ?_, B, rfl, hS, hb⟩
    simp only [results, resEq]
    simp [Array.getD_eq_getD_getElem?, h0]
  · rw [sLen]
    refine si_start _ _ _ _ ?_ ⟨rfl, rfl, rfl, Nat.le_refl _, fun _ _ => rfl⟩ (Nat.le_refl _)
    rw [Array.size_setIfInBounds]
    simp only [show Tryd.f71.ntmps = 130 by kernel_rfl]
    rfl
  · exact Nat.le_trans (List.length_filter_le _ _) (Nat.le_of_eq List.length_range)
end Go.Proofs.YtlkpeeoippbdoaaDoor
