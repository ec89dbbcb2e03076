/-
  Texts of this seat, one behind the other: EEnc, ERun, Short, EFew, EOpen. What each one shows stands at its head. No condition.
-/
import Derived.Test.YtjdmaflkafmmpaaDoorMe6
import Derived.Test.YtjdmaflkafmmpaaDoorRows
import Derived.WalkKit
import Derived.WalkLawsBesides
import Derived.ProofKit
import Derived.OpenShut
import Derived.Outline
import Derived.Lib.Hide
import Derived.Deep.Slices
import Derived.Stood8
/-
  The contract of impl.encode: a step of an encoder.
-/
namespace Go.Proofs.YtjdmaflkafmmpaaDoor
open Go.ChangeShapes Go.WideShapes Go.ChangeAt Go.RowKit

theorem toFieldE_any (f : HD.Fld) (w : World) :
    Calls Tryd.prog 27 #[.agg #[.string ⟨f.name.toArray⟩, .string ⟨f.value.toArray⟩, .bool f.sens]] w fun e w' => e = .returned (.agg #[.string ⟨f.name.toArray⟩, .string ⟨f.value.toArray⟩, .bool f.sens]) ∧ Below w.heap.size w w' := by
  obtain ⟨n, v, s⟩ := f
  dsimp only
  go_enter Tryd.func27, Tryd.ntmps27
  go_wp2
  exact bodyPost_ret (v := .agg #[.string ⟨n.toArray⟩, .string ⟨v.toArray⟩, .bool s]) (by simp [results, Tryd.results27, go_sem]) rfl ⟨rfl, ((Below.refl _ _).alloc (Nat.le_refl _) _).alloc (by simp) _⟩
theorem codeNil_any (w : World) : Calls Tryd.prog 25 #[.nilIface] w fun e w' => e = .returned (.tuple #[.int .i64 0, .int .i64 0]) ∧ w = w' := by
  go_enter Tryd.func25, Tryd.ntmps25
  go_wp2
  go_ret2
  exact ⟨rfl, rfl⟩

def cmdOf (kind : Int) (f : HD.Fld) (n : Nat) : HD.ECmd := if kind = 0 then .field f else if kind = 1 then .size n else if kind = 2 then .limit n else .ask
def stepA (kind : Int) (f : HD.Fld) (n : Nat) : Array Value := #[.int .i64 kind, .string ⟨f.name.toArray⟩, .string ⟨f.value.toArray⟩, .bool f.sens, .int .i64 (n : Nat)]
def ansA (bv : Value) (k sz : Nat) : Array Value := #[bv, .int .i64 (k : Nat), .int .i64 (sz : Nat), .int .i64 0]
def sinkEmpty (w : World) (sk : Nat) : Prop := w.heap[sk]? = some (.cells #[.slice none 0 0, .int .i64 0] 50 (0, 0))

/-- How a step ends. -/
def StEnds (B : Nat) (w : World) (d sk : Nat) (c : HD.ECmd) (s : HD.ES) (p : EP) (e : Ending) (w' : World) : Prop :=
  ∃ (a : HD.EAns) (s' : HD.ES) (p' : EP) (av : Option Addr) (ac : Nat), e = .returned (.agg (ansA (.slice av a.bytes.length ac) a.writes a.size)) ∧ HD.EOk s c a s' ∧ EncAt B w' d sk s' p' ∧ (∃ n xs, w'.ownsRow B 5 1 (p'.f 12) n xs) ∧ sinkEmpty w' sk ∧
    w'.ownsRow w.heap.size 5 1 (.slice av a.bytes.length ac) a.bytes.length (Lib.byteCells a.bytes) ∧ (∀ g, (Value.slice av a.bytes.length ac).ownBlock = some g → ¬ p'.own d g) ∧
    Upd (fun k => p.own d k ∨ k = sk) w w' ∧ (∀ k, p'.own d k → (p.own d k ∨ w.heap.size ≤ k) ∧ k < w'.heap.size) ∧ p'.cnt + s'.ents.length ≤ p.cnt + s.ents.length + 1

/-- What stands in memory behind a step's call. -/
structure Mid (B : Nat) (w w5 : World) (d sk : Nat) (c : HD.ECmd) (s : HD.ES) (p : EP) (a : HD.EAns) (s' : HD.ES) (p' : EP) (av : Option Addr) (ac : Nat) : Prop where
  ok : HD.EOk s c a s'
  enc : EncAt B w5 d sk s' p'
  buf : ∃ n xs, w5.ownsRow B 5 1 (p'.f 12) n xs
  sink : w5.heap[sk]? = some (.cells #[.slice av a.bytes.length ac, .int .i64 (a.writes : Nat)] 50 (0, 0))
  bytes : w5.ownsRow (w.heap.size + 3) 5 1 (.slice av a.bytes.length ac) a.bytes.length (Lib.byteCells a.bytes)
  apart : ∀ g, (Value.slice av a.bytes.length ac).ownBlock = some g → ¬ p'.own d g
  upd : Upd (fun k => p.own d k ∨ k = sk) w w5
  own : ∀ k, p'.own d k → (p.own d k ∨ w.heap.size + 3 ≤ k) ∧ k < w5.heap.size
  num : p'.cnt + s'.ents.length ≤ p.cnt + s.ents.length + 1
theorem Mid.close {B : Nat} {w w5 w6 : World} {d sk : Nat} {c : HD.ECmd} {s : HD.ES} {p : EP} {a : HD.EAns} {s' : HD.ES} {p' : EP} {av : Option Addr} {ac : Nat} (h : Mid B w w5 d sk c s p a s' p' av ac) (hlo : ∀ k, p.own d k → k < w.heap.size) (hns : ¬ p.own d sk) (hsk : sk < w.heap.size)
    (hu : Upd (fun k => k = sk ∨ k = w.heap.size + 1 ∨ k = w.heap.size + 2) w5 w6) (h6 : sinkEmpty w6 sk) : StEnds B w d sk c s p (.returned (.agg (ansA (.slice av a.bytes.length ac) a.writes a.size))) w6 := by
  have hkeep : ∀ k, p'.own d k → w6.heap[k]? = w5.heap[k]? := fun k hk => by
    obtain ⟨h1, h2⟩ := h.own k hk
    refine hu.block k h2 ?_
    rintro (rfl | rfl | rfl)
    · rcases h1 with h1 | h1
      · exact hns h1
      · omega
    · rcases h1 with h1 | h1
      · have := hlo _ h1; omega
      · omega
    · rcases h1 with h1 | h1
      · have := hlo _ h1; omega
      · omega
  obtain ⟨n, xs, hb⟩ := h.buf
  refine ⟨a, s', p', av, ac, rfl, h.ok, h.enc.frame fun k hk => hkeep k (Or.inl hk), ⟨n, xs, ownsRow_of_heap hb fun g hg => hkeep g (Or.inr hg)⟩, h6, own_base (ownsRow_of_heap h.bytes fun g hg => hu.block g (h.bytes.lt g hg).2 ?_) (by omega), h.apart, ?_, fun k hk => ?_, h.num⟩
  · have := (h.bytes.lt g hg).1
    omega
  · refine h.upd.trans hu fun i hi ho => ?_
    rcases ho with rfl | rfl | rfl
    · exact Or.inr rfl
    · omega
    · omega
  · obtain ⟨h1, h2⟩ := h.own k hk
    exact ⟨h1.imp id fun h => by omega, Nat.lt_of_lt_of_le h2 hu.size⟩

theorem sinkEmpty_end {W : World} {sk N1 N2 : Nat} {x y u0 u1 v0 v1 v2 v3 : Value} (h1 : N1 ≠ sk) (h2 : N2 ≠ sk) (h : W.heap[sk]? = some (.cells #[x, y] 50 (0, 0))) :
    sinkEmpty (((((((((W.setCell ⟨N2, 0, none⟩ u0).setCell ⟨N2, 1, none⟩ u1).setCell ⟨sk, 0, none⟩ (.slice none 0 0)).setCell ⟨sk, 1, none⟩ (.int .i64 0)).setCell ⟨N1, 0, none⟩ v0).setCell ⟨N1, 1, none⟩ v1).setCell ⟨N1, 2, none⟩ v2).setCell ⟨N1, 3, none⟩ v3).drew) sk := by
  have k1 := (other_set (w := W) (j := 0) (v := u0) h2).trans h
  have k2 := (other_set (w := W.setCell ⟨N2, 0, none⟩ u0) (j := 1) (v := u1) h2).trans k1
  generalize (W.setCell ⟨N2, 0, none⟩ u0).setCell ⟨N2, 1, none⟩ u1 = W2 at k2 ⊢
  have k3 := Lib.heap_setCell_same (i := 0) k2 (.slice none 0 0)
  have k4 := Lib.heap_setCell_same (i := 1) k3 (.int .i64 0)
  generalize (W2.setCell ⟨sk, 0, none⟩ (.slice none 0 0)).setCell ⟨sk, 1, none⟩ (.int .i64 0) = W4 at k4 ⊢
  have k5 := (other_set (w := W4) (j := 0) (v := v0) h1).trans k4
  generalize W4.setCell ⟨N1, 0, none⟩ v0 = W5 at k5 ⊢
  have k6 := (other_set (w := W5) (j := 1) (v := v1) h1).trans k5
  generalize W5.setCell ⟨N1, 1, none⟩ v1 = W6 at k6 ⊢
  have k7 := (other_set (w := W6) (j := 2) (v := v2) h1).trans k6
  generalize W6.setCell ⟨N1, 2, none⟩ v2 = W7 at k7 ⊢
  have k8 := (other_set (w := W7) (j := 3) (v := v3) h1).trans k7
  generalize W7.setCell ⟨N1, 3, none⟩ v3 = W8 at k8 ⊢
  exact k8
/-- The world behind the step's first three allocations. -/
theorem enc_world (w : World) (kind : Int) (f : HD.Fld) (n : Nat) :
    Below w.heap.size w (((w.alloc (.cells (stepA kind f n) 28)).alloc (.cells (ansA (.slice none 0 0) 0 0) 34)).alloc (.cells (ansA (.slice none 0 0) 0 0) 34)) ∧
    (((w.alloc (.cells (stepA kind f n) 28)).alloc (.cells (ansA (.slice none 0 0) 0 0) 34)).alloc (.cells (ansA (.slice none 0 0) 0 0) 34)).heap.size = w.heap.size + 3 ∧
    (((w.alloc (.cells (stepA kind f n) 28)).alloc (.cells (ansA (.slice none 0 0) 0 0) 34)).alloc (.cells (ansA (.slice none 0 0) 0 0) 34)).heap[w.heap.size]? = some (.cells (stepA kind f n) 28 (0, 0)) ∧
    Row (((w.alloc (.cells (stepA kind f n) 28)).alloc (.cells (ansA (.slice none 0 0) 0 0) 34)).alloc (.cells (ansA (.slice none 0 0) 0 0) 34)) (w.heap.size + 1) 4 (fun i => (ansA (.slice none 0 0) 0 0).getD i undef) ∧
    Row (((w.alloc (.cells (stepA kind f n) 28)).alloc (.cells (ansA (.slice none 0 0) 0 0) 34)).alloc (.cells (ansA (.slice none 0 0) 0 0) 34)) (w.heap.size + 2) 4 (fun i => (ansA (.slice none 0 0) 0 0).getD i undef) := by
  have h1 : (w.alloc (.cells (stepA kind f n) 28)).heap.size = w.heap.size + 1 := by simp
  have h2 : ((w.alloc (.cells (stepA kind f n) 28)).alloc (.cells (ansA (.slice none 0 0) 0 0) 34)).heap.size = w.heap.size + 2 := by simp
  have hc : ∀ i, i < 4 → (ansA (.slice none 0 0) 0 0)[i]? = some ((ansA (.slice none 0 0) 0 0).getD i undef) := fun i hi => by
    rw [Array.getD_eq_getD_getElem?, Array.getElem?_eq_getElem (show i < (ansA (.slice none 0 0) 0 0).size from hi)]; rfl
  refine ⟨(((Below.refl _ w).alloc (Nat.le_refl _) _).alloc (by rw [h1]; omega) _).alloc (by rw [h2]; omega) _, by simp, ?_, ?_, ?_⟩
  · exact ((Below.heap_alloc _ _ _ (by rw [h2]; omega)).trans (Below.heap_alloc _ _ _ (by rw [h1]; omega))).trans (heap_alloc_new w _)
  · have := Row.new (w.alloc (.cells (stepA kind f n) 28)) (cs := ansA (.slice none 0 0) 0 0) 34 (by decide) rfl hc
    rw [h1] at this
    exact this.alloc _
  · have := Row.new ((w.alloc (.cells (stepA kind f n) 28)).alloc (.cells (ansA (.slice none 0 0) 0 0) 34)) (cs := ansA (.slice none 0 0) 0 0) 34 (by decide) rfl hc
    rw [h2] at this
    exact this

set_option maxHeartbeats 4000000 in
set_option maxRecDepth 100000 in
theorem encode_any (B : Nat) (w : World) (d sk : Nat) (kind : Int) (f : HD.Fld) (n : Nat) (s : HD.ES) (p : EP) (hE : EncAt B w d sk s p) (hbuf : ∃ n xs, w.ownsRow B 5 1 (p.f 12) n xs) (hok : HD.ESOk s) (hcnt : p.cnt + s.ents.length + 1 < 2 ^ 62)
    (hsk : sinkEmpty w sk) (hsd : sk ≠ d) (hG : 5 < B ∧ 6 < B) (ht : LenTab w) (hc : CodeTab w) (hfl : f.name.length + f.value.length ≤ 1048576) (hn : n ≤ 2 ^ 31) :
    Calls Tryd.prog 17 #[.pointer (some ⟨d, 0, none⟩), .pointer (some ⟨sk, 0, none⟩), .agg (stepA kind f n)] w (StEnds B w d sk (cmdOf kind f n) s p) := by
  obtain ⟨hb0, hs0, hbx0, hr0, ha0⟩ := enc_world w kind f n
  obtain ⟨W0, hW0⟩ : ∃ W0, W0 = ((w.alloc (.cells (stepA kind f n) 28)).alloc (.cells (ansA (.slice none 0 0) 0 0) 34)).alloc (.cells (ansA (.slice none 0 0) 0 0) 34) := ⟨_, rfl⟩
  rw [← hW0] at hb0 hs0 hbx0 hr0 ha0
  obtain ⟨bn, bxs, hbo⟩ := hbuf
  have hns := own_not_sink (cs := [.slice none 0 0, .int .i64 0]) hE hbo hsk hsd
  have hlo : ∀ k, p.own d k → k < w.heap.size := fun k hk => hk.elim hE.tab.own_lt fun e => (hbo.lt k e).2
  have hge : ∀ k, p.own d k → B ≤ k := fun k hk => hk.elim hE.tab.own_ge fun e => (hbo.lt k e).1
  have hskl := Lib.lt_of_heap hsk
  have hBl : B ≤ w.heap.size := Nat.le_trans hE.tab.lo.1 (Nat.le_of_lt hE.tab.row.lt)
  have HE0 := Lib.hid (hE.frame (w' := W0) fun k hk => hb0.block k (hE.tab.own_lt hk))
  have HB0 := Lib.hid (ownsRow_of_heap (w' := W0) hbo fun g hg => hb0.block g (hbo.lt g hg).2)
  have HS0 := Lib.hid ((hb0.block sk hskl).trans hsk)
  have HT0 := Lib.hid (ht.below hb0 (Nat.lt_of_lt_of_le hG.1 hBl))
  have HC0 := Lib.hid (hc.below hb0 (Nat.lt_of_lt_of_le hG.2 hBl))
  have Hb0 := Lib.hid hb0
  have Hbx0 := Lib.hid hbx0
  have Hr0 := Lib.hid hr0
  have Ha0 := Lib.hid ha0
  have HW0 := Lib.hid hW0
  have Hns := Lib.hid hns
  have Hlo := Lib.hid hlo
  have Hge := Lib.hid hge
  have HG := Lib.hid hG
  have Hok := Lib.hid hok
  have Hs0 := Lib.hid hs0
  clear hb0 hs0 hbx0 hr0 ha0 hW0 hE hbo hok hsk hns hlo hge ht hc hG
  have q0 : W0.cell? ⟨w.heap.size, 0, none⟩ = some (.int .i64 kind) := (Lib.cell_of_heap Hbx0.out 0).trans rfl
  have q1 : W0.cell? ⟨w.heap.size, 1, none⟩ = some (.string ⟨f.name.toArray⟩) := (Lib.cell_of_heap Hbx0.out 1).trans rfl
  have q2 : W0.cell? ⟨w.heap.size, 2, none⟩ = some (.string ⟨f.value.toArray⟩) := (Lib.cell_of_heap Hbx0.out 2).trans rfl
  have q3 : W0.cell? ⟨w.heap.size, 3, none⟩ = some (.bool f.sens) := (Lib.cell_of_heap Hbx0.out 3).trans rfl
  have q4 : W0.cell? ⟨w.heap.size, 4, none⟩ = some (.int .i64 (n : Nat)) := (Lib.cell_of_heap Hbx0.out 4).trans rfl
  unfold stepA
  go_enter Tryd.func17, Tryd.ntmps17
  go_upto_region 2 with (fail)
  rw [show (((w.alloc (.cells #[.int .i64 kind, .string ⟨f.name.toArray⟩, .string ⟨f.value.toArray⟩, .bool f.sens, .int .i64 (n : Nat)] 28)).alloc (.cells #[.slice none 0 0, .int .i64 0, .int .i64 0, .int .i64 0] 34)).alloc (.cells #[.slice none 0 0, .int .i64 0, .int .i64 0, .int .i64 0] 34)) = W0 from HW0.out.symm]
  have hlt0 : w.heap.size < W0.heap.size := by rw [Hs0.out]; omega
  obtain ⟨N1, hN1⟩ : ∃ N1, N1 = w.heap.size + 1 := ⟨_, rfl⟩
  obtain ⟨N2, hN2⟩ : ∃ N2, N2 = w.heap.size + 2 := ⟨_, rfl⟩
  rw [show w.heap.size + 1 + 1 = N2 by omega, show w.heap.size + 1 = N1 by omega]
  rw [← hN1] at Hr0
  rw [← hN2] at Ha0
  have HN1 := Lib.hid hN1
  have HN2 := Lib.hid hN2
  clear hN1 hN2 HW0
  by_cases h0 : kind = 0
  · subst h0
    go_wp2_with fail
    refine (toFieldE_any f _).mono ?_
    rintro e w1 ⟨rfl, hb1⟩
    have hE1 := Lib.hid (HE0.out.frame fun k hk => hb1.block k (HE0.out.tab.own_lt hk))
    have hB1 := Lib.hid (ownsRow_of_heap HB0.out fun g hg => hb1.block g (HB0.out.lt g hg).2)
    have hsl : sk < W0.heap.size := Lib.lt_of_heap HS0.out
    have hS1 := Lib.hid ((hb1.block sk hsl).trans HS0.out)
    have Hb1 := Lib.hid hb1
    clear hb1
    go_wp2_with fail
    refine (writeField_any B _ d sk f s p hE1.out ⟨_, _, hB1.out⟩ Hok.out hcnt hS1.out hsd HG.out (HT0.out.below Hb1.out (Nat.lt_of_lt_of_le HG.out.1 (by omega))) (HC0.out.below Hb1.out (Nat.lt_of_lt_of_le HG.out.2 (by omega))) hfl).mono ?_
    rintro e w5 ⟨rfl, m, i, p', hF, hE5, hb5, ⟨av, ac, hs5, hbs5, hap5⟩, hu5, hown5, hnum5⟩
    obtain ⟨a, ha⟩ : ∃ a : HD.EAns, a = ⟨HD.eupd s ++ HD.efld m i (HD.eidx s f) f, 1, 0⟩ := ⟨_, rfl⟩
    have hsz1 : W0.heap.size ≤ w1.heap.size := Hb1.out.size
    have hMid : Mid B w w5 d sk (.field f) s p a (HD.efs s f m) p' av ac := by
      refine ⟨by rw [ha]; exact .field s f m i hF, hE5, hb5, by rw [ha]; exact hs5, by rw [ha]; exact own_base hbs5 (by rw [Hs0.out] at hsz1; exact hsz1), by rw [ha]; exact hap5, ?_, fun k hk => ⟨(hown5 k hk).1.imp id fun h => by have := Hs0.out; omega, (hown5 k hk).2⟩, hnum5⟩
      exact ((Upd.of_below Hb0.out).step (Upd.of_below Hb1.out)).step hu5
    have hkk : ∀ k, w.heap.size < k → k < W0.heap.size → w5.heap[k]? = W0.heap[k]? := fun k h1 h2 => (hu5.block k (by omega) (fun h => by
      rcases h with h | h
      · have := Hlo.out k h; omega
      · omega)).trans (Hb1.out.block k h2)
    have hra5 := Ha0.out.of_heap (hkk N2 (by have := HN2.out; omega) (by have := HN2.out; have := Hs0.out; omega))
    have hrr5 := Hr0.out.of_heap (hkk N1 (by have := HN1.out; omega) (by have := HN1.out; have := Hs0.out; omega))
    have a3 := hra5.cell' (i := 3) (v := .int .i64 0) (by decide) rfl
    have fza := fun i => hra5.unfrozen i none
    have Hra5 := Lib.hid hra5
    have Hrr5 := Lib.hid hrr5
    have HMid := Lib.hid hMid
    have hsz : a.size = 0 := by rw [ha]
    have Hsz := Lib.hid hsz
    clear hF hE5 hb5 hs5 hbs5 hap5 hu5 hown5 hnum5 ha hMid hkk hra5 hrr5 hsz
    go_wp2_with fail
    refine (codeNil_any _).mono ?_
    rintro e w6 ⟨rfl, rfl⟩
    go_upto_region 10 with (fail)
    have hRa := Hra5.out.set 3 (.int .i64 0)
    have hRr := Hrr5.out.setOther (a := ⟨N2, 3, none⟩) (by show N1 ≠ N2; have := HN1.out; have := HN2.out; omega) (.int .i64 0)
    have hS6 := (other_set (w := w5) (b := N2) (i := sk) (j := 3) (v := .int .i64 0) (by have := HN2.out; omega)).trans HMid.out.sink
    have hu6 : Upd (fun k => k = sk ∨ k = w.heap.size + 1 ∨ k = w.heap.size + 2) w5 (w5.setCell ⟨N2, 3, none⟩ (.int .i64 0)) := (Upd.refl _ w5).setCell (Or.inl (Or.inr (Or.inr HN2.out))) _
    generalize w5.setCell ⟨N2, 3, none⟩ (.int .i64 0) = W6 at hRa hRr hS6 hu6 ⊢
    obtain ⟨L, hL⟩ : ∃ L, L = a.bytes.length := ⟨_, rfl⟩
    obtain ⟨wr, hwr⟩ : ∃ x, x = a.writes := ⟨_, rfl⟩
    obtain ⟨sz, hsz'⟩ : ∃ x, x = a.size := ⟨_, rfl⟩
    have hne1 : sk ≠ N2 := by have := HN2.out; omega
    have hne2 : N2 ≠ sk := by have := HN2.out; omega
    have hne3 : sk ≠ N1 := by have := HN1.out; omega
    have hne4 : N1 ≠ N2 := by have := HN1.out; have := HN2.out; omega
    have hne5 : N2 ≠ N1 := by have := HN1.out; have := HN2.out; omega
    rw [← hL, ← hwr] at hS6
    have k0 : W6.cell? ⟨sk, 0, none⟩ = some (.slice av L ac) := (Lib.cell_of_heap hS6 0).trans rfl
    have k1 : W6.cell? ⟨sk, 1, none⟩ = some (.int .i64 (wr : Nat)) := (Lib.cell_of_heap hS6 1).trans rfl
    have kf := Lib.frozen_of_heap hS6
    have b0 := hRa.cell' (i := 0) (v := .slice none 0 0) (by decide) rfl
    have b1 := hRa.cell' (i := 1) (v := .int .i64 0) (by decide) rfl
    have b2 := hRa.cell' (i := 2) (v := .int .i64 (sz : Nat)) (by decide) (by rw [hsz', Hsz.out]; rfl)
    have b3 := hRa.cell' (i := 3) (v := .int .i64 0) (by decide) rfl
    have bf := fun i => hRa.unfrozen i none
    have r0 := hRr.cell' (i := 0) (v := .slice none 0 0) (by decide) rfl
    have r1 := hRr.cell' (i := 1) (v := .int .i64 0) (by decide) rfl
    have r2 := hRr.cell' (i := 2) (v := .int .i64 0) (by decide) rfl
    have r3 := hRr.cell' (i := 3) (v := .int .i64 0) (by decide) rfl
    have rf := fun i => hRr.unfrozen i none
    have HS6 := Lib.hid hS6
    have Hu6 := Lib.hid hu6
    have HL := Lib.hid hL
    have Hwr := Lib.hid hwr
    have Hsz' := Lib.hid hsz'
    clear hRa hRr hS6 hu6 hL hwr hsz'
    refine wp_region_held_drew (S := (fun w' => w'.cell? ⟨sk, 0, none⟩ = some (.slice av L ac) ∧ w'.cell? ⟨sk, 1, none⟩ = some (.int .i64 (wr : Nat)))) (by kernel_rfl) ((by exact ⟨k0, k1⟩)) (fun hHeld => ?_)
    refine takeH 0 (v := ?_) rfl rfl (by kernel_rfl) (by kernel_rfl) (by kernel_rfl) (fun _ _ _ h => h) (Or.inl ⟨by rfl, ?_⟩) (by assumption) ?_
    rotate_left
    · (intro w hSw; (try dsimp only at hSw); go_simp <;> with_reducible rfl)
    simp only [List.setIfInBounds_toArray, List.set_cons_zero, List.set_cons_succ]
    refine takeH 1 (v := ?_) rfl rfl (by kernel_rfl) (by kernel_rfl) (by kernel_rfl) (fun _ _ _ h => h) (Or.inl ⟨by rfl, ?_⟩) (by assumption) ?_
    rotate_left
    · (intro w hSw; (try dsimp only at hSw); go_simp <;> with_reducible rfl)
    simp only [List.setIfInBounds_toArray, List.set_cons_zero, List.set_cons_succ]
    refine takeH 2 (v := ?_) rfl rfl (by kernel_rfl) (by kernel_rfl) (by kernel_rfl) (fun _ _ _ h => h) (Or.inl ⟨by rfl, ?_⟩) (by assumption) ?_
    rotate_left
    · (intro w hSw; (try dsimp only at hSw); go_simp <;> with_reducible rfl)
    simp only [List.setIfInBounds_toArray, List.set_cons_zero, List.set_cons_succ]
    refine takeH 3 (v := ?_) rfl rfl (by kernel_rfl) (by kernel_rfl) (by kernel_rfl) (fun _ _ _ h => h) (Or.inl ⟨by rfl, ?_⟩) (by assumption) ?_
    rotate_left
    · (intro w hSw; (try dsimp only at hSw); go_simp <;> with_reducible rfl)
    simp only [List.setIfInBounds_toArray, List.set_cons_zero, List.set_cons_succ]
    refine takeH 4 (v := ?_) rfl rfl (by kernel_rfl) (by kernel_rfl) (by kernel_rfl) (fun _ _ _ h => h) (Or.inl ⟨by rfl, ?_⟩) (by assumption) ?_
    rotate_left
    · (intro w hSw; (try dsimp only at hSw); go_simp <;> with_reducible rfl)
    simp only [List.setIfInBounds_toArray, List.set_cons_zero, List.set_cons_succ]
    refine takeH 5 (v := ?_) rfl rfl (by kernel_rfl) (by kernel_rfl) (by kernel_rfl) (fun _ _ _ h => h) (Or.inl ⟨by rfl, ?_⟩) (by assumption) ?_
    rotate_left
    · (intro w hSw; (try dsimp only at hSw); go_simp <;> with_reducible rfl)
    simp only [List.setIfInBounds_toArray, List.set_cons_zero, List.set_cons_succ]
    refine takeH 6 (v := ?_) rfl rfl (by kernel_rfl) (by kernel_rfl) (by kernel_rfl) (fun _ _ _ h => h) (Or.inl ⟨by rfl, ?_⟩) (by assumption) ?_
    rotate_left
    · (intro w hSw; (try dsimp only at hSw); go_simp <;> with_reducible rfl)
    simp only [List.setIfInBounds_toArray, List.set_cons_zero, List.set_cons_succ]
    refine takeH 7 (v := ?_) rfl rfl (by kernel_rfl) (by kernel_rfl) (by kernel_rfl) (fun _ _ _ h => h) (Or.inl ⟨by rfl, ?_⟩) (by assumption) ?_
    rotate_left
    · (intro w hSw; (try dsimp only at hSw); go_simp <;> with_reducible rfl)
    simp only [List.setIfInBounds_toArray, List.set_cons_zero, List.set_cons_succ]
    refine takeH 8 (v := ?_) rfl rfl (by kernel_rfl) (by kernel_rfl) (by kernel_rfl) (fun _ _ _ h => h) (Or.inl ⟨by rfl, ?_⟩) (by assumption) ?_
    rotate_left
    · (intro w hSw; (try dsimp only at hSw); go_simp <;> with_reducible rfl)
    simp only [List.setIfInBounds_toArray, List.set_cons_zero, List.set_cons_succ]
    refine wpAnyH_ready (rs := [9]) (by kernel_rfl) (by simp) ?_
    refine AllReadyH.cons rfl (fun K hK => ?_) AllReadyH.nil
    go_simp
    refine hK.out _ _ (by exact ⟨(cell_other hne2).trans k0, (cell_other hne2).trans k1⟩) (fun hHeld => ?_)
    clear hK K
    refine takeH 10 (v := ?_) rfl rfl (by kernel_rfl) (by kernel_rfl) (by kernel_rfl) (fun _ _ _ h => h) (Or.inl ⟨by rfl, ?_⟩) (by assumption) ?_
    rotate_left
    · (intro w hSw; (try dsimp only at hSw); go_simp <;> with_reducible rfl)
    simp only [List.setIfInBounds_toArray, List.set_cons_zero, List.set_cons_succ]
    refine wpAnyH_ready (rs := [11]) (by kernel_rfl) (by simp) ?_
    refine AllReadyH.cons rfl (fun K hK => ?_) AllReadyH.nil
    go_simp
    refine hK.out _ _ (by exact ⟨(cell_other hne2).trans ((cell_other hne2).trans k0), (cell_other hne2).trans ((cell_other hne2).trans k1)⟩) (fun hHeld => ?_)
    clear hK K
    refine wpAnyH_done (by kernel_rfl) ?_ _
    clear hHeld
    go_wp2_with fail
    (try simp only [Exit.inBlock, Exit.then])
    refine bodyPost_ret (v := .agg (ansA (.slice av L ac) wr sz)) ?_ rfl ?_
    · simp only [results, Tryd.results17]
      go_simp
      rfl
    have hne6 : N1 ≠ sk := Ne.symm hne3
    have m2 : N2 = sk ∨ N2 = w.heap.size + 1 ∨ N2 = w.heap.size + 2 := Or.inr (Or.inr HN2.out)
    have m1 : N1 = sk ∨ N1 = w.heap.size + 1 ∨ N1 = w.heap.size + 2 := Or.inr (Or.inl HN1.out)
    have m0 : sk = sk ∨ sk = w.heap.size + 1 ∨ sk = w.heap.size + 2 := Or.inl rfl
    rw [HL.out, Hwr.out, Hsz'.out, show cmdOf 0 f n = .field f from rfl]
    refine HMid.out.close Hlo.out Hns.out hskl ?_ ?_
    · exact Upd.drew ((((((((Hu6.out.setCell (Or.inl m2) _).setCell (Or.inl m2) _).setCell (Or.inl m0) _).setCell (Or.inl m0) _).setCell (Or.inl m1) _).setCell (Or.inl m1) _).setCell (Or.inl m1) _).setCell (Or.inl m1) _)
    · exact sinkEmpty_end hne6 hne2 HS6.out
  · have hk0 : decide (kind = 0) = false := decide_eq_false h0
    have hsI : IntKind.u32.wrap (n : Int) = (n : Int) := by simp only [IntKind.wrap, IntKind.bits, IntKind.signed]; simp; omega
    by_cases h1 : kind = 1
    · subst h1
      go_wp2_with fail
      refine (setSize_any B _ d sk n s p (by exact HE0.out) Hok.out hcnt (by omega)).mono ?_
      rintro e w5 ⟨rfl, p', hE5, h12, hu5, hev5, hm1, hm2, hnum5⟩
      obtain ⟨a, ha⟩ : ∃ a : HD.EAns, a = ⟨[], 0, 0⟩ := ⟨_, rfl⟩
      obtain ⟨av, hav⟩ : ∃ av : Option Addr, av = none := ⟨_, rfl⟩
      obtain ⟨ac, hac⟩ : ∃ ac, ac = 0 := ⟨_, rfl⟩
      have hoo : ∀ k, p'.own d k → p.own d k := fun k hk => by
        rcases hk with (h | h | h | h) | h
        · exact Or.inl (Or.inl h)
        · exact Or.inl (Or.inr (Or.inl (by rw [← hev5]; exact h)))
        · exact Or.inl (Or.inr (Or.inr (Or.inl (h.trans hm1))))
        · exact Or.inl (Or.inr (Or.inr (Or.inr (h.trans hm2))))
        · exact Or.inr (by rw [← h12]; exact h)
      have hkk : ∀ k, k < W0.heap.size → ¬ tabOwn d p.ev p.m1 p.m2 k → w5.heap[k]? = W0.heap[k]? := fun k h1 h2 => hu5.block k h1 h2
      have hnew : ∀ k, w.heap.size < k → ¬ tabOwn d p.ev p.m1 p.m2 k := fun k h1 h2 => by have := Hlo.out k (Or.inl h2); omega
      have hMid : Mid B w w5 d sk (.size n) s p a (HD.setSize s n) p' av ac := by
        subst ha hav hac
        refine ⟨.size s n, hE5, ⟨bn, bxs, ?_⟩, (hkk sk (Lib.lt_of_heap HS0.out) (fun h => Hns.out (Or.inl h))).trans HS0.out, World.ownsRow_nil _ _ _ _, (fun g h => by cases h), (Upd.of_below Hb0.out).step (hu5.mono fun i hi => Or.inl (Or.inl hi)), fun k hk => ⟨Or.inl (hoo k hk), ?_⟩, by omega⟩
        · rw [h12]
          exact ownsRow_of_heap HB0.out fun g hg => hkk g (HB0.out.lt g hg).2 (fun h => by
            obtain ⟨c, fz, hkd⟩ := Lib.ownsRow_kind HB0.out g hg
            exact tab_not_u8 HE0.out.tab hkd h)
        · have h1 := Hlo.out k (hoo k hk)
          have h2 := Hb0.out.size
          have h3 := hu5.size
          omega
      have hra5 := Ha0.out.of_heap (hkk N2 (by have := HN2.out; have := Hs0.out; omega) (hnew N2 (by have := HN2.out; omega)))
      have hrr5 := Hr0.out.of_heap (hkk N1 (by have := HN1.out; have := Hs0.out; omega) (hnew N1 (by have := HN1.out; omega)))
      have Hra5 := Lib.hid hra5
      have Hrr5 := Lib.hid hrr5
      have HMid := Lib.hid hMid
      have hsz : a.size = 0 := by rw [ha]
      have Hsz := Lib.hid hsz
      clear hE5 h12 hu5 hev5 hm1 hm2 hnum5 ha hav hac hoo hkk hnew hMid hra5 hrr5 hsz
      go_upto_region 10 with (fail)
      have hRa := Hra5.out
      have hRr := Hrr5.out
      have hS6 := HMid.out.sink
      have hu6 : Upd (fun k => k = sk ∨ k = w.heap.size + 1 ∨ k = w.heap.size + 2) w5 w5 := Upd.refl _ _
      obtain ⟨W6, hW6⟩ : ∃ W, W = w5 := ⟨_, rfl⟩
      rw [← hW6] at hRa hRr hS6 ⊢
      have hu6 : Upd (fun k => k = sk ∨ k = w.heap.size + 1 ∨ k = w.heap.size + 2) w5 W6 := by rw [hW6]; exact hu6
      clear hW6
      obtain ⟨L, hL⟩ : ∃ L, L = a.bytes.length := ⟨_, rfl⟩
      obtain ⟨wr, hwr⟩ : ∃ x, x = a.writes := ⟨_, rfl⟩
      obtain ⟨sz, hsz'⟩ : ∃ x, x = a.size := ⟨_, rfl⟩
      have hne1 : sk ≠ N2 := by have := HN2.out; omega
      have hne2 : N2 ≠ sk := by have := HN2.out; omega
      have hne3 : sk ≠ N1 := by have := HN1.out; omega
      have hne4 : N1 ≠ N2 := by have := HN1.out; have := HN2.out; omega
      have hne5 : N2 ≠ N1 := by have := HN1.out; have := HN2.out; omega
      rw [← hL, ← hwr] at hS6
      have k0 : W6.cell? ⟨sk, 0, none⟩ = some (.slice av L ac) := (Lib.cell_of_heap hS6 0).trans rfl
      have k1 : W6.cell? ⟨sk, 1, none⟩ = some (.int .i64 (wr : Nat)) := (Lib.cell_of_heap hS6 1).trans rfl
      have kf := Lib.frozen_of_heap hS6
      have b0 := hRa.cell' (i := 0) (v := .slice none 0 0) (by decide) rfl
      have b1 := hRa.cell' (i := 1) (v := .int .i64 0) (by decide) rfl
      have b2 := hRa.cell' (i := 2) (v := .int .i64 (sz : Nat)) (by decide) (by rw [hsz', Hsz.out]; rfl)
      have b3 := hRa.cell' (i := 3) (v := .int .i64 0) (by decide) rfl
      have bf := fun i => hRa.unfrozen i none
      have r0 := hRr.cell' (i := 0) (v := .slice none 0 0) (by decide) rfl
      have r1 := hRr.cell' (i := 1) (v := .int .i64 0) (by decide) rfl
      have r2 := hRr.cell' (i := 2) (v := .int .i64 0) (by decide) rfl
      have r3 := hRr.cell' (i := 3) (v := .int .i64 0) (by decide) rfl
      have rf := fun i => hRr.unfrozen i none
      have HS6 := Lib.hid hS6
      have Hu6 := Lib.hid hu6
      have HL := Lib.hid hL
      have Hwr := Lib.hid hwr
      have Hsz' := Lib.hid hsz'
      clear hRa hRr hS6 hu6 hL hwr hsz'
      refine wp_region_held_drew (S := (fun w' => w'.cell? ⟨sk, 0, none⟩ = some (.slice av L ac) ∧ w'.cell? ⟨sk, 1, none⟩ = some (.int .i64 (wr : Nat)))) (by kernel_rfl) ((by exact ⟨k0, k1⟩)) (fun hHeld => ?_)
      refine takeH 0 (v := ?_) rfl rfl (by kernel_rfl) (by kernel_rfl) (by kernel_rfl) (fun _ _ _ h => h) (Or.inl ⟨by rfl, ?_⟩) (by assumption) ?_
      rotate_left
      · (intro w hSw; (try dsimp only at hSw); go_simp <;> with_reducible rfl)
      simp only [List.setIfInBounds_toArray, List.set_cons_zero, List.set_cons_succ]
      refine takeH 1 (v := ?_) rfl rfl (by kernel_rfl) (by kernel_rfl) (by kernel_rfl) (fun _ _ _ h => h) (Or.inl ⟨by rfl, ?_⟩) (by assumption) ?_
      rotate_left
      · (intro w hSw; (try dsimp only at hSw); go_simp <;> with_reducible rfl)
      simp only [List.setIfInBounds_toArray, List.set_cons_zero, List.set_cons_succ]
      refine takeH 2 (v := ?_) rfl rfl (by kernel_rfl) (by kernel_rfl) (by kernel_rfl) (fun _ _ _ h => h) (Or.inl ⟨by rfl, ?_⟩) (by assumption) ?_
      rotate_left
      · (intro w hSw; (try dsimp only at hSw); go_simp <;> with_reducible rfl)
      simp only [List.setIfInBounds_toArray, List.set_cons_zero, List.set_cons_succ]
      refine takeH 3 (v := ?_) rfl rfl (by kernel_rfl) (by kernel_rfl) (by kernel_rfl) (fun _ _ _ h => h) (Or.inl ⟨by rfl, ?_⟩) (by assumption) ?_
      rotate_left
      · (intro w hSw; (try dsimp only at hSw); go_simp <;> with_reducible rfl)
      simp only [List.setIfInBounds_toArray, List.set_cons_zero, List.set_cons_succ]
      refine takeH 4 (v := ?_) rfl rfl (by kernel_rfl) (by kernel_rfl) (by kernel_rfl) (fun _ _ _ h => h) (Or.inl ⟨by rfl, ?_⟩) (by assumption) ?_
      rotate_left
      · (intro w hSw; (try dsimp only at hSw); go_simp <;> with_reducible rfl)
      simp only [List.setIfInBounds_toArray, List.set_cons_zero, List.set_cons_succ]
      refine takeH 5 (v := ?_) rfl rfl (by kernel_rfl) (by kernel_rfl) (by kernel_rfl) (fun _ _ _ h => h) (Or.inl ⟨by rfl, ?_⟩) (by assumption) ?_
      rotate_left
      · (intro w hSw; (try dsimp only at hSw); go_simp <;> with_reducible rfl)
      simp only [List.setIfInBounds_toArray, List.set_cons_zero, List.set_cons_succ]
      refine takeH 6 (v := ?_) rfl rfl (by kernel_rfl) (by kernel_rfl) (by kernel_rfl) (fun _ _ _ h => h) (Or.inl ⟨by rfl, ?_⟩) (by assumption) ?_
      rotate_left
      · (intro w hSw; (try dsimp only at hSw); go_simp <;> with_reducible rfl)
      simp only [List.setIfInBounds_toArray, List.set_cons_zero, List.set_cons_succ]
      refine takeH 7 (v := ?_) rfl rfl (by kernel_rfl) (by kernel_rfl) (by kernel_rfl) (fun _ _ _ h => h) (Or.inl ⟨by rfl, ?_⟩) (by assumption) ?_
      rotate_left
      · (intro w hSw; (try dsimp only at hSw); go_simp <;> with_reducible rfl)
      simp only [List.setIfInBounds_toArray, List.set_cons_zero, List.set_cons_succ]
      refine takeH 8 (v := ?_) rfl rfl (by kernel_rfl) (by kernel_rfl) (by kernel_rfl) (fun _ _ _ h => h) (Or.inl ⟨by rfl, ?_⟩) (by assumption) ?_
      rotate_left
      · (intro w hSw; (try dsimp only at hSw); go_simp <;> with_reducible rfl)
      simp only [List.setIfInBounds_toArray, List.set_cons_zero, List.set_cons_succ]
      refine wpAnyH_ready (rs := [9]) (by kernel_rfl) (by simp) ?_
      refine AllReadyH.cons rfl (fun K hK => ?_) AllReadyH.nil
      go_simp
      refine hK.out _ _ (by exact ⟨(cell_other hne2).trans k0, (cell_other hne2).trans k1⟩) (fun hHeld => ?_)
      clear hK K
      refine takeH 10 (v := ?_) rfl rfl (by kernel_rfl) (by kernel_rfl) (by kernel_rfl) (fun _ _ _ h => h) (Or.inl ⟨by rfl, ?_⟩) (by assumption) ?_
      rotate_left
      · (intro w hSw; (try dsimp only at hSw); go_simp <;> with_reducible rfl)
      simp only [List.setIfInBounds_toArray, List.set_cons_zero, List.set_cons_succ]
      refine wpAnyH_ready (rs := [11]) (by kernel_rfl) (by simp) ?_
      refine AllReadyH.cons rfl (fun K hK => ?_) AllReadyH.nil
      go_simp
      refine hK.out _ _ (by exact ⟨(cell_other hne2).trans ((cell_other hne2).trans k0), (cell_other hne2).trans ((cell_other hne2).trans k1)⟩) (fun hHeld => ?_)
      clear hK K
      refine wpAnyH_done (by kernel_rfl) ?_ _
      clear hHeld
      go_wp2_with fail
      (try simp only [Exit.inBlock, Exit.then])
      refine bodyPost_ret (v := .agg (ansA (.slice av L ac) wr sz)) ?_ rfl ?_
      · simp only [results, Tryd.results17]
        go_simp
        rfl
      have hne6 : N1 ≠ sk := Ne.symm hne3
      have m2 : N2 = sk ∨ N2 = w.heap.size + 1 ∨ N2 = w.heap.size + 2 := Or.inr (Or.inr HN2.out)
      have m1 : N1 = sk ∨ N1 = w.heap.size + 1 ∨ N1 = w.heap.size + 2 := Or.inr (Or.inl HN1.out)
      have m0 : sk = sk ∨ sk = w.heap.size + 1 ∨ sk = w.heap.size + 2 := Or.inl rfl
      rw [HL.out, Hwr.out, Hsz'.out, show cmdOf 1 f n = .size n from rfl]
      refine HMid.out.close Hlo.out Hns.out hskl ?_ ?_
      · exact Upd.drew ((((((((Hu6.out.setCell (Or.inl m2) _).setCell (Or.inl m2) _).setCell (Or.inl m0) _).setCell (Or.inl m0) _).setCell (Or.inl m1) _).setCell (Or.inl m1) _).setCell (Or.inl m1) _).setCell (Or.inl m1) _)
      · exact sinkEmpty_end hne6 hne2 HS6.out
    · have hk1 : decide (kind = 1) = false := decide_eq_false h1
      by_cases h2 : kind = 2
      · subst h2
        go_wp2_with fail
        refine (setLimit_any B _ d sk n s p (by exact HE0.out) Hok.out hcnt (by omega)).mono ?_
        rintro e w5 ⟨rfl, p', hE5, h12, hu5, hev5, hm1, hm2, hnum5⟩
        obtain ⟨a, ha⟩ : ∃ a : HD.EAns, a = ⟨[], 0, 0⟩ := ⟨_, rfl⟩
        obtain ⟨av, hav⟩ : ∃ av : Option Addr, av = none := ⟨_, rfl⟩
        obtain ⟨ac, hac⟩ : ∃ ac, ac = 0 := ⟨_, rfl⟩
        have hoo : ∀ k, p'.own d k → p.own d k := fun k hk => by
          rcases hk with (h | h | h | h) | h
          · exact Or.inl (Or.inl h)
          · exact Or.inl (Or.inr (Or.inl (by rw [← hev5]; exact h)))
          · exact Or.inl (Or.inr (Or.inr (Or.inl (h.trans hm1))))
          · exact Or.inl (Or.inr (Or.inr (Or.inr (h.trans hm2))))
          · exact Or.inr (by rw [← h12]; exact h)
        have hkk : ∀ k, k < W0.heap.size → ¬ tabOwn d p.ev p.m1 p.m2 k → w5.heap[k]? = W0.heap[k]? := fun k h1 h2 => hu5.block k h1 h2
        have hnew : ∀ k, w.heap.size < k → ¬ tabOwn d p.ev p.m1 p.m2 k := fun k h1 h2 => by have := Hlo.out k (Or.inl h2); omega
        have hMid : Mid B w w5 d sk (.limit n) s p a (HD.setLimit s n) p' av ac := by
          subst ha hav hac
          refine ⟨.limit s n, hE5, ⟨bn, bxs, ?_⟩, (hkk sk (Lib.lt_of_heap HS0.out) (fun h => Hns.out (Or.inl h))).trans HS0.out, World.ownsRow_nil _ _ _ _, (fun g h => by cases h), (Upd.of_below Hb0.out).step (hu5.mono fun i hi => Or.inl (Or.inl hi)), fun k hk => ⟨Or.inl (hoo k hk), ?_⟩, by omega⟩
          · rw [h12]
            exact ownsRow_of_heap HB0.out fun g hg => hkk g (HB0.out.lt g hg).2 (fun h => by
              obtain ⟨c, fz, hkd⟩ := Lib.ownsRow_kind HB0.out g hg
              exact tab_not_u8 HE0.out.tab hkd h)
          · have h1 := Hlo.out k (hoo k hk)
            have h2 := Hb0.out.size
            have h3 := hu5.size
            omega
        have hra5 := Ha0.out.of_heap (hkk N2 (by have := HN2.out; have := Hs0.out; omega) (hnew N2 (by have := HN2.out; omega)))
        have hrr5 := Hr0.out.of_heap (hkk N1 (by have := HN1.out; have := Hs0.out; omega) (hnew N1 (by have := HN1.out; omega)))
        have Hra5 := Lib.hid hra5
        have Hrr5 := Lib.hid hrr5
        have HMid := Lib.hid hMid
        have hsz : a.size = 0 := by rw [ha]
        have Hsz := Lib.hid hsz
        clear hE5 h12 hu5 hev5 hm1 hm2 hnum5 ha hav hac hoo hkk hnew hMid hra5 hrr5 hsz
        go_upto_region 10 with (fail)
        have hRa := Hra5.out
        have hRr := Hrr5.out
        have hS6 := HMid.out.sink
        have hu6 : Upd (fun k => k = sk ∨ k = w.heap.size + 1 ∨ k = w.heap.size + 2) w5 w5 := Upd.refl _ _
        obtain ⟨W6, hW6⟩ : ∃ W, W = w5 := ⟨_, rfl⟩
        rw [← hW6] at hRa hRr hS6 ⊢
        have hu6 : Upd (fun k => k = sk ∨ k = w.heap.size + 1 ∨ k = w.heap.size + 2) w5 W6 := by rw [hW6]; exact hu6
        clear hW6
        obtain ⟨L, hL⟩ : ∃ L, L = a.bytes.length := ⟨_, rfl⟩
        obtain ⟨wr, hwr⟩ : ∃ x, x = a.writes := ⟨_, rfl⟩
        obtain ⟨sz, hsz'⟩ : ∃ x, x = a.size := ⟨_, rfl⟩
        have hne1 : sk ≠ N2 := by have := HN2.out; omega
        have hne2 : N2 ≠ sk := by have := HN2.out; omega
        have hne3 : sk ≠ N1 := by have := HN1.out; omega
        have hne4 : N1 ≠ N2 := by have := HN1.out; have := HN2.out; omega
        have hne5 : N2 ≠ N1 := by have := HN1.out; have := HN2.out; omega
        rw [← hL, ← hwr] at hS6
        have k0 : W6.cell? ⟨sk, 0, none⟩ = some (.slice av L ac) := (Lib.cell_of_heap hS6 0).trans rfl
        have k1 : W6.cell? ⟨sk, 1, none⟩ = some (.int .i64 (wr : Nat)) := (Lib.cell_of_heap hS6 1).trans rfl
        have kf := Lib.frozen_of_heap hS6
        have b0 := hRa.cell' (i := 0) (v := .slice none 0 0) (by decide) rfl
        have b1 := hRa.cell' (i := 1) (v := .int .i64 0) (by decide) rfl
        have b2 := hRa.cell' (i := 2) (v := .int .i64 (sz : Nat)) (by decide) (by rw [hsz', Hsz.out]; rfl)
        have b3 := hRa.cell' (i := 3) (v := .int .i64 0) (by decide) rfl
        have bf := fun i => hRa.unfrozen i none
        have r0 := hRr.cell' (i := 0) (v := .slice none 0 0) (by decide) rfl
        have r1 := hRr.cell' (i := 1) (v := .int .i64 0) (by decide) rfl
        have r2 := hRr.cell' (i := 2) (v := .int .i64 0) (by decide) rfl
        have r3 := hRr.cell' (i := 3) (v := .int .i64 0) (by decide) rfl
        have rf := fun i => hRr.unfrozen i none
        have HS6 := Lib.hid hS6
        have Hu6 := Lib.hid hu6
        have HL := Lib.hid hL
        have Hwr := Lib.hid hwr
        have Hsz' := Lib.hid hsz'
        clear hRa hRr hS6 hu6 hL hwr hsz'
        refine wp_region_held_drew (S := (fun w' => w'.cell? ⟨sk, 0, none⟩ = some (.slice av L ac) ∧ w'.cell? ⟨sk, 1, none⟩ = some (.int .i64 (wr : Nat)))) (by kernel_rfl) ((by exact ⟨k0, k1⟩)) (fun hHeld => ?_)
        refine takeH 0 (v := ?_) rfl rfl (by kernel_rfl) (by kernel_rfl) (by kernel_rfl) (fun _ _ _ h => h) (Or.inl ⟨by rfl, ?_⟩) (by assumption) ?_
        rotate_left
        · (intro w hSw; (try dsimp only at hSw); go_simp <;> with_reducible rfl)
        simp only [List.setIfInBounds_toArray, List.set_cons_zero, List.set_cons_succ]
        refine takeH 1 (v := ?_) rfl rfl (by kernel_rfl) (by kernel_rfl) (by kernel_rfl) (fun _ _ _ h => h) (Or.inl ⟨by rfl, ?_⟩) (by assumption) ?_
        rotate_left
        · (intro w hSw; (try dsimp only at hSw); go_simp <;> with_reducible rfl)
        simp only [List.setIfInBounds_toArray, List.set_cons_zero, List.set_cons_succ]
        refine takeH 2 (v := ?_) rfl rfl (by kernel_rfl) (by kernel_rfl) (by kernel_rfl) (fun _ _ _ h => h) (Or.inl ⟨by rfl, ?_⟩) (by assumption) ?_
        rotate_left
        · (intro w hSw; (try dsimp only at hSw); go_simp <;> with_reducible rfl)
        simp only [List.setIfInBounds_toArray, List.set_cons_zero, List.set_cons_succ]
        refine takeH 3 (v := ?_) rfl rfl (by kernel_rfl) (by kernel_rfl) (by kernel_rfl) (fun _ _ _ h => h) (Or.inl ⟨by rfl, ?_⟩) (by assumption) ?_
        rotate_left
        · (intro w hSw; (try dsimp only at hSw); go_simp <;> with_reducible rfl)
        simp only [List.setIfInBounds_toArray, List.set_cons_zero, List.set_cons_succ]
        refine takeH 4 (v := ?_) rfl rfl (by kernel_rfl) (by kernel_rfl) (by kernel_rfl) (fun _ _ _ h => h) (Or.inl ⟨by rfl, ?_⟩) (by assumption) ?_
        rotate_left
        · (intro w hSw; (try dsimp only at hSw); go_simp <;> with_reducible rfl)
        simp only [List.setIfInBounds_toArray, List.set_cons_zero, List.set_cons_succ]
        refine takeH 5 (v := ?_) rfl rfl (by kernel_rfl) (by kernel_rfl) (by kernel_rfl) (fun _ _ _ h => h) (Or.inl ⟨by rfl, ?_⟩) (by assumption) ?_
        rotate_left
        · (intro w hSw; (try dsimp only at hSw); go_simp <;> with_reducible rfl)
        simp only [List.setIfInBounds_toArray, List.set_cons_zero, List.set_cons_succ]
        refine takeH 6 (v := ?_) rfl rfl (by kernel_rfl) (by kernel_rfl) (by kernel_rfl) (fun _ _ _ h => h) (Or.inl ⟨by rfl, ?_⟩) (by assumption) ?_
        rotate_left
        · (intro w hSw; (try dsimp only at hSw); go_simp <;> with_reducible rfl)
        simp only [List.setIfInBounds_toArray, List.set_cons_zero, List.set_cons_succ]
        refine takeH 7 (v := ?_) rfl rfl (by kernel_rfl) (by kernel_rfl) (by kernel_rfl) (fun _ _ _ h => h) (Or.inl ⟨by rfl, ?_⟩) (by assumption) ?_
        rotate_left
        · (intro w hSw; (try dsimp only at hSw); go_simp <;> with_reducible rfl)
        simp only [List.setIfInBounds_toArray, List.set_cons_zero, List.set_cons_succ]
        refine takeH 8 (v := ?_) rfl rfl (by kernel_rfl) (by kernel_rfl) (by kernel_rfl) (fun _ _ _ h => h) (Or.inl ⟨by rfl, ?_⟩) (by assumption) ?_
        rotate_left
        · (intro w hSw; (try dsimp only at hSw); go_simp <;> with_reducible rfl)
        simp only [List.setIfInBounds_toArray, List.set_cons_zero, List.set_cons_succ]
        refine wpAnyH_ready (rs := [9]) (by kernel_rfl) (by simp) ?_
        refine AllReadyH.cons rfl (fun K hK => ?_) AllReadyH.nil
        go_simp
        refine hK.out _ _ (by exact ⟨(cell_other hne2).trans k0, (cell_other hne2).trans k1⟩) (fun hHeld => ?_)
        clear hK K
        refine takeH 10 (v := ?_) rfl rfl (by kernel_rfl) (by kernel_rfl) (by kernel_rfl) (fun _ _ _ h => h) (Or.inl ⟨by rfl, ?_⟩) (by assumption) ?_
        rotate_left
        · (intro w hSw; (try dsimp only at hSw); go_simp <;> with_reducible rfl)
        simp only [List.setIfInBounds_toArray, List.set_cons_zero, List.set_cons_succ]
        refine wpAnyH_ready (rs := [11]) (by kernel_rfl) (by simp) ?_
        refine AllReadyH.cons rfl (fun K hK => ?_) AllReadyH.nil
        go_simp
        refine hK.out _ _ (by exact ⟨(cell_other hne2).trans ((cell_other hne2).trans k0), (cell_other hne2).trans ((cell_other hne2).trans k1)⟩) (fun hHeld => ?_)
        clear hK K
        refine wpAnyH_done (by kernel_rfl) ?_ _
        clear hHeld
        go_wp2_with fail
        (try simp only [Exit.inBlock, Exit.then])
        refine bodyPost_ret (v := .agg (ansA (.slice av L ac) wr sz)) ?_ rfl ?_
        · simp only [results, Tryd.results17]
          go_simp
          rfl
        have hne6 : N1 ≠ sk := Ne.symm hne3
        have m2 : N2 = sk ∨ N2 = w.heap.size + 1 ∨ N2 = w.heap.size + 2 := Or.inr (Or.inr HN2.out)
        have m1 : N1 = sk ∨ N1 = w.heap.size + 1 ∨ N1 = w.heap.size + 2 := Or.inr (Or.inl HN1.out)
        have m0 : sk = sk ∨ sk = w.heap.size + 1 ∨ sk = w.heap.size + 2 := Or.inl rfl
        rw [HL.out, Hwr.out, Hsz'.out, show cmdOf 2 f n = .limit n from rfl]
        refine HMid.out.close Hlo.out Hns.out hskl ?_ ?_
        · exact Upd.drew ((((((((Hu6.out.setCell (Or.inl m2) _).setCell (Or.inl m2) _).setCell (Or.inl m0) _).setCell (Or.inl m0) _).setCell (Or.inl m1) _).setCell (Or.inl m1) _).setCell (Or.inl m1) _).setCell (Or.inl m1) _)
        · exact sinkEmpty_end hne6 hne2 HS6.out
      · have hk2 : decide (kind = 2) = false := decide_eq_false h2
        have hcm : cmdOf kind f n = .ask := by unfold cmdOf; rw [if_neg h0, if_neg h1, if_neg h2]
        have Hcm := Lib.hid hcm
        have hmx := Hok.out.max
        have q6 := HE0.out.tab.row.cell' (i := 6) (by decide) HE0.out.sized.max
        have a2 := Ha0.out.cell' (i := 2) (v := .int .i64 0) (by decide) rfl
        have fza := fun i => Ha0.out.unfrozen i none
        clear hcm
        go_wp2_with fail
        refine (maxSize_any d s.max _ (by exact q6)).mono ?_
        rintro e w5 ⟨rfl, rfl⟩
        obtain ⟨a, ha⟩ : ∃ a : HD.EAns, a = ⟨[], 0, s.max⟩ := ⟨_, rfl⟩
        obtain ⟨av, hav⟩ : ∃ av : Option Addr, av = none := ⟨_, rfl⟩
        obtain ⟨ac, hac⟩ : ∃ ac, ac = 0 := ⟨_, rfl⟩
        have hMid : Mid B w W0 d sk .ask s p a s p av ac := by
          subst ha hav hac
          exact ⟨.ask s, HE0.out, ⟨_, _, HB0.out⟩, HS0.out, World.ownsRow_nil _ _ _ _, (fun g h => by cases h), Upd.of_below Hb0.out, fun k hk => ⟨Or.inl hk, Nat.lt_of_lt_of_le (Hlo.out k hk) Hb0.out.size⟩, by omega⟩
        have HMid := Lib.hid hMid
        have hsz : a.size = s.max := by rw [ha]
        have Hsz := Lib.hid hsz
        clear ha hav hac hMid hsz
        go_upto_region 10 with (fail)
        have hRa := Ha0.out.set 2 (.int .i64 (s.max : Nat))
        have hRr := Hr0.out.setOther (a := ⟨N2, 2, none⟩) (by show N1 ≠ N2; have := HN1.out; have := HN2.out; omega) (.int .i64 (s.max : Nat))
        have hS6 := (other_set (w := W0) (b := N2) (i := sk) (j := 2) (v := .int .i64 (s.max : Nat)) (by have := HN2.out; omega)).trans HMid.out.sink
        have hu6 : Upd (fun k => k = sk ∨ k = w.heap.size + 1 ∨ k = w.heap.size + 2) W0 (W0.setCell ⟨N2, 2, none⟩ (.int .i64 (s.max : Nat))) := (Upd.refl _ W0).setCell (Or.inl (Or.inr (Or.inr HN2.out))) _
        generalize W0.setCell ⟨N2, 2, none⟩ (.int .i64 (s.max : Nat)) = W6 at hRa hRr hS6 hu6 ⊢
        clear q6 a2 fza
        obtain ⟨L, hL⟩ : ∃ L, L = a.bytes.length := ⟨_, rfl⟩
        obtain ⟨wr, hwr⟩ : ∃ x, x = a.writes := ⟨_, rfl⟩
        obtain ⟨sz, hsz'⟩ : ∃ x, x = a.size := ⟨_, rfl⟩
        have hne1 : sk ≠ N2 := by have := HN2.out; omega
        have hne2 : N2 ≠ sk := by have := HN2.out; omega
        have hne3 : sk ≠ N1 := by have := HN1.out; omega
        have hne4 : N1 ≠ N2 := by have := HN1.out; have := HN2.out; omega
        have hne5 : N2 ≠ N1 := by have := HN1.out; have := HN2.out; omega
        rw [← hL, ← hwr] at hS6
        have k0 : W6.cell? ⟨sk, 0, none⟩ = some (.slice av L ac) := (Lib.cell_of_heap hS6 0).trans rfl
        have k1 : W6.cell? ⟨sk, 1, none⟩ = some (.int .i64 (wr : Nat)) := (Lib.cell_of_heap hS6 1).trans rfl
        have kf := Lib.frozen_of_heap hS6
        have b0 := hRa.cell' (i := 0) (v := .slice none 0 0) (by decide) rfl
        have b1 := hRa.cell' (i := 1) (v := .int .i64 0) (by decide) rfl
        have b2 := hRa.cell' (i := 2) (v := .int .i64 (sz : Nat)) (by decide) (by rw [hsz', Hsz.out]; rfl)
        have b3 := hRa.cell' (i := 3) (v := .int .i64 0) (by decide) rfl
        have bf := fun i => hRa.unfrozen i none
        have r0 := hRr.cell' (i := 0) (v := .slice none 0 0) (by decide) rfl
        have r1 := hRr.cell' (i := 1) (v := .int .i64 0) (by decide) rfl
        have r2 := hRr.cell' (i := 2) (v := .int .i64 0) (by decide) rfl
        have r3 := hRr.cell' (i := 3) (v := .int .i64 0) (by decide) rfl
        have rf := fun i => hRr.unfrozen i none
        have HS6 := Lib.hid hS6
        have Hu6 := Lib.hid hu6
        have HL := Lib.hid hL
        have Hwr := Lib.hid hwr
        have Hsz' := Lib.hid hsz'
        clear hRa hRr hS6 hu6 hL hwr hsz'
        refine wp_region_held_drew (S := (fun w' => w'.cell? ⟨sk, 0, none⟩ = some (.slice av L ac) ∧ w'.cell? ⟨sk, 1, none⟩ = some (.int .i64 (wr : Nat)))) (by kernel_rfl) ((by exact ⟨k0, k1⟩)) (fun hHeld => ?_)
        refine takeH 0 (v := ?_) rfl rfl (by kernel_rfl) (by kernel_rfl) (by kernel_rfl) (fun _ _ _ h => h) (Or.inl ⟨by rfl, ?_⟩) (by assumption) ?_
        rotate_left
        · (intro w hSw; (try dsimp only at hSw); go_simp <;> with_reducible rfl)
        simp only [List.setIfInBounds_toArray, List.set_cons_zero, List.set_cons_succ]
        refine takeH 1 (v := ?_) rfl rfl (by kernel_rfl) (by kernel_rfl) (by kernel_rfl) (fun _ _ _ h => h) (Or.inl ⟨by rfl, ?_⟩) (by assumption) ?_
        rotate_left
        · (intro w hSw; (try dsimp only at hSw); go_simp <;> with_reducible rfl)
        simp only [List.setIfInBounds_toArray, List.set_cons_zero, List.set_cons_succ]
        refine takeH 2 (v := ?_) rfl rfl (by kernel_rfl) (by kernel_rfl) (by kernel_rfl) (fun _ _ _ h => h) (Or.inl ⟨by rfl, ?_⟩) (by assumption) ?_
        rotate_left
        · (intro w hSw; (try dsimp only at hSw); go_simp <;> with_reducible rfl)
        simp only [List.setIfInBounds_toArray, List.set_cons_zero, List.set_cons_succ]
        refine takeH 3 (v := ?_) rfl rfl (by kernel_rfl) (by kernel_rfl) (by kernel_rfl) (fun _ _ _ h => h) (Or.inl ⟨by rfl, ?_⟩) (by assumption) ?_
        rotate_left
        · (intro w hSw; (try dsimp only at hSw); go_simp <;> with_reducible rfl)
        simp only [List.setIfInBounds_toArray, List.set_cons_zero, List.set_cons_succ]
        refine takeH 4 (v := ?_) rfl rfl (by kernel_rfl) (by kernel_rfl) (by kernel_rfl) (fun _ _ _ h => h) (Or.inl ⟨by rfl, ?_⟩) (by assumption) ?_
        rotate_left
        · (intro w hSw; (try dsimp only at hSw); go_simp <;> with_reducible rfl)
        simp only [List.setIfInBounds_toArray, List.set_cons_zero, List.set_cons_succ]
        refine takeH 5 (v := ?_) rfl rfl (by kernel_rfl) (by kernel_rfl) (by kernel_rfl) (fun _ _ _ h => h) (Or.inl ⟨by rfl, ?_⟩) (by assumption) ?_
        rotate_left
        · (intro w hSw; (try dsimp only at hSw); go_simp <;> with_reducible rfl)
        simp only [List.setIfInBounds_toArray, List.set_cons_zero, List.set_cons_succ]
        refine takeH 6 (v := ?_) rfl rfl (by kernel_rfl) (by kernel_rfl) (by kernel_rfl) (fun _ _ _ h => h) (Or.inl ⟨by rfl, ?_⟩) (by assumption) ?_
        rotate_left
        · (intro w hSw; (try dsimp only at hSw); go_simp <;> with_reducible rfl)
        simp only [List.setIfInBounds_toArray, List.set_cons_zero, List.set_cons_succ]
        refine takeH 7 (v := ?_) rfl rfl (by kernel_rfl) (by kernel_rfl) (by kernel_rfl) (fun _ _ _ h => h) (Or.inl ⟨by rfl, ?_⟩) (by assumption) ?_
        rotate_left
        · (intro w hSw; (try dsimp only at hSw); go_simp <;> with_reducible rfl)
        simp only [List.setIfInBounds_toArray, List.set_cons_zero, List.set_cons_succ]
        refine takeH 8 (v := ?_) rfl rfl (by kernel_rfl) (by kernel_rfl) (by kernel_rfl) (fun _ _ _ h => h) (Or.inl ⟨by rfl, ?_⟩) (by assumption) ?_
        rotate_left
        · (intro w hSw; (try dsimp only at hSw); go_simp <;> with_reducible rfl)
        simp only [List.setIfInBounds_toArray, List.set_cons_zero, List.set_cons_succ]
        refine wpAnyH_ready (rs := [9]) (by kernel_rfl) (by simp) ?_
        refine AllReadyH.cons rfl (fun K hK => ?_) AllReadyH.nil
        go_simp
        refine hK.out _ _ (by exact ⟨(cell_other hne2).trans k0, (cell_other hne2).trans k1⟩) (fun hHeld => ?_)
        clear hK K
        refine takeH 10 (v := ?_) rfl rfl (by kernel_rfl) (by kernel_rfl) (by kernel_rfl) (fun _ _ _ h => h) (Or.inl ⟨by rfl, ?_⟩) (by assumption) ?_
        rotate_left
        · (intro w hSw; (try dsimp only at hSw); go_simp <;> with_reducible rfl)
        simp only [List.setIfInBounds_toArray, List.set_cons_zero, List.set_cons_succ]
        refine wpAnyH_ready (rs := [11]) (by kernel_rfl) (by simp) ?_
        refine AllReadyH.cons rfl (fun K hK => ?_) AllReadyH.nil
        go_simp
        refine hK.out _ _ (by exact ⟨(cell_other hne2).trans ((cell_other hne2).trans k0), (cell_other hne2).trans ((cell_other hne2).trans k1)⟩) (fun hHeld => ?_)
        clear hK K
        refine wpAnyH_done (by kernel_rfl) ?_ _
        clear hHeld
        go_wp2_with fail
        (try simp only [Exit.inBlock, Exit.then])
        refine bodyPost_ret (v := .agg (ansA (.slice av L ac) wr sz)) ?_ rfl ?_
        · simp only [results, Tryd.results17]
          go_simp
          rfl
        have hne6 : N1 ≠ sk := Ne.symm hne3
        have m2 : N2 = sk ∨ N2 = w.heap.size + 1 ∨ N2 = w.heap.size + 2 := Or.inr (Or.inr HN2.out)
        have m1 : N1 = sk ∨ N1 = w.heap.size + 1 ∨ N1 = w.heap.size + 2 := Or.inr (Or.inl HN1.out)
        have m0 : sk = sk ∨ sk = w.heap.size + 1 ∨ sk = w.heap.size + 2 := Or.inl rfl
        rw [HL.out, Hwr.out, Hsz'.out, Hcm.out]
        refine HMid.out.close Hlo.out Hns.out hskl ?_ ?_
        · exact Upd.drew ((((((((Hu6.out.setCell (Or.inl m2) _).setCell (Or.inl m2) _).setCell (Or.inl m0) _).setCell (Or.inl m0) _).setCell (Or.inl m1) _).setCell (Or.inl m1) _).setCell (Or.inl m1) _).setCell (Or.inl m1) _)
        · exact sinkEmpty_end hne6 hne2 HS6.out
end Go.Proofs.YtjdmaflkafmmpaaDoor
/-
  The contract of impl.Encode.
-/
namespace Go.Proofs.YtjdmaflkafmmpaaDoor
open Go.ChangeShapes Go.WideShapes Go.ChangeAt Go.RowKit

/-- A step as it is given. -/
structure StepR where
  kind : Int
  fld : HD.Fld
  size : Nat
def StepR.cmd (r : StepR) : HD.ECmd := cmdOf r.kind r.fld r.size
def StepR.Fine (r : StepR) : Prop := r.fld.name.length + r.fld.value.length ≤ 1048576 ∧ r.size ≤ 2 ^ 31
theorem StepR.Fine.cmd {r : StepR} (h : r.Fine) : r.cmd.Fine := by
  unfold StepR.cmd cmdOf
  split
  · exact h.1
  · split
    · exact h.2
    · split
      · exact h.2
      · trivial
/-- The steps lie in memory. -/
def ESteps (w : World) (a : Option Addr) (ss : List StepR) : Prop := ss ≠ [] → ∃ g o, a = some ⟨g, o, none⟩ ∧ ∀ (i : Nat) (h : i < ss.length) (j : Nat) v, (stepA (ss[i]'h).kind (ss[i]'h).fld (ss[i]'h).size)[j]? = some v → w.cell? ⟨g, o + i * 5 + j, none⟩ = some v
/-- A slice of bytes, in a block of X. -/
def BRow (w : World) (X : Nat → Prop) (v : Value) (t : HD.Bs) : Prop := (v = .slice none 0 0 ∧ t = []) ∨ ∃ g cap, v = .slice (some ⟨g, 0, none⟩) t.length cap ∧ X g ∧ t.length ≤ cap ∧ cap ≤ maxLen ∧ ∀ j u, (Lib.byteCells t)[j]? = some u → w.cell? ⟨g, j, none⟩ = some u
theorem BRow.move {w w' : World} {X Y : Nat → Prop} {v : Value} {t : HD.Bs} (h : BRow w X v t) (hk : ∀ k, X k → w'.heap[k]? = w.heap[k]?) (hY : ∀ k, X k → Y k) : BRow w' Y v t :=
  h.imp id fun ⟨g, cap, e, hx, h1, h2, hc⟩ => ⟨g, cap, e, hY g hx, h1, h2, fun j u hu => (World.cell?_of_block (a := ⟨g, j, none⟩) (hk g hx)).trans (hc j u hu)⟩
theorem BRow.of_own {w : World} {B : Nat} {v : Value} {t : HD.Bs} (h : w.ownsRow B 5 1 v t.length (Lib.byteCells t)) {X : Nat → Prop} (hX : ∀ g, v.ownBlock = some g → X g) : BRow w X v t := by
  rcases h.2 with ⟨e, h0⟩ | ⟨g, cap, cur, e, hB, hg, h1, h2, -, -⟩
  · exact Or.inl ⟨e, List.eq_nil_of_length_eq_zero h0⟩
  · refine Or.inr ⟨g, cap, e, hX g (by rw [e]; rfl), h1, h2, fun j u hu => ?_⟩
    have := h.cells (g := g) (by rw [e]; rfl) j u hu
    rwa [Lib.addr_add, Nat.zero_add] at this
/-- An answer, at place i of a row of answers. -/
def EAnsAt (w : World) (X : Nat → Prop) (vs : List Value) (i : Nat) (a : HD.EAns) : Prop :=
  ∃ bv, vs[i * 4]? = some bv ∧ vs[i * 4 + 1]? = some (.int .i64 (a.writes : Nat)) ∧ vs[i * 4 + 2]? = some (.int .i64 (a.size : Nat)) ∧ vs[i * 4 + 3]? = some (.int .i64 0) ∧ BRow w X bv a.bytes
theorem EAnsAt.move {w w' : World} {X Y : Nat → Prop} {vs : List Value} {i : Nat} {a : HD.EAns} (h : EAnsAt w X vs i a) (hk : ∀ k, X k → w'.heap[k]? = w.heap[k]?) (hY : ∀ k, X k → Y k) (us : List Value) : EAnsAt w' Y (vs ++ us) i a := by
  obtain ⟨bv, h0, h1, h2, h3, hb⟩ := h
  have key : ∀ j v, vs[j]? = some v → (vs ++ us)[j]? = some v := fun j v hv => by rw [List.getElem?_append_left (List.getElem?_eq_some_iff.1 hv).1]; exact hv
  exact ⟨bv, key _ _ h0, key _ _ h1, key _ _ h2, key _ _ h3, hb.move hk hY⟩
theorem EAnsAt.last {w : World} {X : Nat → Prop} {vs : List Value} {k : Nat} {a : HD.EAns} {bv : Value} (hl : vs.length = k * 4) (hb : BRow w X bv a.bytes) : EAnsAt w X (vs ++ [bv, .int .i64 (a.writes : Nat), .int .i64 (a.size : Nat), .int .i64 0]) k a := by
  have key : ∀ j, (vs ++ [bv, .int .i64 (a.writes : Nat), .int .i64 (a.size : Nat), .int .i64 0])[k * 4 + j]? = [bv, .int .i64 (a.writes : Nat), .int .i64 (a.size : Nat), .int .i64 0][j]? := fun j => by
    rw [List.getElem?_append_right (by omega), hl, show k * 4 + j - k * 4 = j by omega]
  exact ⟨bv, key 0, key 1, key 2, key 3, hb⟩
theorem infoEA : (Tryd.prog.info? 34).map (fun i => (i.zero, i.size, i.bytes)) = some (some (.agg #[.slice none 0 0, .int .i64 0, .int .i64 0, .int .i64 0]), 4, 48) := by kernel_rfl

/-- What stands in memory when the loop of Encode comes round. -/
structure EInv (w wr : World) (cs : List HD.ECmd) (k : Nat) (s : HD.ES) (p : EP) (ov : Value) (vs : List Value) (az : List HD.EAns) (X : Nat → Prop) : Prop where
  res : ∀ A', HD.ERun s (cs.drop k) A' → HD.ERun HD.es0 cs (az ++ A')
  len : az.length = k
  enc : EncAt w.heap.size wr (w.heap.size + 1) w.heap.size s p
  buf : ∃ n xs, wr.ownsRow w.heap.size 5 1 (p.f 12) n xs
  sink : sinkEmpty wr w.heap.size
  ok : HD.ESOk s
  num : p.cnt + s.ents.length ≤ k
  out : wr.ownsRow w.heap.size 34 4 ov k vs
  at_ : ∀ i a, az[i]? = some a → EAnsAt wr X vs i a
  own : ∀ k, p.own (w.heap.size + 1) k → w.heap.size < k ∧ k < wr.heap.size
  low : ∀ g, X g → g < wr.heap.size ∧ w.heap.size < g ∧ ¬ p.own (w.heap.size + 1) g
  apart : ∀ g, ov.ownBlock = some g → ¬ X g ∧ ¬ p.own (w.heap.size + 1) g ∧ g ≠ w.heap.size
  below : Below w.heap.size w wr
/-- What Encode hands back. -/
def EncEnds (w : World) (cs : List HD.ECmd) (e : Ending) (w' : World) : Prop := ∃ ov vs X A, e = .returned ov ∧ w'.ownsRow w.heap.size 34 4 ov cs.length vs ∧ HD.ERun HD.es0 cs A ∧ (∀ i a, A[i]? = some a → EAnsAt w' X vs i a) ∧ (∀ g, X g → g < w'.heap.size ∧ w.heap.size ≤ g) ∧ (∀ g, ov.ownBlock = some g → ¬ X g) ∧ Below w.heap.size w w'

set_option maxHeartbeats 4000000 in
set_option maxRecDepth 100000 in
theorem encRun_any (w : World) (a : Option Addr) (cap : Nat) (ss : List StepR) (hm : ESteps w a ss) (hcap : ss.length ≤ cap) (hn : ss.length ≤ 2 ^ 30) (hf : ∀ r ∈ ss, r.Fine) (hG : 5 < w.heap.size ∧ 6 < w.heap.size) (ht : LenTab w) (hc : CodeTab w) :
    Calls Tryd.prog 8 #[.slice a ss.length cap] w (EncEnds w (ss.map StepR.cmd)) := by
  obtain ⟨n, hnn⟩ : ∃ n, n = ss.length := ⟨_, rfl⟩
  obtain ⟨cs, hcs⟩ : ∃ cs, cs = ss.map StepR.cmd := ⟨_, rfl⟩
  have hcl : cs.length = n := by rw [hcs, List.length_map, hnn]
  rw [← hcs]
  rw [← hnn] at hcap hn ⊢
  obtain ⟨i0, hi, hz0, hz1, hzb⟩ := info_parts infoEA
  have Hi := Lib.hid hi
  have Hnn := Lib.hid hnn
  have Hcs := Lib.hid hcs
  have Hcl := Lib.hid hcl
  have Hm := Lib.hid hm
  have Hf := Lib.hid hf
  have HG := Lib.hid hG
  have Ht := Lib.hid ht
  have Hc := Lib.hid hc
  clear hi hnn hcs hcl hm hf hG ht hc
  go_enter Tryd.func8, Tryd.ntmps8
  go_wp2_with fail
  have hs1 : (w.alloc (.cells #[.slice none 0 0, .int .i64 0] 50)).heap.size = w.heap.size + 1 := by simp
  refine (newEncoder_any w.heap.size w.heap.size _ (by rw [hs1]; omega)).mono ?_
  rintro e w1 ⟨rfl, p, hE, h12, hpc, hown, hb1⟩
  rw [hs1] at hE hown
  have hI : EInv w w1 cs 0 HD.es0 p (.slice none 0 0) [] [] (fun _ => False) := by
    refine ⟨fun A' h => h, rfl, hE, ⟨0, [], by rw [h12]; exact World.ownsRow_nil _ _ _ _⟩, ?_, HD.es0_ok, by rw [hpc]; exact Nat.le_refl _, World.ownsRow_nil _ _ _ _, fun i a h => by simp at h, fun k hk => ⟨Nat.lt_of_lt_of_le (Nat.lt_succ_self _) (hown k hk).1, (hown k hk).2⟩, fun g h => h.elim, fun g h => by simp [Value.ownBlock] at h, ((Below.refl _ w).alloc (Nat.le_refl _) _).trans (hb1.mono (by rw [hs1]; omega))⟩
    exact (hb1.block w.heap.size (by rw [hs1]; omega)).trans (heap_alloc_new w _)
  have HI := Lib.hid hI
  have Hs1 := Lib.hid hs1
  clear hE h12 hpc hown hb1 hI hs1
  go_wp2_with fail
  go_loopw [5, 15] (fun ov iv wr => ∃ (k : Nat) (s : HD.ES) (p : EP) (vs : List Value) (az : List HD.EAns) (X : Nat → Prop), k ≤ n ∧ iv = .int .i64 (k : Nat) ∧ EInv w wr cs k s p ov vs az X) (fun _ iv _ => n - (intOf iv).toNat)
  case atStart => exact ⟨0, _, _, _, _, _, Nat.zero_le _, rfl, HI.out⟩
  case round =>
    obtain ⟨k, s, p, vs, az, X, hk, rfl, hI1⟩ := hrel
    rcases Nat.lt_or_ge k n with hlt | hge
    · have hkc : k < ss.length := by rw [← Hnn.out]; exact hlt
      have hkN : decide (k < n) = true := decide_eq_true hlt
      have hkI : (k : Int) < (n : Int) := by omega
      have hkcap : k < cap := by omega
      obtain ⟨g, o, rfl, hcell⟩ := Hm.out (fun h => by rw [h] at hkc; simp at hkc)
      obtain ⟨r, hr⟩ : ∃ r, r = ss[k] := ⟨_, rfl⟩
      have hcell := hcell k hkc
      rw [← hr] at hcell
      obtain ⟨kd, fl, sz⟩ := r
      have up : ∀ j v, (stepA kd fl sz)[j]? = some v → wr.cell? ⟨g, o + k * 5 + j, none⟩ = some v := fun j v hv => (hI1.below.cell (World.block_lt_of_cell? _ _ (hcell j v hv))).trans (hcell j v hv)
      have q0 : wr.cell? ⟨g, o + k * 5, none⟩ = some (.int .i64 kd) := up 0 _ rfl
      have q1 : wr.cell? ⟨g, o + k * 5 + 1, none⟩ = some (.string ⟨fl.name.toArray⟩) := up 1 _ rfl
      have q2 : wr.cell? ⟨g, o + k * 5 + 2, none⟩ = some (.string ⟨fl.value.toArray⟩) := up 2 _ rfl
      have q3 : wr.cell? ⟨g, o + k * 5 + 3, none⟩ = some (.bool fl.sens) := up 3 _ rfl
      have q4 : wr.cell? ⟨g, o + k * 5 + 4, none⟩ = some (.int .i64 (sz : Nat)) := up 4 _ rfl
      have hfine : StepR.Fine ⟨kd, fl, sz⟩ := Hf.out _ (by rw [hr]; exact List.getElem_mem hkc)
      have hdrop : cs.drop k = cmdOf kd fl sz :: cs.drop (k + 1) := by
        have hkl : k < cs.length := by rw [Hcl.out]; exact hlt
        rw [List.drop_eq_getElem_cons hkl]
        congr 1
        have : cs[k]? = some (cmdOf kd fl sz) := by rw [Hcs.out, List.getElem?_map, List.getElem?_eq_getElem hkc, ← hr]; rfl
        rw [List.getElem?_eq_getElem hkl] at this
        exact Option.some.inj this
      have hoc := fun g h => (hI1.apart g h)
      obtain ⟨oa, oc, hov⟩ := own_form hI1.out
      subst hov
      have HI1 := Lib.hid hI1
      have Hfine := Lib.hid hfine
      have Hdrop := Lib.hid hdrop
      clear hI1 hfine hdrop hcell up hoc hr
      go_wp2_with fail
      obtain ⟨W1, hW1⟩ : ∃ W1, W1 = wr.alloc (.cells (stepA kd fl sz) 28) := ⟨_, rfl⟩
      rw [show wr.alloc (.cells #[.int .i64 kd, .string ⟨fl.name.toArray⟩, .string ⟨fl.value.toArray⟩, .bool fl.sens, .int .i64 (sz : Nat)] 28) = W1 from hW1.symm]
      have hb1 : Below wr.heap.size wr W1 := by rw [hW1]; exact (Below.refl _ _).alloc (Nat.le_refl _) _
      have hw1s : W1.heap.size = wr.heap.size + 1 := by rw [hW1]; simp
      have hwlt : w.heap.size < wr.heap.size := Lib.lt_of_heap HI1.out.sink
      have hbw1 : Below w.heap.size w W1 := HI1.out.below.trans (hb1.mono (Nat.le_of_lt hwlt))
      obtain ⟨bn, bxs, hbo⟩ := HI1.out.buf
      refine (encode_any w.heap.size W1 (w.heap.size + 1) w.heap.size kd fl sz s p (HI1.out.enc.frame fun q hq => hb1.block q (HI1.out.enc.tab.own_lt hq)) ⟨bn, bxs, ownsRow_of_heap hbo fun q hq => hb1.block q (hbo.lt q hq).2⟩ HI1.out.ok (by have := HI1.out.num; omega) ((hb1.block w.heap.size hwlt).trans HI1.out.sink) (by omega) HG.out (Ht.out.below hbw1 HG.out.1) (Hc.out.below hbw1 HG.out.2) Hfine.out.1 Hfine.out.2).mono ?_
      rintro e w3 ⟨a3, s', p', av, ac, rfl, hok, hE3, hbuf3, hsk3, hby3, hap3, hu3, hown3, hnum3⟩
      obtain ⟨L, hL⟩ : ∃ L, L = a3.bytes.length := ⟨_, rfl⟩
      obtain ⟨wn, hwn⟩ : ∃ x, x = a3.writes := ⟨_, rfl⟩
      obtain ⟨sn, hsn⟩ : ∃ x, x = a3.size := ⟨_, rfl⟩
      rw [← hL] at hby3 hap3
      have hs13 : wr.heap.size + 1 ≤ w3.heap.size := by have := hu3.size; omega
      have hog : ∀ q, (Value.slice oa k oc).ownBlock = some q → q < wr.heap.size ∧ w3.heap[q]? = wr.heap[q]? ∧ ¬ p'.own (w.heap.size + 1) q := fun q hq => by
        obtain ⟨h1, h2, h3⟩ := HI1.out.apart q hq
        have h4 := (HI1.out.out.lt q hq).2
        refine ⟨h4, (hu3.block q (by omega) (fun h => h.elim h2 h3)).trans (hb1.block q h4), fun h => ?_⟩
        rcases (hown3 q h).1 with h5 | h5
        · exact h2 h5
        · omega
      have hown4 := (ownsRow_of_heap HI1.out.out fun q hq => (hog q hq).2.1).alloc (.cells #[.slice av L ac, .int .i64 (wn : Nat), .int .i64 (sn : Nat), .int .i64 0] 34)
      have HN3 := Lib.hid (news_of_new w3 [.slice av L ac, .int .i64 (wn : Nat), .int .i64 (sn : Nat), .int .i64 0] 34)
      have hB4 : w.heap.size ≤ (w3.alloc (.cells #[.slice av L ac, .int .i64 (wn : Nat), .int .i64 (sn : Nat), .int .i64 0] 34)).heap.size := by simp; omega
      simp only [ansA]
      rw [← hL, ← hwn, ← hsn]
      have HL := Lib.hid hL
      have Hwn := Lib.hid hwn
      have Hsn := Lib.hid hsn
      have Hok := Lib.hid hok
      have HE3 := Lib.hid hE3
      have Hbuf3 := Lib.hid hbuf3
      have Hsk3 := Lib.hid hsk3
      have Hby3 := Lib.hid hby3
      have Hap3 := Lib.hid hap3
      have Hu3 := Lib.hid hu3
      have Hown3 := Lib.hid hown3
      have Hnum3 := Lib.hid hnum3
      have Hog := Lib.hid hog
      have Hown4 := Lib.hid hown4
      have Hb1 := Lib.hid hb1
      have Hw1s := Lib.hid hw1s
      have Hbw1 := Lib.hid hbw1
      clear hL hwn hsn hok hE3 hbuf3 hsk3 hby3 hap3 hu3 hown3 hnum3 hog hown4 hb1 hw1s hbw1 hbo hW1 q0 q1 q2 q3 q4
      go_wp2_with (at_builtin; (refine wpList_append_own_at _ rfl _ _ 31 rfl w.heap.size 34 i0 (.agg #[.slice none 0 0, .int .i64 0, .int .i64 0, .int .i64 0]) 4 48 Tryd.underlying31 Hi.out hz0 hz1 hzb rfl (by decide) (.slice oa k oc) k vs rfl ?a1 ⟨w3.heap.size, 0, none⟩ 1 1 [.slice av L ac, .int .i64 (wn : Nat), .int .i64 (sn : Nat), .int .i64 0] rfl rfl ?a2 ?a3 ?a4 ?a5 ?a6 ?_))
      case a1 => exact Hown4.out
      case a2 => exact HN3.out
      case a3 => intro u hu; simp at hu; rcases hu with rfl | rfl | rfl | rfl <;> rfl
      case a4 => unfold maxLen; omega
      case a5 => omega
      case a6 => exact hB4
      intro v5 w5 hown5 hgrow5 _ hob5
      have Hown5 := Lib.hid hown5
      have Hgrow5 := Lib.hid hgrow5
      have Hob5 := Lib.hid hob5
      clear hown5 hgrow5 hob5
      go_wp2_with fail
      have hs4 : (w3.alloc (.cells #[.slice av L ac, .int .i64 (wn : Nat), .int .i64 (sn : Nat), .int .i64 0] 34)).heap.size = w3.heap.size + 1 := by simp
      have hs35 : w3.heap.size + 1 ≤ w5.heap.size := by have := Hgrow5.out.size; omega
      have h35 : ∀ q, q < w3.heap.size → (Value.slice oa k oc).ownBlock ≠ some q → w5.heap[q]? = w3.heap[q]? := fun q hq hne =>
        (Hgrow5.out.block q (by omega) (fun e => hne e.symm)).trans (Below.heap_alloc w3 _ q hq)
      have hp5 : ∀ q, p'.own (w.heap.size + 1) q → w5.heap[q]? = w3.heap[q]? := fun q hq => h35 q (Hown3.out q hq).2 (fun e => (Hog.out q e).2.2 hq)
      have hX3 : ∀ q, X q → w3.heap[q]? = wr.heap[q]? := fun q hq => by
        obtain ⟨h1, h2, h3⟩ := HI1.out.low q hq
        exact (Hu3.out.block q (by have := Hw1s.out; omega) (fun h => by
          rcases h with h | h
          · exact h3 h
          · omega)).trans (Hb1.out.block q h1)
      have hX5 : ∀ q, X q → w5.heap[q]? = wr.heap[q]? := fun q hq => (h35 q (by have := (HI1.out.low q hq).1; have := Hu3.out.size; have := Hw1s.out; omega) (fun e => (HI1.out.apart q e).1 hq)).trans (hX3 q hq)
      have hA : ∀ q, (Value.slice av L ac).ownBlock = some q → wr.heap.size + 1 ≤ q ∧ q < w3.heap.size ∧ w5.heap[q]? = w3.heap[q]? := fun q hq => by
        have h1 := Hby3.out.lt q hq
        have h2 := Hw1s.out
        exact ⟨by omega, h1.2, h35 q h1.2 (fun e => by have := (Hog.out q e).1; omega)⟩
      obtain ⟨bn, bxs, hbo⟩ := Hbuf3.out
      have hsk5 : w5.heap[w.heap.size]? = w3.heap[w.heap.size]? := h35 _ (by have := Hw1s.out; have := Hu3.out.size; omega) (fun e => (HI1.out.apart _ e).2.2 rfl)
      refine ⟨⟨k + 1, s', p', vs ++ [.slice av L ac, .int .i64 (wn : Nat), .int .i64 (sn : Nat), .int .i64 0], az ++ [a3], fun q => X q ∨ (Value.slice av L ac).ownBlock = some q, hlt, by go_num, ?_⟩, by simp [intOf]; omega⟩
      refine ⟨fun A' hA' => ?_, by simp [HI1.out.len], HE3.out.frame fun q hq => hp5 q (Or.inl hq), ⟨bn, bxs, ownsRow_of_heap hbo fun q hq => hp5 q (Or.inr hq)⟩, hsk5.trans Hsk3.out, Hok.out.ok HI1.out.ok (StepR.Fine.cmd (r := ⟨kd, fl, sz⟩) Hfine.out), ?_, Hown5.out, ?_, fun q hq => ?_, ?_, ?_, ?_⟩
      · have h1 := HI1.out.res (a3 :: A') (by rw [Hdrop.out]; exact ⟨a3, A', s', rfl, Hok.out, hA'⟩)
        rw [List.append_assoc]
        exact h1
      · have h1 := Hnum3.out
        have h2 := HI1.out.num
        omega
      · intro i a ha
        rcases Nat.lt_or_ge i az.length with hi | hi
        · rw [List.getElem?_append_left hi] at ha
          exact (HI1.out.at_ i a ha).move hX5 (fun q hq => Or.inl hq) _
        · have hi0 : i = az.length := by
            have := (List.getElem?_eq_some_iff.1 ha).1
            simp at this; omega
          subst hi0
          rw [List.getElem?_append_right (Nat.le_refl _), Nat.sub_self] at ha
          obtain rfl : a3 = a := by simpa using ha
          have hvl : vs.length = az.length * 4 := by rw [HI1.out.len]; exact HI1.out.out.1
          rw [Hwn.out, Hsn.out]
          refine EAnsAt.last hvl (BRow.of_own (B := W1.heap.size) ?_ fun q hq => Or.inr hq)
          rw [← HL.out]
          exact ownsRow_of_heap Hby3.out fun q hq => (hA q hq).2.2
      · have h1 := (Hown3.out q hq)
        refine ⟨?_, by omega⟩
        rcases h1.1 with h2 | h2
        · exact (HI1.out.own q h2).1
        · have := Hw1s.out; omega
      · rintro q (hq | hq)
        · obtain ⟨h1, h2, h3⟩ := HI1.out.low q hq
          refine ⟨by have := Hu3.out.size; have := Hw1s.out; omega, h2, fun h => ?_⟩
          rcases (Hown3.out q h).1 with h4 | h4
          · exact h3 h4
          · have := Hw1s.out; omega
        · obtain ⟨h1, h2, -⟩ := hA q hq
          exact ⟨by omega, by omega, Hap3.out q hq⟩
      · intro q hq
        rcases Hob5.out with h | h
        · rw [h] at hq
          obtain ⟨h1, h2, h3⟩ := HI1.out.apart q hq
          have h4 := Hog.out q hq
          refine ⟨?_, h4.2.2, h3⟩
          rintro (h5 | h5)
          · exact h1 h5
          · have := (hA q h5).1; omega
        · rw [h] at hq
          obtain rfl := Option.some.inj hq
          refine ⟨?_, fun h5 => ?_, by omega⟩
          · rintro (h5 | h5)
            · have := (HI1.out.low _ h5).1; omega
            · have := (hA _ h5).2.1; omega
          · have := (Hown3.out _ h5).2; omega
      · have h1 : Below w.heap.size w w3 := Hbw1.out.trans (Hu3.out.below (B := w.heap.size) (by have := Hw1s.out; omega) (fun q hq => by
          rcases hq with hq | hq
          · exact Nat.le_of_lt (HI1.out.own q hq).1
          · exact Nat.le_of_eq hq.symm))
        have h2 := h1.alloc h1.size (.cells #[.slice av L ac, .int .i64 (wn : Nat), .int .i64 (sn : Nat), .int .i64 0] 34)
        exact h2.grown Hgrow5.out hB4 (fun q hq => (HI1.out.out.lt q hq).1)
    · obtain rfl : k = n := Nat.le_antisymm hk hge
      have HI1 := Lib.hid hI1
      clear hI1
      go_wp2_with fail
      go_ret
      have hrun := HI1.out.res [] (by rw [List.drop_of_length_le (Nat.le_of_eq Hcl.out)]; rfl)
      rw [List.append_nil] at hrun
      exact ⟨u5, vs, X, az, rfl, by rw [Hcl.out]; exact HI1.out.out, hrun, HI1.out.at_, fun g h => ⟨(HI1.out.low g h).1, Nat.le_of_lt (HI1.out.low g h).2.1⟩, fun g h => (HI1.out.apart g h).1, HI1.out.below⟩
end Go.Proofs.YtjdmaflkafmmpaaDoor
/-
  The contract of short: whether texts are few enough bytes. No condition but bounds on lengths.
-/
namespace Go.Proofs.YtjdmaflkafmmpaaDoor
open Go.ChangeShapes Go.WideShapes Go.ChangeAt Go.RowKit

/-- The sum of texts' lengths. -/
def sumSz (l : List ByteArray) : Nat := (l.map (·.size)).sum
theorem sumSz_take {l : List ByteArray} {k : Nat} (h : k < l.length) : sumSz (l.take (k + 1)) = sumSz (l.take k) + (l[k]'h).size := by
  unfold sumSz
  rw [List.take_succ_eq_append_getElem h, List.map_append, List.sum_append]
  simp only [List.map_cons, List.map_nil, List.sum_cons, List.sum_nil, Nat.add_zero]
theorem sumSz_le {l : List ByteArray} (k : Nat) : sumSz (l.take k) ≤ sumSz l := by
  unfold sumSz
  conv => rhs; rw [← List.take_append_drop k l, List.map_append, List.sum_append]
  exact Nat.le_add_right _ _

theorem short_any (b off cap : Nat) (ss : List ByteArray) (w : World) (hl : ss.length ≤ maxLen) (hs : ∀ s ∈ ss, s.size ≤ maxLen)
    (hc : ∀ i (h : i < ss.length), w.cell? ⟨b, off + i, none⟩ = some (.string (ss[i]'h))) :
    Calls Tryd.prog 14 #[.slice (some ⟨b, off, none⟩) ss.length cap] w fun e w' => e = .returned (.bool (decide (sumSz ss ≤ 1048576))) ∧ w = w' := by
  unfold maxLen at hl hs
  have Hc := Lib.hid hc
  have Hs := Lib.hid hs
  clear hc hs
  go_enter Tryd.func14, Tryd.ntmps14
  go_wp2
  go_loop [3, 8] (fun n i => ∃ k : Nat, k ≤ ss.length ∧ i = .int .i64 k ∧ n = .int .i64 (sumSz (ss.take k)) ∧ sumSz (ss.take k) ≤ 1048576) (fun _ i => ss.length - (intOf i).toNat)
  case atStart => exact ⟨0, Nat.zero_le _, rfl, rfl, by simp [sumSz]⟩
  case round =>
    obtain ⟨k, hk, rfl, rfl, hsum⟩ := hrel
    generalize hn : sumSz (ss.take k) = n at *
    have Hn := Lib.hid hn
    clear hn
    by_cases hlt : k < ss.length
    · have hcell := Hc.out k hlt
      have hsz := Hs.out _ (List.getElem_mem hlt)
      have Hnext := Lib.hid (sumSz_take hlt)
      have Hle := Lib.hid (sumSz_le (l := ss) (k + 1))
      generalize ss[k]'hlt = s at *
      by_cases hb : s.size + n ≤ 1048576
      · go_wp2
        go_round
        case rel => exact ⟨k + 1, by omega, by go_num, by rw [Hnext.out, Hn.out]; go_num, by rw [Hnext.out, Hn.out]; omega⟩
        case measure => simp [intOf]; omega
      · go_wp2
        go_ret
        exact ⟨by rw [decide_eq_false (show ¬ sumSz ss ≤ 1048576 by have := Hle.out; rw [Hnext.out, Hn.out] at this; omega)]; rfl, rfl⟩
    · go_wp2
      go_ret
      have e : k = ss.length := by omega
      have h2 := Hn.out
      rw [e, List.take_length] at h2
      exact ⟨by rw [decide_eq_true (show sumSz ss ≤ 1048576 by omega)]; rfl, rfl⟩
end Go.Proofs.YtjdmaflkafmmpaaDoor
/-
  The contracts of the laws' own functions over an encoder's steps: zzFits4, few.
-/
namespace Go.Proofs.YtjdmaflkafmmpaaDoor
open Go.ChangeShapes Go.WideShapes Go.ChangeAt Go.RowKit

/-- A step as it came in. -/
structure StepI where
  kind : Int
  fld : HD.Fld
  size : Int
def stepI (r : StepI) : Array Value := #[.int .i64 r.kind, .string ⟨r.fld.name.toArray⟩, .string ⟨r.fld.value.toArray⟩, .bool r.fld.sens, .int .i64 r.size]
def StepI.r (r : StepI) : StepR := ⟨r.kind, r.fld, r.size.toNat⟩
/-- The steps that came in lie in memory. -/
def EStepsI (w : World) (a : Option Addr) (ss : List StepI) : Prop := ss ≠ [] → ∃ g o, a = some ⟨g, o, none⟩ ∧ ∀ (i : Nat) (h : i < ss.length) (j : Nat) v, (stepI (ss[i]'h))[j]? = some v → w.cell? ⟨g, o + i * 5 + j, none⟩ = some v
theorem EStepsI.mono {w w' : World} {a : Option Addr} {ss : List StepI} (h : EStepsI w a ss) (hb : Below w.heap.size w w') : EStepsI w' a ss := fun hne => by
  obtain ⟨g, o, e, hc⟩ := h hne
  exact ⟨g, o, e, fun i hi j v hv => (hb.cell (World.block_lt_of_cell? _ _ (hc i hi j v hv))).trans (hc i hi j v hv)⟩
def FewOk (ss : List StepI) : Prop := (∀ r ∈ ss, r.fld.name.length + r.fld.value.length ≤ 1048576 ∧ 0 ≤ r.size ∧ r.size ≤ 2147483648) ∧ ss.length + (ss.map fun r => r.fld.name.length + r.fld.value.length).sum ≤ 1048576
theorem EStepsI.steps {w : World} {a : Option Addr} {ss : List StepI} (h : EStepsI w a ss) (hf : FewOk ss) : ESteps w a (ss.map StepI.r) := fun hne => by
  obtain ⟨g, o, e, hc⟩ := h (fun e => hne (by rw [e]; rfl))
  refine ⟨g, o, e, fun i hi j v hv => ?_⟩
  have hi' : i < ss.length := by simpa using hi
  refine hc i hi' j v ?_
  rw [List.getElem_map] at hv
  have h0 := (hf.1 _ (List.getElem_mem hi')).2.1
  have hs : ((ss[i].size.toNat : Nat) : Int) = ss[i].size := Int.toNat_of_nonneg h0
  have e2 : stepA (ss[i].r).kind (ss[i].r).fld (ss[i].r).size = stepI ss[i] := by
    unfold stepA stepI StepI.r
    simp only [hs]
  rw [e2] at hv
  exact hv
theorem FewOk.fine {ss : List StepI} (h : FewOk ss) : ∀ r ∈ ss.map StepI.r, r.Fine := fun r hr => by
  obtain ⟨q, hq, rfl⟩ := List.mem_map.1 hr
  obtain ⟨h1, h2, h3⟩ := h.1 q hq
  exact ⟨h1, by show q.size.toNat ≤ _; omega⟩

theorem isSizeE_any (n : Int) (w : World) : Calls Tryd.prog 15 #[.int .i64 n] w fun e w' => e = .returned (.bool (decide (0 ≤ n ∧ n ≤ 2147483648))) ∧ w = w' := by
  rcases Classical.em (0 ≤ n) with h0 | h0
  · have d0 : decide (0 ≤ n) = true := decide_eq_true h0
    go_enter Tryd.func15, Tryd.ntmps15
    go_wp2
    go_ret
    exact ⟨ret_bool (by simp [h0]), rfl⟩
  · have d0 : decide (0 ≤ n) = false := decide_eq_false h0
    have hr : decide (0 ≤ n ∧ n ≤ 2147483648) = false := decide_eq_false fun h => h0 h.1
    rw [hr]
    go_enter Tryd.func15, Tryd.ntmps15
    go_wp2
    go_ret
    exact ⟨rfl, rfl⟩
/-- A Bool is handed back, and nothing that was there has changed. -/
def SomeBool (w : World) (e : Ending) (w' : World) : Prop := ∃ b : Bool, e = .returned (.bool b) ∧ Below w.heap.size w w'
theorem fits1_any (f : HD.Fld) (w : World) : Calls Tryd.prog 13 #[.agg #[.string ⟨f.name.toArray⟩, .string ⟨f.value.toArray⟩, .bool f.sens]] w (SomeBool w) := by
  obtain ⟨n, v, s⟩ := f
  dsimp only
  go_enter Tryd.func13, Tryd.ntmps13
  go_wp2
  all_goals go_ret
  all_goals exact ⟨_, rfl, (Below.refl _ _).alloc (Nat.le_refl _) _⟩
theorem fits5_any (r : StepI) (w : World) : Calls Tryd.prog 22 #[.agg (stepI r)] w (SomeBool w) := by
  unfold stepI
  go_enter Tryd.func22, Tryd.ntmps22
  go_wp2_with fail
  refine (fits1_any r.fld _).mono ?_
  rintro e w1 ⟨b, rfl, hb1⟩
  have Hb1 : Hid (Below w.heap.size w w1) := Lib.hid (((Below.refl _ w).alloc (Nat.le_refl _) _).trans (hb1.mono (by simp)))
  clear hb1
  cases b
  all_goals
    go_wp2_with fail
    go_ret
    exact ⟨_, rfl, Hb1.out⟩
set_option maxHeartbeats 1000000 in
set_option maxRecDepth 100000 in
theorem fits4_any (w : World) (a : Option Addr) (cap : Nat) (ss : List StepI) (hm : EStepsI w a ss) (hcap : ss.length ≤ cap) (hn : ss.length ≤ maxLen) :
    Calls Tryd.prog 11 #[.slice a ss.length cap] w (SomeBool w) := by
  unfold maxLen at hn
  obtain ⟨n, hnn⟩ : ∃ n, n = ss.length := ⟨_, rfl⟩
  rw [← hnn] at hcap hn ⊢
  have Hnn := Lib.hid hnn
  have Hm := Lib.hid hm
  clear hnn hm
  by_cases hbig : 2147483647 < n
  · have hbI : (2147483647 : Int) < (n : Int) := by omega
    go_enter Tryd.func11, Tryd.ntmps11
    go_wp2_with fail
    go_ret
    exact ⟨_, rfl, Below.refl _ _⟩
  · have hbI : ¬ (2147483647 : Int) < (n : Int) := by omega
    have d0 : decide ((2147483647 : Int) < (n : Int)) = false := decide_eq_false hbI
    go_enter Tryd.func11, Tryd.ntmps11
    go_wp2_with fail
    go_loopw [10] (fun iv wr => ∃ k : Nat, k ≤ n ∧ iv = .int .i64 (k : Nat) ∧ Below w.heap.size w wr) (fun iv _ => n - (intOf iv).toNat)
    case atStart => exact ⟨0, Nat.zero_le _, rfl, Below.refl _ _⟩
    case round =>
      obtain ⟨k, hk, rfl, hb⟩ := hrel
      rcases Nat.lt_or_ge k n with hlt | hge
      · have hkc : k < ss.length := by rw [← Hnn.out]; exact hlt
        have hkN : decide (k < n) = true := decide_eq_true hlt
        have hkI : (k : Int) < (n : Int) := by omega
        have hkcap : k < cap := by omega
        obtain ⟨g, o, rfl, hcell⟩ := Hm.out (fun h => by rw [h] at hkc; simp at hkc)
        obtain ⟨r, hr⟩ : ∃ r, r = ss[k] := ⟨_, rfl⟩
        have hcell := hcell k hkc
        rw [← hr] at hcell
        have up : ∀ j v, (stepI r)[j]? = some v → wr.cell? ⟨g, o + k * 5 + j, none⟩ = some v := fun j v hv => (hb.cell (World.block_lt_of_cell? _ _ (hcell j v hv))).trans (hcell j v hv)
        have q0 : wr.cell? ⟨g, o + k * 5, none⟩ = some (.int .i64 r.kind) := up 0 _ rfl
        have q1 : wr.cell? ⟨g, o + k * 5 + 1, none⟩ = some (.string ⟨r.fld.name.toArray⟩) := up 1 _ rfl
        have q2 : wr.cell? ⟨g, o + k * 5 + 2, none⟩ = some (.string ⟨r.fld.value.toArray⟩) := up 2 _ rfl
        have q3 : wr.cell? ⟨g, o + k * 5 + 3, none⟩ = some (.bool r.fld.sens) := up 3 _ rfl
        have q4 : wr.cell? ⟨g, o + k * 5 + 4, none⟩ = some (.int .i64 r.size) := up 4 _ rfl
        have Hb := Lib.hid hb
        have hsz := hb.size
        have Hr := Lib.hid hr
        clear hb hcell up hr
        go_wp2_with fail
        refine (fits5_any r _).mono ?_
        rintro e w1 ⟨b, rfl, hb1⟩
        have Hb1 : Hid (Below w.heap.size w w1) := Lib.hid ((Hb.out.alloc hsz _).trans (hb1.mono (by simp; omega)))
        clear hb1
        cases b
        · go_wp2_with fail
          go_ret
          exact ⟨_, rfl, Hb1.out⟩
        · go_wp2_with fail
          exact ⟨⟨k + 1, hlt, by go_num, Hb1.out⟩, by simp [intOf]; omega⟩
      · obtain rfl : k = n := Nat.le_antisymm hk hge
        go_wp2_with fail
        go_ret
        exact ⟨_, rfl, hb⟩

def lenI (r : StepI) : Nat := r.fld.name.length + r.fld.value.length
def sumI (ss : List StepI) : Nat := (ss.map lenI).sum
theorem sumI_snoc (ss : List StepI) (k : Nat) (h : k < ss.length) : sumI (ss.take (k + 1)) = sumI (ss.take k) + lenI ss[k] := by
  unfold sumI
  rw [← List.take_append_getElem h, List.map_append, List.sum_append]
  simp
def FineI (r : StepI) : Prop := r.fld.name.length + r.fld.value.length ≤ 1048576 ∧ 0 ≤ r.size ∧ r.size ≤ 2147483648
/-- How few ends. -/
def FewEnds (w : World) (ss : List StepI) (e : Ending) (w' : World) : Prop := ∃ b : Bool, e = .returned (.bool b) ∧ Below w.heap.size w w' ∧ (b = true → FewOk ss)
set_option maxHeartbeats 2000000 in
set_option maxRecDepth 100000 in
theorem few_any (w : World) (a : Option Addr) (cap : Nat) (ss : List StepI) (hm : EStepsI w a ss) (hcap : ss.length ≤ cap) (hn : ss.length ≤ maxLen) (hml : ∀ r ∈ ss, r.fld.name.length ≤ maxLen ∧ r.fld.value.length ≤ maxLen) :
    Calls Tryd.prog 7 #[.slice a ss.length cap] w (FewEnds w ss) := by
  unfold maxLen at hn hml
  obtain ⟨n, hnn⟩ : ∃ n, n = ss.length := ⟨_, rfl⟩
  rw [← hnn] at hcap hn ⊢
  have Hnn := Lib.hid hnn
  have Hm := Lib.hid hm
  have Hml := Lib.hid hml
  clear hnn hm hml
  go_enter Tryd.func7, Tryd.ntmps7
  go_wp2_with fail
  go_loopw [3, 10] (fun nv iv wr => ∃ k m : Nat, k ≤ n ∧ iv = .int .i64 (k : Nat) ∧ nv = .int .i64 (m : Nat) ∧ Hid (m = n + sumI (ss.take k)) ∧ m ≤ 9223372036854775807 ∧ Hid (∀ r ∈ ss.take k, FineI r) ∧ Below w.heap.size w wr) (fun _ iv _ => n - (intOf iv).toNat)
  case atStart => exact ⟨0, n, Nat.zero_le _, rfl, rfl, Lib.hid (by simp [sumI]), by omega, Lib.hid (fun r hr => by simp at hr), Below.refl _ _⟩
  case round =>
    obtain ⟨k, m, hk, rfl, rfl, Hsum, hmb, Hfine, hb⟩ := hrel
    rcases Nat.lt_or_ge k n with hlt | hge
    · have hkc : k < ss.length := by rw [← Hnn.out]; exact hlt
      have hkN : decide (k < n) = true := decide_eq_true hlt
      have hkI : (k : Int) < (n : Int) := by omega
      have hkcap : k < cap := by omega
      obtain ⟨g, o, rfl, hcell⟩ := Hm.out (fun h => by rw [h] at hkc; simp at hkc)
      obtain ⟨r, hr⟩ : ∃ r, r = ss[k] := ⟨_, rfl⟩
      have hcell := hcell k hkc
      rw [← hr] at hcell
      have up : ∀ j v, (stepI r)[j]? = some v → wr.cell? ⟨g, o + k * 5 + j, none⟩ = some v := fun j v hv => (hb.cell (World.block_lt_of_cell? _ _ (hcell j v hv))).trans (hcell j v hv)
      have q0 : wr.cell? ⟨g, o + k * 5, none⟩ = some (.int .i64 r.kind) := up 0 _ rfl
      have q1 : wr.cell? ⟨g, o + k * 5 + 1, none⟩ = some (.string ⟨r.fld.name.toArray⟩) := up 1 _ rfl
      have q2 : wr.cell? ⟨g, o + k * 5 + 2, none⟩ = some (.string ⟨r.fld.value.toArray⟩) := up 2 _ rfl
      have q3 : wr.cell? ⟨g, o + k * 5 + 3, none⟩ = some (.bool r.fld.sens) := up 3 _ rfl
      have q4 : wr.cell? ⟨g, o + k * 5 + 4, none⟩ = some (.int .i64 r.size) := up 4 _ rfl
      have Hb := Lib.hid hb
      have hsz := hb.size
      have Hr := Lib.hid hr
      clear hb hcell up hr
      by_cases hbig : 1048576 < m
      · have hbI : (1048576 : Int) < (m : Int) := by omega
        have d0 : decide ((1048576 : Int) < (m : Int)) = true := decide_eq_true hbI
        go_wp2_with fail
        go_ret
        exact ⟨_, rfl, Hb.out.alloc hsz _, (fun h => by cases h)⟩
      · have hbI : ¬ (1048576 : Int) < (m : Int) := by omega
        have d0 : decide ((1048576 : Int) < (m : Int)) = false := decide_eq_false hbI
        have hl2 := Hml.out r (by rw [Hr.out]; exact List.getElem_mem hkc)
        obtain ⟨x, hx⟩ : ∃ x, x = r.fld.name.length := ⟨_, rfl⟩
        obtain ⟨y, hy⟩ : ∃ y, y = r.fld.value.length := ⟨_, rfl⟩
        have hszn : (⟨r.fld.name.toArray⟩ : ByteArray).size = x := by rw [hx]; simp [ByteArray.size]
        have hszv : (⟨r.fld.value.toArray⟩ : ByteArray).size = y := by rw [hy]; simp [ByteArray.size]
        have hsum : sumSz [⟨r.fld.name.toArray⟩, ⟨r.fld.value.toArray⟩] = x + y := by simp only [sumSz, List.map_cons, List.map_nil, List.sum_cons, List.sum_nil, hszn, hszv]; omega
        have hbw : Below w.heap.size w ((wr.alloc (.cells (stepI r) 28)).alloc (.cells #[.string ⟨r.fld.name.toArray⟩, .string ⟨r.fld.value.toArray⟩] 9)) := (Hb.out.alloc hsz _).alloc (by simp; omega) _
        have Hbw := Lib.hid hbw
        have Hx := Lib.hid hx
        have Hy := Lib.hid hy
        have Hsum2 := Lib.hid hsum
        have Hszn := Lib.hid hszn
        have Hszv := Lib.hid hszv
        rw [← hx, ← hy] at hl2
        clear hx hy hsum hbw hszn hszv
        go_wp2_with fail
        refine (short_any (wr.heap.size + 1) 0 2 [⟨r.fld.name.toArray⟩, ⟨r.fld.value.toArray⟩] _ (by simp [maxLen]) (by
          intro s hs
          simp only [List.mem_cons, List.not_mem_nil, or_false] at hs
          unfold maxLen
          rcases hs with rfl | rfl
          · rw [Hszn.out]; omega
          · rw [Hszv.out]; omega) (by
          intro i hi
          have h1 : (wr.alloc (.cells (stepI r) 28)).heap.size = wr.heap.size + 1 := by simp
          have h2 := heap_alloc_new (wr.alloc (.cells (stepI r) 28)) (.cells #[.string ⟨r.fld.name.toArray⟩, .string ⟨r.fld.value.toArray⟩] 9)
          rw [h1] at h2
          rw [Nat.zero_add]
          refine (Lib.cell_of_heap h2 i).trans ?_
          simp only [List.length_cons, List.length_nil] at hi
          rcases i with _ | _ | i
          · rfl
          · rfl
          · omega)).mono ?_
        rintro e w1 ⟨rfl, rfl⟩
        rw [Hsum2.out]
        by_cases hxy : x + y ≤ 1048576
        · have d2 : decide (x + y ≤ 1048576) = true := decide_eq_true hxy
          rw [d2]
          go_wp2_with fail
          refine (isSizeE_any r.size _).mono ?_
          rintro e w2 ⟨rfl, rfl⟩
          by_cases hz : 0 ≤ r.size ∧ r.size ≤ 2147483648
          · rw [decide_eq_true hz]
            have Hz := Lib.hid hz
            have hlx : List.length r.fld.name = x := Hx.out.symm
            have hly : List.length r.fld.value = y := Hy.out.symm
            clear hz d2
            go_wp2_with fail
            refine ⟨⟨k + 1, m + x + y, hlt, by go_num, by go_num, ?_, by omega, ?_, Hbw.out⟩, by simp [intOf]; omega⟩
            · show _ = _
              have h1 := Hsum.out
              rw [sumI_snoc ss k hkc, ← Hr.out, lenI, ← Hx.out, ← Hy.out]
              omega
            · show ∀ r ∈ ss.take (k + 1), FineI r
              intro q hq
              rw [← List.take_append_getElem hkc, List.mem_append] at hq
              rcases hq with hq | hq
              · exact Hfine.out q hq
              · simp only [List.mem_cons, List.not_mem_nil, or_false] at hq
                rw [hq, ← Hr.out]
                exact ⟨by rw [← Hx.out, ← Hy.out]; exact hxy, Hz.out⟩
          · rw [decide_eq_false hz]
            clear hz d2
            go_wp2_with fail
            go_ret
            exact ⟨_, rfl, Hbw.out, (fun h => by cases h)⟩
        · rw [decide_eq_false hxy]
          go_wp2_with fail
          go_ret
          exact ⟨_, rfl, Hbw.out, (fun h => by cases h)⟩
    · obtain rfl : k = n := Nat.le_antisymm hk hge
      go_wp2_with fail
      go_ret
      refine ⟨_, rfl, hb, fun h => ?_⟩
      have e1 : ss.take k = ss := by rw [Hnn.out]; exact List.take_length
      have hs := Hsum.out
      have hf := Hfine.out
      rw [e1] at hs hf
      refine ⟨hf, ?_⟩
      have h' := of_decide_eq_true h
      rw [← Hnn.out]
      show k + sumI ss ≤ _
      omega
end Go.Proofs.YtjdmaflkafmmpaaDoor
/-
  What a slice of steps | of fields that came in gives: its steps | fields, in memory.
-/
namespace Go.Proofs.YtjdmaflkafmmpaaDoor
open Go.ChangeShapes Go.WideShapes Go.ChangeAt Go.RowKit

theorem under_step : Tryd.prog.underlying 28 = some (.struct #[⟨ "Kind", 3, 0, false, "", "", 0⟩, ⟨ "Field", 26, 1, false, "", "", 8⟩, ⟨ "Size", 3, 4, false, "", "", 48⟩]) := by kernel_rfl
theorem under_fldE : Tryd.prog.underlying 26 = some (.struct #[⟨ "Name", 9, 0, false, "", "", 0⟩, ⟨ "Value", 9, 1, false, "", "", 16⟩, ⟨ "Sensitive", 4, 2, false, "", "", 32⟩]) := by kernel_rfl
theorem cells_step : Tryd.prog.cellsOf 28 = 5 := by kernel_rfl
theorem cells_fld : Tryd.prog.cellsOf 26 = 3 := by kernel_rfl
theorem cells_int : Tryd.prog.cellsOf 3 = 1 := by kernel_rfl
theorem cells_str : Tryd.prog.cellsOf 9 = 1 := by kernel_rfl
theorem cells_bool : Tryd.prog.cellsOf 4 = 1 := by kernel_rfl
section
variable {H : Type} {enc : TypeId × Value → H} {w : World} {base : Nat} {spare : Nat → Bool} {held : Bool}
theorem open_fld {fuel : Nat} {cs : List Value} {x : DataW H × List MemPlace} (h : DataW.trod enc Tryd.prog w base spare held fuel 26 cs = some x) :
    ∃ f : HD.Fld, cs = [.string ⟨f.name.toArray⟩, .string ⟨f.value.toArray⟩, .bool f.sens] ∧ f.name.length ≤ maxLen ∧ f.value.length ≤ maxLen := by
  obtain ⟨ys, n', hn', hy, hlen, hyl, hf⟩ := DataW.trod_struct under_fldE h
  have h0 := hf 0 ⟨ "Name", 9, 0, false, "", "", 0⟩ rfl
  have h1 := hf 1 ⟨ "Value", 9, 1, false, "", "", 16⟩ rfl
  have h2 := hf 2 ⟨ "Sensitive", 4, 2, false, "", "", 32⟩ rfl
  clear hf
  dsimp only at h0 h1 h2
  rw [cells_str] at h0 h1
  rw [cells_bool] at h2
  rw [cells_fld] at hlen
  match cs, hlen, ys, hyl with
  | [c0, c1, c2], _, [y0, y1, y2], _ =>
    obtain ⟨n, e0, -, hn⟩ := DataW.trod_string Tryd.underlying9 (x := y0) (by simpa using h0)
    obtain ⟨v, e1, -, hv⟩ := DataW.trod_string Tryd.underlying9 (x := y1) (by simpa using h1)
    obtain ⟨b, e2, -⟩ := DataW.trod_bool Tryd.underlying4 (x := y2) (by simpa using h2)
    injection e0 with e0; injection e1 with e1; injection e2 with e2
    subst e0 e1 e2
    exact ⟨⟨n.data.toList, v.data.toList, b⟩, rfl, hn, hv⟩
theorem open_step {fuel : Nat} {cs : List Value} {x : DataW H × List MemPlace} (h : DataW.trod enc Tryd.prog w base spare held fuel 28 cs = some x) :
    ∃ r : StepI, cs = (stepI r).toList ∧ r.fld.name.length ≤ maxLen ∧ r.fld.value.length ≤ maxLen := by
  obtain ⟨ys, n', hn', hy, hlen, hyl, hf⟩ := DataW.trod_struct under_step h
  have h0 := hf 0 ⟨ "Kind", 3, 0, false, "", "", 0⟩ rfl
  have h1 := hf 1 ⟨ "Field", 26, 1, false, "", "", 8⟩ rfl
  have h2 := hf 2 ⟨ "Size", 3, 4, false, "", "", 48⟩ rfl
  clear hf
  dsimp only at h0 h1 h2
  rw [cells_int] at h0 h2
  rw [cells_fld] at h1
  rw [cells_step] at hlen
  match cs, hlen, ys, hyl with
  | [c0, c1, c2, c3, c4], _, [y0, y1, y2], _ =>
    obtain ⟨k, e0, -, -⟩ := DataW.trod_int Tryd.underlying3 (x := y0) (by simpa using h0)
    obtain ⟨f, e1, hn, hv⟩ := open_fld (x := y1) (by simpa using h1)
    obtain ⟨z, e2, -, -⟩ := DataW.trod_int Tryd.underlying3 (x := y2) (by simpa using h2)
    injection e0 with e0
    injection e2 with e2
    injection e1 with e1 e3
    injection e3 with e3 e4
    injection e4 with e4
    subst e0 e1 e2 e3 e4
    exact ⟨⟨k, f, z⟩, rfl, hn, hv⟩
end

/-- What is so of each place, as a list. -/
theorem list_of {α : Type} {P : Nat → α → Prop} : ∀ (n : Nat), (∀ i, i < n → ∃ x, P i x) → ∃ l : List α, l.length = n ∧ ∀ i (h : i < l.length), P i (l[i]'h)
  | 0, _ => ⟨[], rfl, fun i h => by simp at h⟩
  | n + 1, h => by
    obtain ⟨l, hl, hP⟩ := list_of n fun i hi => h i (by omega)
    obtain ⟨x, hx⟩ := h n (by omega)
    refine ⟨l ++ [x], by simp [hl], fun i hi => ?_⟩
    rcases Nat.lt_or_ge i l.length with h1 | h1
    · rw [List.getElem_append_left h1]; exact hP i h1
    · have : i = l.length := by simp at hi; omega
      subst this
      simp only [List.getElem_append_right (Nat.le_refl _), Nat.sub_self, List.getElem_cons_zero]
      rw [hl]; exact hx
theorem cells_parts {w : World} {base : Nat} {a : Addr} {n : Nat} {cs : List Value} (h : w.cells? base a n = some cs) (j : Nat) (v : Value) (hv : cs[j]? = some v) : w.cell? (a.add j) = some v := by
  obtain ⟨-, hl, hat⟩ := World.cells?_some h
  have := (List.getElem?_eq_some_iff.1 hv).1
  rw [hat j (by omega), hv]
theorem add_zero_zero (a : Addr) : (a.add 0).add 0 = a := by simp [Addr.add]
theorem spot_none {w : World} {a : Addr} {v : Value} (h : w.cell? a = some v) : ∃ g o, a = ⟨g, o, none⟩ := by
  obtain ⟨b, o, s⟩ := a
  cases s with
  | none => exact ⟨b, o, rfl⟩
  | some k =>
    unfold World.cell? at h
    simp at h
    split at h <;> cases h
set_option maxRecDepth 100000 in
theorem open_steps {H : Type} {enc : TypeId × Value → H} {W : World} {base : Nat} {v1 : Value} {d1 : DataW H} {p1 : List MemPlace} (hval : Value.okWide Tryd.prog W .any base 24 v1) (h1 : DataW.Trod enc Tryd.prog W 0 (fun _ => true) true 24 v1 d1 p1) :
    ∃ sa cap, ∃ ss : List StepI, v1 = .slice sa ss.length cap ∧ EStepsI W sa ss ∧ ss.length ≤ cap ∧ ss.length ≤ maxLen ∧ ∀ r ∈ ss, r.fld.name.length ≤ maxLen ∧ r.fld.value.length ≤ maxLen := by
  obtain ⟨a1, len, cap, rfl⟩ := okWide_slice Tryd.underlying24 hval
  obtain ⟨fuel, hf⟩ := h1
  rcases Go.Deep.open_slice Tryd.underlying24 hf with ⟨hcs, hx⟩ | ⟨a, len', cap', m, n, D, Pl, hcs, hb, hl, hm, hmm, hx, hi⟩
  · simp [Value.cells] at hcs
    obtain ⟨rfl, rfl, rfl⟩ := hcs
    exact ⟨none, 0, [], rfl, fun h => absurd rfl h, Nat.le_refl _, Nat.zero_le _, fun r hr => by simp at hr⟩
  · simp [Value.cells] at hcs
    obtain ⟨rfl, rfl, rfl⟩ := hcs
    simp only [if_true] at hmm
    rw [cells_step] at hi
    obtain ⟨ss, hsl, hss⟩ := list_of (P := fun i (r : StepI) => (∀ j v, (stepI r)[j]? = some v → W.cell? ((a.add (i * 5)).add j) = some v) ∧ r.fld.name.length ≤ maxLen ∧ r.fld.value.length ≤ maxLen) len (fun i hil => by
      obtain ⟨cs', hc, ht⟩ := hi i (by omega)
      obtain ⟨r, rfl, hn, hv⟩ := open_step ht
      exact ⟨r, fun j v hv => cells_parts hc j v (by rw [Array.getElem?_toList]; exact hv), hn, hv⟩)
    refine ⟨_, cap, ss, by rw [hsl], fun hne => ?_, by omega, by omega, fun r hr => ?_⟩
    · have hpos : 0 < ss.length := List.length_pos_iff.2 hne
      have h0 := (hss 0 hpos).1 0 _ rfl
      rw [Nat.zero_mul, add_zero_zero] at h0
      obtain ⟨g, o, rfl⟩ := spot_none h0
      refine ⟨g, o, rfl, fun i hi' j v hv => ?_⟩
      have := (hss i hi').1 j v hv
      rwa [Lib.addr_add, Lib.addr_add] at this
    · obtain ⟨i, hi', rfl⟩ := List.getElem_of_mem hr
      exact (hss i hi').2
end Go.Proofs.YtjdmaflkafmmpaaDoor
