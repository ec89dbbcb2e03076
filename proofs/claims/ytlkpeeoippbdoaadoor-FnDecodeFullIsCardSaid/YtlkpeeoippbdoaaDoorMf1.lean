/-
  Texts of this seat, one behind the other: FullEm, FromF, Full, DFull. What each one shows stands at its head. No condition.
-/
import Derived.Test.YtlkpeeoippbdoaaDoorMl4
import Derived.Defers
import Derived.Laws.EntriesVeiled
/-
  Whom DecodeFull tells its fields: a captured slice of the library's own fields.
-/
namespace Go.Proofs.YtlkpeeoippbdoaaDoor
open Go.ChangeShapes Go.WideShapes Go.ChangeAt Go.RowKit

def fullEm (B e : Nat) : Emitter where
  val := .func (.func 48) #[] #[.pointer (some ⟨e, 0, none⟩)]
  holds w l E := ∃ v, Row w e 1 (fun _ => v) ∧ w.ownsRow B 56 3 v l.length (flds l) ∧ v.ownBlock ≠ some e ∧ ∀ k, E k ↔ (k = e ∨ v.ownBlock = some k)
  frame := fun ⟨v, hr, ho, hn, hE⟩ hk => ⟨v, hr.of_heap (hk e ((hE e).2 (Or.inl rfl))), ownsRow_of_heap ho fun g hg => hk g ((hE g).2 (Or.inr hg)), hn, hE⟩
  lt := fun ⟨v, hr, ho, hn, hE⟩ hk => ((hE _).1 hk).elim (fun h => h ▸ hr.lt) (fun h => (ho.lt _ h).2)
  kind := fun ⟨v, hr, ho, hn, hE⟩ hk hu => by
    rcases (hE _).1 hk with rfl | h
    · obtain ⟨cs, t, hb, -, -, ht⟩ := hr
      obtain ⟨cs', fz, hb'⟩ := hu
      rw [hb] at hb'; injection hb' with hb'; injection hb' with _ hb' _; exact ht hb'
    · obtain ⟨c, fz, hc⟩ := Lib.ownsRow_kind ho _ h
      obtain ⟨cs', fz', hb'⟩ := hu
      rw [hc] at hb'; injection hb' with hb'; injection hb' with _ hb' _; exact absurd hb' (by decide)

theorem infoHF2 : (Tryd.prog.info? 56).map (fun i => (i.zero, i.size, i.bytes)) = some (some (.agg #[.string ByteArray.empty, .string ByteArray.empty, .bool false]), 3, 40) := by kernel_rfl

set_option maxHeartbeats 1000000 in
set_option maxRecDepth 100000 in
theorem emOk_full (B0 B e : Nat) (hBe : B ≤ e) : EmOk B0 (fullEm B e) where
  call := by
    refine ⟨48, .pointer (some ⟨e, 0, none⟩), rfl, fun args w => ?_, ?_⟩
    · simp [callFunc, Tryd.func48]
      rw [if_neg (by decide +kernel), if_neg]
      intro h
      have h2 : Tryd.f48.body.isSome = true := by kernel_rfl
      rw [h] at h2; cases h2
    · intro w l E f _ ⟨v, hr, hown, hne, hE⟩ hl
      have hB : B ≤ w.heap.size := Nat.le_trans hBe (Nat.le_of_lt hr.lt)
      obtain ⟨a, cap, rfl⟩ := own_form hown
      have q := hr.cell (i := 0) (by decide)
      have fz := hr.unfrozen 0 none
      have hew := hr.lt
      obtain ⟨i0, hi, hz0, hz1, hzb⟩ := info_parts infoHF2
      have Hr := Lib.hid hr
      have Hown := Lib.hid hown
      have Hne := Lib.hid hne
      have HE := Lib.hid hE
      have Hi := Lib.hid hi
      clear hr hown hne hE hi
      unfold fldV
      have hb1 : Below w.heap.size w (w.alloc (.cells #[.string ⟨f.name.toArray⟩, .string ⟨f.value.toArray⟩, .bool f.sens] 56)) := (Below.refl _ _).alloc (Nat.le_refl _) _
      have q0 : (w.alloc (.cells #[.string ⟨f.name.toArray⟩, .string ⟨f.value.toArray⟩, .bool f.sens] 56)).cell? ⟨w.heap.size, 0, none⟩ = some (.string ⟨f.name.toArray⟩) := (Lib.cell_of_heap (heap_alloc_new w _) 0).trans rfl
      have q1 : (w.alloc (.cells #[.string ⟨f.name.toArray⟩, .string ⟨f.value.toArray⟩, .bool f.sens] 56)).cell? ⟨w.heap.size, 1, none⟩ = some (.string ⟨f.value.toArray⟩) := (Lib.cell_of_heap (heap_alloc_new w _) 1).trans rfl
      have q2 : (w.alloc (.cells #[.string ⟨f.name.toArray⟩, .string ⟨f.value.toArray⟩, .bool f.sens] 56)).cell? ⟨w.heap.size, 2, none⟩ = some (.bool f.sens) := (Lib.cell_of_heap (heap_alloc_new w _) 2).trans rfl
      have qe := (hb1.cell (p := ⟨e, 0, none⟩) hew).trans q
      have HQ := Lib.hid (And.intro qe (And.intro q0 (And.intro q1 q2)))
      have Hb1 := Lib.hid hb1
      clear hb1 q0 q1 q2 qe
      go_enter Tryd.func48, Tryd.ntmps48
      have hsz1 : w.heap.size < (w.alloc (.cells #[.string ⟨f.name.toArray⟩, .string ⟨f.value.toArray⟩, .bool f.sens] 56)).heap.size := by simp
      have hb12 : Below (w.alloc (.cells #[.string ⟨f.name.toArray⟩, .string ⟨f.value.toArray⟩, .bool f.sens] 56)).heap.size (w.alloc (.cells #[.string ⟨f.name.toArray⟩, .string ⟨f.value.toArray⟩, .bool f.sens] 56)) ((w.alloc (.cells #[.string ⟨f.name.toArray⟩, .string ⟨f.value.toArray⟩, .bool f.sens] 56)).alloc (.cells #[.string ⟨f.name.toArray⟩, .string ⟨f.value.toArray⟩, .bool f.sens] 56)) := (Below.refl _ _).alloc (Nat.le_refl _) _
      have hb2 := Hb1.out.trans (hb12.mono Hb1.out.size)
      have Hown2 := Lib.hid (ownsRow_of_heap Hown.out fun g hg => hb2.block g (Hown.out.lt g hg).2)
      have Hr2 := Lib.hid (Hr.out.of_heap (hb2.block e hew))
      have Hn2 := Lib.hid (news_of_new (w.alloc (.cells #[.string ⟨f.name.toArray⟩, .string ⟨f.value.toArray⟩, .bool f.sens] 56)) (fCells f) 56)
      have Hb2 := Lib.hid hb2
      have qe := HQ.out.1
      have q0 := HQ.out.2.1
      have q1 := HQ.out.2.2.1
      have q2 := HQ.out.2.2.2
      clear hb2 hb12 hsz1
      go_wp2_with (at_builtin; (refine wpList_append_own_at _ rfl _ _ 69 rfl B 56 i0 (.agg #[.string ByteArray.empty, .string ByteArray.empty, .bool false]) 3 40 Tryd.underlying69 Hi.out hz0 hz1 hzb rfl (by decide) (.slice a l.length cap) l.length (flds l) rfl ?a1 ⟨w.heap.size + 1, 0, none⟩ 1 1 (fCells f) rfl rfl ?a2 ?a3 ?a4 ?a5 ?a6 ?_))
      case a1 => exact Hown2.out
      case a2 =>
        intro j u hu
        have := Hn2.out j u hu
        rwa [show (w.alloc (.cells #[.string ⟨f.name.toArray⟩, .string ⟨f.value.toArray⟩, .bool f.sens] 56)).heap.size = w.heap.size + 1 by simp] at this
      case a3 => intro u hu; simp [fCells] at hu; rcases hu with rfl | rfl | rfl <;> rfl
      case a4 => unfold maxLen; omega
      case a5 => omega
      case a6 => have := Hb2.out.size; omega
      intro v4 w4 hown4 hgrow4 _ hat4
      obtain ⟨a4, cap4, rfl⟩ := own_form hown4
      have hs34 := hgrow4.size
      have hs02 : w.heap.size + 1 + 1 ≤ w4.heap.size := by simpa using hs34
      have hke : w4.heap[e]? = _ := hgrow4.block e (by have := Hb2.out.size; omega) (fun h => Hne.out h.symm)
      have hr4 := Hr2.out.of_heap hke
      have f4 := hr4.unfrozen 0 none
      have c4 := hr4.cell (i := 0) (by decide)
      have hb4 : Upd (fun k => k = e ∨ (Value.slice a l.length cap).ownBlock = some k) w w4 := (Upd.of_below Hb2.out).step (Upd.of_grown hgrow4 fun k h => Or.inr h)
      have hnv : (Value.slice a4 (l.length + 1) cap4).ownBlock ≠ some e := by
        rcases hat4 with h | h
        · rw [h]; exact Hne.out
        · rw [h]; intro h'; have := Option.some.inj h'; omega
      have hEv : ∀ k, (Value.slice a4 (l.length + 1) cap4).ownBlock = some k → E k ∨ w.heap.size ≤ k := fun k hk => by
        rcases hat4 with h | h
        · exact Or.inl ((HE.out k).2 (Or.inr (h ▸ hk)))
        · rw [h] at hk; have := Option.some.inj hk; exact Or.inr (by omega)
      have Hown4 := Lib.hid hown4
      have Hr4 := Lib.hid hr4
      have Hb4 := Lib.hid hb4
      have Hnv := Lib.hid hnv
      have HEv := Lib.hid hEv
      clear hown4 hgrow4 hat4 hke hr4 hb4 hnv hEv hs34
      go_wp2_with fail
      go_end0
      refine ⟨rfl, fun k => k = e ∨ (Value.slice a4 (l.length + 1) cap4).ownBlock = some k, ⟨(.slice a4 (l.length + 1) cap4), ?_, ?_, Hnv.out, fun k => Iff.rfl⟩, ?_, ?_⟩
      · exact (Hr4.out.set 0 (.slice a4 (l.length + 1) cap4)).congr fun i hi => by simp [show i = 0 by omega]
      · rw [flds_append, List.length_append]
        refine ownsRow_of_heap ?_ fun g' hg => other_set (fun h => Hnv.out (by rw [hg, h]))
        simpa [flds, fCells] using Hown4.out
      · rintro k (h | h)
        · exact Or.inl ((HE.out k).2 (Or.inl h))
        · exact HEv.out k h
      · refine Upd.setCell (Hb4.out.mono fun k h => (HE.out k).2 h) (a := ⟨e, 0, none⟩) (Or.inl ((HE.out e).2 (Or.inl rfl))) _
end Go.Proofs.YtlkpeeoippbdoaaDoor
/-
  The contract of impl.fromFields: the fields of the library as the thin package's.
-/
namespace Go.Proofs.YtlkpeeoippbdoaaDoor
open Go.ChangeShapes Go.WideShapes Go.ChangeAt Go.RowKit

set_option maxHeartbeats 1000000 in
set_option maxRecDepth 100000 in
theorem fromFields_any (l : List HD.Fld) (a : Option Addr) (cap : Nat) (w : World) (hl : l.length ≤ 2 ^ 40) (hcell : ∀ g o, a = some ⟨g, o, none⟩ → ∀ j u, (flds l)[j]? = some u → w.cell? ⟨g, o + j, none⟩ = some u) (ha : l ≠ [] → ∃ g o, a = some ⟨g, o, none⟩) (hc : l.length ≤ cap) :
    Calls Tryd.prog 32 #[.slice a l.length cap] w fun e w' => ∃ v, e = .returned v ∧ w'.ownsRow w.heap.size 42 3 v l.length (flds l) ∧ Below w.heap.size w w' := by
  obtain ⟨n, hn⟩ : ∃ n, n = l.length := ⟨_, rfl⟩
  rw [← hn] at hl hc ⊢
  obtain ⟨i0, hi, hz0, hz1, hzb⟩ := info_parts infoFld'
  have Hi := Lib.hid hi
  have Hn := Lib.hid hn
  have Hcell := Lib.hid hcell
  have Ha := Lib.hid ha
  clear hi hn hcell ha
  go_enter Tryd.func32, Tryd.ntmps32
  go_wp2_with fail
  go_loopw [3, 8] (fun v3 v8 wr => ∃ k, v8 = .int .i64 (k : Nat) ∧ k ≤ n ∧ wr.ownsRow w.heap.size 42 3 v3 k (flds (l.take k)) ∧ Below w.heap.size w wr) (fun _ v8 _ => n - (intOf v8).toNat)
  case atStart => exact ⟨0, rfl, Nat.zero_le _, by simpa [flds] using World.ownsRow_nil _ _ _ _, Below.refl _ _⟩
  case round =>
    obtain ⟨k, rfl, hk, hown, hb⟩ := hrel
    obtain ⟨a3, c3, rfl⟩ := own_form hown
    have Hown := Lib.hid hown
    have Hb := Lib.hid hb
    have hsz := hb.size
    clear hown hb
    rcases Nat.lt_or_ge k n with hlt | hge
    · have hkl : k < l.length := by rw [← Hn.out]; exact hlt
      obtain ⟨g, o, rfl⟩ := Ha.out (fun h => by rw [h] at hkl; simp at hkl)
      have hf := flds_at l k hkl
      obtain ⟨f, hfe⟩ : ∃ f, f = l[k] := ⟨_, rfl⟩
      rw [← hfe] at hf
      have q0 : wr.cell? ⟨g, o + k * 3, none⟩ = some (.string ⟨f.name.toArray⟩) := (Hb.out.cell (World.block_lt_of_cell? _ _ (Hcell.out g o rfl _ _ hf.1))).trans (Hcell.out g o rfl _ _ hf.1)
      have q1 : wr.cell? ⟨g, o + k * 3 + 1, none⟩ = some (.string ⟨f.value.toArray⟩) := (Hb.out.cell (World.block_lt_of_cell? _ _ (Hcell.out g o rfl _ _ hf.2.1))).trans (Hcell.out g o rfl _ _ hf.2.1)
      have q2 : wr.cell? ⟨g, o + k * 3 + 2, none⟩ = some (.bool f.sens) := (Hb.out.cell (World.block_lt_of_cell? _ _ (Hcell.out g o rfl _ _ hf.2.2))).trans (Hcell.out g o rfl _ _ hf.2.2)
      have htake : flds (l.take (k + 1)) = flds (l.take k) ++ fCells f := by
        rw [← List.take_append_getElem hkl, flds_append, hfe]
        simp [flds]
      have hkN : decide (k < n) = true := decide_eq_true hlt
      have hkI : (k : Int) < (n : Int) := by omega
      have hcI : k < cap := by omega
      have Htake := Lib.hid htake
      clear hf hfe htake
      go_wp2_with fail
      refine (fromField_any f _).mono ?_
      rintro e w2 ⟨rfl, hb2⟩
      have hbw : Below wr.heap.size wr w2 := ((Below.refl _ wr).alloc (Nat.le_refl _) _).trans (hb2.mono (by simp))
      have Hbw := Lib.hid hbw
      have hs2 := hbw.size
      have hb3 : Below w2.heap.size w2 (w2.alloc (.cells (fCells f).toArray 42)) := (Below.refl _ _).alloc (Nat.le_refl _) _
      have hbw3 := hbw.trans (hb3.mono hs2)
      have Hown3 := Lib.hid (ownsRow_of_heap Hown.out fun g' hg => hbw3.block g' (Hown.out.lt g' hg).2)
      have Hn3 := Lib.hid (news_of_new w2 (fCells f) 42)
      have Hb3 := Lib.hid (Hb.out.trans (hbw3.mono Hb.out.size))
      clear hb2 hbw hb3 hbw3
      unfold fldV
      go_wp2_with (at_builtin; (refine wpList_append_own_at _ rfl _ _ 29 rfl w.heap.size 42 i0 (.agg #[.string ByteArray.empty, .string ByteArray.empty, .bool false]) 3 40 Tryd.underlying29 Hi.out hz0 hz1 hzb rfl (by decide) (.slice a3 k c3) k (flds (l.take k)) rfl ?a1 ⟨w2.heap.size, 0, none⟩ 1 1 (fCells f) rfl rfl ?a2 ?a3 ?a4 ?a5 ?a6 ?_))
      case a1 => exact Hown3.out
      case a2 => exact Hn3.out
      case a3 => intro u hu; simp [fCells] at hu; rcases hu with rfl | rfl | rfl <;> rfl
      case a4 => unfold maxLen; omega
      case a5 => omega
      case a6 => exact Hb3.out.size
      intro v4 w4 hown4 hgrow4 _ _
      rw [← Htake.out] at hown4
      have Hb4 := Lib.hid (Hb3.out.grown hgrow4 Hb3.out.size (fun g' hg => (Hown.out.lt g' hg).1))
      have Hown4 := Lib.hid hown4
      clear hown4 hgrow4
      go_wp2_with fail
      exact ⟨⟨k + 1, by go_num, hlt, Hown4.out, Hb4.out⟩, by simp [intOf]; omega⟩
    · obtain rfl : k = n := Nat.le_antisymm hk hge
      go_wp2_with fail
      go_ret
      refine ⟨_, rfl, ?_, Hb.out⟩
      have h1 := Hown.out
      have e1 : l.take k = l := by rw [Hn.out]; exact List.take_length
      rw [e1] at h1
      exact h1
theorem fromFields_fsl (l : List HD.Fld) (v : Value) (w : World) (hl : l.length ≤ 2 ^ 40) (h : FSl w v l) :
    Calls Tryd.prog 32 #[v] w fun e w' => ∃ v', e = .returned v' ∧ w'.ownsRow w.heap.size 42 3 v' l.length (flds l) ∧ Below w.heap.size w w' := by
  obtain ⟨a, c, rfl, hc, h⟩ := h
  by_cases hne : l = []
  · subst hne
    exact fromFields_any [] a c w (by decide) (fun g o _ j u hu => by simp [flds] at hu) (fun h => absurd rfl h) (Nat.zero_le _)
  · obtain ⟨g, o, rfl, hcl⟩ := h hne
    exact fromFields_any l _ c w hl (fun g' o' e j u hu => by injection e with e; injection e with e1 e2; subst e1; subst e2; exact hcl j u hu) (fun _ => ⟨g, o, rfl⟩) hc
end Go.Proofs.YtlkpeeoippbdoaaDoor
/-
  The contract of (*hpack.Decoder).DecodeFull.
-/
namespace Go.Proofs.YtlkpeeoippbdoaaDoor
open Go.ChangeShapes Go.WideShapes Go.ChangeAt Go.RowKit

theorem Live.swap {B : Nat} {w w' : World} {d : Nat} {M M' : Emitter} {s : HD.St} {l l' : List HD.Fld} {p : DP} {f' : Nat → Value} {E' : Nat → Prop} (h : Live B w d M s l p) (hr : Row w' d 16 f') (hf : ∀ i, i ≠ 8 → f' i = p.f i) (h8 : f' 8 = M'.val)
    (ho : ∀ k, k ≠ d → tabOwn d p.ev p.m1 p.m2 k → w'.heap[k]? = w.heap[k]?) (hm : M'.holds w' l' E') (hB : ∀ k, E' k → B ≤ k) (ha : ∀ k, tabOwn d p.ev p.m1 p.m2 k → ¬ E' k) : Live B w' d M' s l' { p with f := f', E := E' } := by
  have hT := h.mem.tab
  exact ⟨⟨⟨hr, hT.big, (hf 0 (by decide)).trans hT.c0, (hf 1 (by decide)).trans hT.c1, (hf 2 (by decide)).trans hT.c2, (hf 3 (by decide)).trans hT.c3, (hf 4 (by decide)).trans hT.c4,
    ownsRow_of_heap hT.own fun g hg => ho g (fun e => hT.ne (by rw [hg, e])) (Or.inr (Or.inl hg)), hT.ne, hT.mm, hT.lo, hT.map1.of_heap (ho _ (fun e => hT.b_m1 e.symm) (Or.inr (Or.inr (Or.inl rfl)))), hT.map2.of_heap (ho _ (fun e => hT.b_m2 e.symm) (Or.inr (Or.inr (Or.inr rfl))))⟩,
    ⟨(hf 5 (by decide)).trans h.mem.sized.size, (hf 6 (by decide)).trans h.mem.sized.max⟩, (hf 7 (by decide)).trans h.mem.allowed, (hf 9 (by decide)).trans h.mem.on, (hf 10 (by decide)).trans h.mem.most, (hf 15 (by decide)).trans h.mem.first⟩, hm, hB, h8, ha, h.ok⟩

theorem back_deferred (sv bd : Addr) (d : Nat) (F : FuncId) (ca cb : Array Value) (x : Value) (u : FrameMode) (w : World) (h0 : w.cell? sv = some (.func (.func F) ca cb)) (h1 : w.cell? bd = some (.pointer (some ⟨d, 0, none⟩))) (h8 : w.cell? ⟨d, 8, none⟩ = some x) (fz : w.frozen? ⟨d, 8, none⟩ = false) :
    CallsD Tryd.prog 47 #[.pointer (some sv), .pointer (some bd)] u w fun e u' w' => u' = u ∧ (e = .returned (.tuple #[]) ∧ w' = w.setCell ⟨d, 8, none⟩ (.func (.func F) ca cb)) := by
  go_enter_d Tryd.func47, Tryd.ntmps47
  go_wp2_with fail
  go_end0
  exact ⟨rfl, rfl⟩

/-- How Close ends. -/
structure ClEnds (B : Nat) (w : World) (d : Nat) (M : Emitter) (l : List HD.Fld) (p : DP) (aI : Addr) (r : HD.WR) (e : Ending) (w' : World) : Prop where
  ret : ∃ x, e = .returned x ∧ ErrO w.heap.size w' aI r.err x
  mem : ∃ f', Live B w' d M r.st l { p with f := f' } ∧ Save B w' d f' r.save
  kept : Upd (fun k => k = d) w w'
theorem close_live (B : Nat) (w : World) (d : Nat) (M : Emitter) (s : HD.St) (save : HD.Bs) (l : List HD.Fld) (p : DP) (aI : Addr) (hL : Live B w d M s l p) (hV : Save B w d p.f save) (hlen : save.length < 2 ^ 46) :
    Calls Tryd.prog 30 #[.pointer (some ⟨d, 0, none⟩)] w (ClEnds B w d M l p aI (HD.close s save)) := by
  obtain ⟨c12, a12, h12⟩ : ∃ (c : Nat) (a : Option Addr), p.f 12 = .slice a save.length c := by
    obtain ⟨a, c, h⟩ := own_form hV.own
    exact ⟨c, a, h⟩
  rcases Classical.em (save = []) with hs0 | hs0
  · have h12' : p.f 12 = .slice a12 0 c12 := by rw [h12, hs0]; rfl
    refine (closeOk_any d c12 a12 p.f _ hL.row h12' hV.off _ hL.mem.first).mono ?_
    rintro e w1 ⟨rfl, hr1, hu1⟩
    have hk1 : ∀ k, k ≠ d → k < w.heap.size → w1.heap[k]? = w.heap[k]? := fun k hk hlt => hu1.block k hlt hk
    have hst : HD.close s save = ⟨{ s with first := true }, [], [], none⟩ := by simp only [HD.close, if_pos hs0]
    rw [hst]
    refine ⟨⟨_, rfl, rfl⟩, ⟨putF p.f 15 (.bool true), hL.put hr1 (fun i hi => by simp only [putF]; rw [if_neg (by omega)]) (by simp [putF]) (fun k hne ho => hk1 k hne (hL.own_lt ho)), ?_⟩, hu1⟩
    rw [← hs0]; exact hV.kept rfl rfl rfl (fun g hg => hk1 g (fun e => hV.ne (by rw [hg, e])) (hV.u8 hg).lt)
  · obtain ⟨lr, h14⟩ := hV.last
    refine (closeBad_any d save.length c12 a12 p.f _ hL.row h12 hV.off lr h14 (by unfold maxLen; omega) (List.length_pos_iff.2 hs0)).mono ?_
    rintro e w1 ⟨⟨x, rfl, hx⟩, hr1, hu1⟩
    have hk1 : ∀ k, k ≠ d → k < w.heap.size → w1.heap[k]? = w.heap[k]? := fun k hk hlt => hu1.block k hlt hk
    have hst : HD.close s save = ⟨s, [], [], some .coding⟩ := by simp only [HD.close, if_neg hs0]
    rw [hst]
    refine ⟨⟨_, rfl, ⟨x, rfl, hx⟩⟩, ⟨putF (putF p.f 12 (.slice a12 0 c12)) 14 (.int .i8 0), ?_, ?_⟩, hu1⟩
    · exact hL.put (b := s.first) hr1 (fun i hi => by simp only [putF]; rw [if_neg (by omega), if_neg (by omega)]) (by simp [putF, hL.mem.first]) (fun k hne ho => hk1 k hne (hL.own_lt ho))
    · have hown := hV.own
      rw [h12] at hown
      have hgs : ∃ g, a12 = some ⟨g, 0, none⟩ := by
        rcases hown.2 with ⟨-, h0⟩ | ⟨g, cap, cur, e, -⟩
        · exact absurd (List.eq_nil_of_length_eq_zero h0) hs0
        · injection e with e; exact ⟨g, e⟩
      obtain ⟨g, rfl⟩ := hgs
      have hg : (p.f 12).ownBlock = some g := by rw [h12]; rfl
      have hgd : g ≠ d := fun e => hV.ne (by rw [hg, e])
      refine ⟨?_, ?_, by simp [putF, hV.off], 0, by simp [putF]⟩
      · have : (putF (putF p.f 12 (.slice (some ⟨g, 0, none⟩) 0 c12)) 14 (.int .i8 0)) 12 = .slice (some ⟨g, 0, none⟩) 0 c12 := by simp [putF]
        rw [this]
        exact ownsRow_of_heap (own_reset hown) fun q hq => by injection hq with hq; subst hq; exact hk1 g hgd (hV.u8 hg).lt
      · simp [putF, Value.ownBlock, hgd]

/-- Behind the deferred call: the emitter is the old one. -/
theorem full_close {B : Nat} {w W5 wz : World} {d e : Nat} {M : Emitter} {s sz : HD.St} {l out : List HD.Fld} {p p5 pz : DP} {save : HD.Bs} (hL : Live B w d M s l p) (h5 : ∀ k, k < w.heap.size → k ≠ d → W5.heap[k]? = w.heap[k]?) (hb5 : Below B w W5) (he : w.heap.size ≤ e)
    (hp5 : ∀ k, p5.own d k → tabOwn d p.ev p.m1 p.m2 k ∨ k = e) (hLz : Live B wz d (fullEm B e) sz out pz) (hVz : Save B wz d pz.f save) (hoz : ∀ k, pz.own d k → p5.own d k ∨ W5.heap.size ≤ k) (hkz : Kept B (p5.own d) W5 wz) :
    Live B (wz.setCell ⟨d, 8, none⟩ M.val) d M sz l { pz with f := putF pz.f 8 M.val, E := p.E } ∧ Save B (wz.setCell ⟨d, 8, none⟩ M.val) d (putF pz.f 8 M.val) save ∧ (∀ k, ({ pz with f := putF pz.f 8 M.val, E := p.E } : DP).own d k → p.own d k ∨ w.heap.size ≤ k) ∧ Kept B (p.own d) w (wz.setCell ⟨d, 8, none⟩ M.val) := by
  have hs5 := hb5.size
  have hd := hL.lt
  have hlo := hL.lo
  refine ⟨hLz.swap (hLz.row.set 8 M.val) (fun i hi => by simp only [putF]; rw [if_neg hi]) (by simp [putF]) (fun k hk _ => other_set (fun h => hk h.symm)) ?_ hL.emB ?_, ?_, ?_, ?_⟩
  · refine M.frame hL.em fun k hk => ?_
    have hkl := M.lt hL.em hk
    have hkd : k ≠ d := fun h => hL.dE (h ▸ hk)
    rw [other_set (fun h => hkd h.symm), ← h5 k hkl hkd]
    refine hkz.block k (by omega) (fun h => ?_) (fun hu => M.kind hL.em hk (hu.of_heap (h5 k hkl hkd).symm))
    rcases hp5 k h with h | h
    · exact hL.apart k h hk
    · omega
  · intro k hk hE
    have hkl := M.lt hL.em hE
    rcases hoz k (Or.inl hk) with h | h
    · rcases hp5 k h with h | h
      · exact hL.apart k h hE
      · omega
    · omega
  · exact hVz.kept rfl rfl rfl (fun g hg => other_set (fun h => hVz.ne (by rw [hg, h])))
  · rintro k (h | h)
    · rcases hoz k (Or.inl h) with h | h
      · rcases hp5 k h with h | h
        · exact Or.inl (Or.inl h)
        · exact Or.inr (by omega)
      · exact Or.inr (by omega)
    · exact Or.inl (Or.inr h)
  · have k1 : Kept B (p.own d) w W5 := ⟨hb5, fun k hk hn _ => h5 k hk (fun h => hn (Or.inl (Or.inl h)))⟩
    have k2 : Kept B (p.own d) w wz := k1.trans hkz fun k hk h => (hp5 k h).elim Or.inl (fun h => by omega)
    exact k2.step (Kept.of_upd ((Upd.refl _ wz).setCell (a := ⟨d, 8, none⟩) (Or.inl (Or.inl (Or.inl rfl))) _) (Nat.le_trans hlo (by have := k2.below.size; omega)) (fun k hk => hL.ge hk))

/-- What DecodeFull tells. -/
def fullR (s : HD.St) (save v : HD.Bs) : HD.WR :=
  match (HD.write s save v).err with
  | some e => ⟨(HD.write s save v).st, [], (HD.write s save v).save, some e⟩
  | none => match (HD.close (HD.write s save v).st (HD.write s save v).save).err with
    | some e => ⟨(HD.close (HD.write s save v).st (HD.write s save v).save).st, [], (HD.close (HD.write s save v).st (HD.write s save v).save).save, some e⟩
    | none => ⟨(HD.close (HD.write s save v).st (HD.write s save v).save).st, (HD.write s save v).out, (HD.close (HD.write s save v).st (HD.write s save v).save).save, none⟩

/-- How DecodeFull ends. -/
def FEnds (B : Nat) (w : World) (d : Nat) (M : Emitter) (l : List HD.Fld) (p : DP) (aI : Addr) (N : Nat) (r : HD.WR) (e : Ending) (w' : World) : Prop :=
  ∃ x lv p', e = .returned (.tuple #[lv, x]) ∧ ErrO w.heap.size w' aI r.err x ∧ FSl w' lv r.out ∧
    Live B w' d M r.st l p' ∧ Save B w' d p'.f r.save ∧ (∀ k, p'.own d k → p.own d k ∨ w.heap.size ≤ k) ∧ Kept B (p.own d) w w' ∧ p'.cnt + r.st.ents.length + r.save.length ≤ N

set_option maxHeartbeats 4000000 in
set_option maxRecDepth 100000 in
theorem decodeFull_any (B : Nat) (w : World) (d : Nat) (M : Emitter) (hM : EmOk B M) (s : HD.St) (l : List HD.Fld) (p : DP) (aI aN aL : Addr) (save v : HD.Bs) (sa : Option Addr) (cap N : Nat)
    (hL : Live B w d M s l p) (hE : Env B w aI aN aL) (hV : Save B w d p.f save) (hG : (save ++ v).length ≤ 2 ^ 26)
    (hsrc : v = [] ∨ ∃ g o, sa = some ⟨g, o, none⟩ ∧ Buf w g o cap v ∧ IsU8 w g) (hN : p.cnt + s.ents.length + save.length + v.length ≤ N) (hN2 : N < 2 ^ 46) :
    Calls Tryd.prog 31 #[.pointer (some ⟨d, 0, none⟩), .slice sa v.length cap] w (FEnds B w d M l p aI N (fullR s save v)) := by
  have hmf : ∀ (fn : Fn) (first cap : Array Value) (w : World), (Instr.makeFunc fn first cap).run Tryd.prog w = .ok (.func fn first cap) w := fun _ _ _ _ => rfl
  obtain ⟨F, cv, hv, -, -⟩ := hM.call
  have c8 := hL.row.cell' (i := 8) (by decide) (hL.emv.trans hv)
  have fz8 := hL.row.unfrozen 8 none
  have hdl := hL.lt
  have HL := Lib.hid hL
  have HE := Lib.hid hE
  have HV := Lib.hid hV
  have Hsrc := Lib.hid hsrc
  have HM := Lib.hid hM
  have Hv := Lib.hid hv
  clear hL hE hV hsrc hM hv
  have hb3 : Below w.heap.size w (((w.alloc (.cells #[.pointer (some ⟨d, 0, none⟩)] 53)).alloc (.cells #[.slice none 0 0] 69)).alloc (.cells #[.func (.func F) #[] #[cv]] 58)) := (((Below.refl _ w).alloc (Nat.le_refl _) _).alloc (by simp) _).alloc (by simp; omega) _
  obtain ⟨W3, hW3⟩ : ∃ W3, W3 = (((w.alloc (.cells #[.pointer (some ⟨d, 0, none⟩)] 53)).alloc (.cells #[.slice none 0 0] 69)).alloc (.cells #[.func (.func F) #[] #[cv]] 58)) := ⟨_, rfl⟩
  have hs3 : W3.heap.size = w.heap.size + 3 := by rw [hW3]; simp
  have h0 : W3.heap[w.heap.size]? = some (.cells #[.pointer (some ⟨d, 0, none⟩)] 53 (0, 0)) := by
    rw [hW3, Below.heap_alloc _ _ _ (by simp; omega), Below.heap_alloc _ _ _ (by simp)]; exact heap_alloc_new w _
  have h1 : W3.heap[w.heap.size + 1]? = some (.cells #[.slice none 0 0] 69 (0, 0)) := by
    rw [hW3, Below.heap_alloc _ _ _ (by simp)]
    have := heap_alloc_new (w.alloc (.cells #[.pointer (some ⟨d, 0, none⟩)] 53)) (.cells #[.slice none 0 0] 69)
    simpa using this
  have h2 : W3.heap[w.heap.size + 1 + 1]? = some (.cells #[.func (.func F) #[] #[cv]] 58 (0, 0)) := by
    rw [hW3]
    have := heap_alloc_new ((w.alloc (.cells #[.pointer (some ⟨d, 0, none⟩)] 53)).alloc (.cells #[.slice none 0 0] 69)) (.cells #[.func (.func F) #[] #[cv]] 58)
    simpa using this
  have hr3 : Row W3 d 16 p.f := HL.out.row.of_heap (by rw [hW3]; exact hb3.block d hdl)
  have x8 := hr3.cell' (i := 8) (by decide) (HL.out.emv.trans Hv.out)
  have y8 := hr3.unfrozen 8 none
  have x0 : (W3.setCell ⟨d, 8, none⟩ (.func (.func 48) #[] #[.pointer (some ⟨w.heap.size + 1, 0, none⟩)])).cell? ⟨w.heap.size, 0, none⟩ = some (.pointer (some ⟨d, 0, none⟩)) := by
    rw [World.cell?_of_block (a := ⟨w.heap.size, 0, none⟩) (other_set (by show d ≠ w.heap.size; omega))]
    exact (Lib.cell_of_heap h0 0).trans rfl
  rw [← hW3] at hb3
  have HB3 := Lib.hid hb3
  have HS3 := Lib.hid hs3
  have HH0 := Lib.hid h0
  have HH1 := Lib.hid h1
  have HH2 := Lib.hid h2
  have HR3 := Lib.hid hr3
  have HX := Lib.hid (And.intro x8 (And.intro y8 x0))
  have HW3 := Lib.hid hW3
  clear hb3 hs3 h0 h1 h2 hr3 hW3
  obtain ⟨e, he⟩ : ∃ e, e = w.heap.size + 1 := ⟨_, rfl⟩
  obtain ⟨W5, hW5⟩ : ∃ W5, W5 = W3.setCell ⟨d, 8, none⟩ (.func (.func 48) #[] #[.pointer (some ⟨w.heap.size + 1, 0, none⟩)]) := ⟨_, rfl⟩
  have hk5 : ∀ k, k ≠ d → W5.heap[k]? = W3.heap[k]? := fun k hk => by rw [hW5]; exact other_set (fun h => hk h.symm)
  have h5 : ∀ k, k < w.heap.size → k ≠ d → W5.heap[k]? = w.heap[k]? := fun k hk hd => (hk5 k hd).trans (HB3.out.block k hk)
  have hb5 : Below B w W5 := by
    rw [hW5]
    exact ((HB3.out.mono HL.out.lo)).trans ⟨rfl, rfl, rfl, by rw [World.size_setCell]; exact Nat.le_refl _, fun k hk => other_set (by have := HL.out.ge (Or.inl (Or.inl rfl) : p.own d d); show d ≠ k; omega)⟩
  have hr5 : Row W5 d 16 (putF p.f 8 (fullEm B e).val) := by rw [hW5, he]; exact HR3.out.set 8 _
  have hre : Row W5 e 1 (fun _ => .slice none 0 0) := by
    refine ⟨#[.slice none 0 0], 69, ?_, rfl, fun i hi => by simp [show i = 0 by omega], by decide⟩
    rw [hk5 e (by omega), he]; exact HH1.out
  have hl5 : Live B W5 d (fullEm B e) s [] { p with f := putF p.f 8 (fullEm B e).val, E := fun k => k = e } := by
    refine HL.out.swap hr5 (fun i hi => by simp only [putF]; rw [if_neg hi]) (by simp [putF]) (fun k hk ho => h5 k (HL.out.own_lt (Or.inl ho)) hk) ⟨.slice none 0 0, hre, World.ownsRow_nil _ _ _ _, by simp [Value.ownBlock], fun k => by simp [Value.ownBlock]⟩ (fun k hk => by have := HL.out.lo; omega) (fun k hk h => ?_)
    have := HL.out.own_lt (Or.inl hk)
    omega
  have hv5 : Save B W5 d (putF p.f 8 (fullEm B e).val) save := HV.out.kept rfl rfl rfl (fun g hg => h5 g (HV.out.u8 hg).lt (fun h => HV.out.ne (by rw [hg, h])))
  have hsrc5 : v = [] ∨ ∃ g o, sa = some ⟨g, o, none⟩ ∧ Buf W5 g o cap v ∧ IsU8 W5 g := by
    rcases Hsrc.out with h | ⟨g, o, e1, hb, hu⟩
    · exact Or.inl h
    · have hg := h5 g hu.lt (fun h => HL.out.kind hu (Or.inl (Or.inl h)))
      exact Or.inr ⟨g, o, e1, hb.kept (fun _ => hg), hu.of_heap hg⟩
  have hwr := write_any B W5 d (fullEm B e) s [] _ aI aN aL _ (stepsAll (emOk_full B B e (by have := HL.out.lo; omega))) save v sa cap N hl5 (HE.out.below hb5) hv5 hG hsrc5 hN hN2 (by simp only [List.length_nil]; omega)
  have q0 : W5.heap[w.heap.size]? = some (.cells #[.pointer (some ⟨d, 0, none⟩)] 53 (0, 0)) := (hk5 _ (by omega)).trans HH0.out
  have q2 : W5.heap[w.heap.size + 1 + 1]? = some (.cells #[.func (.func F) #[] #[cv]] 58 (0, 0)) := (hk5 _ (by omega)).trans HH2.out
  have hs5 : W5.heap.size = w.heap.size + 3 := by rw [hW5, World.size_setCell]; exact HS3.out
  have H5 := Lib.hid h5
  have HB5 := Lib.hid hb5
  have HWr := Lib.hid hwr
  have HQ0 := Lib.hid q0
  have HQ2 := Lib.hid q2
  have HS5 := Lib.hid hs5
  have HW5 := Lib.hid hW5
  have He := Lib.hid he
  clear hk5 h5 hb5 hr5 hre hl5 hv5 hsrc5 hwr q0 q2 hs5 hW5 he
  rw [HW3.out] at x8 y8 x0
  go_enter_defers Tryd.func31, Tryd.ntmps31
  go_wp2_with fail
  rw [← HW3.out, ← HW5.out]
  clear x8 y8 x0
  refine HWr.out.mono ?_
  rintro y w6 ⟨⟨x, rfl, hx⟩, p6, hl6, hv6, ho6, hk6, hn6⟩
  rw [List.nil_append] at hl6
  have hkk : ∀ k, w.heap.size ≤ k → k < W5.heap.size → k ≠ e → ¬ IsU8 W5 k → w6.heap[k]? = W5.heap[k]? := fun k hk hlt hne hu => hk6.block k hlt (fun h => by
    rcases h with h | h
    · have := HL.out.own_lt (Or.inl h); omega
    · exact hne h) hu
  have u0 : ¬ IsU8 W5 w.heap.size := fun ⟨cs, fz, h⟩ => by rw [HQ0.out] at h; injection h with h; injection h with _ h _; exact absurd h (by decide)
  have u2 : ¬ IsU8 W5 (w.heap.size + 1 + 1) := fun ⟨cs, fz, h⟩ => by rw [HQ2.out] at h; injection h with h; injection h with _ h _; exact absurd h (by decide)
  have k0 := (hkk _ (Nat.le_refl _) (by have := HS5.out; omega) (by have := He.out; omega) u0).trans HQ0.out
  have k2 := (hkk _ (by omega) (by have := HS5.out; omega) (by have := He.out; omega) u2).trans HQ2.out
  have x0 : w6.cell? ⟨w.heap.size, 0, none⟩ = some (.pointer (some ⟨d, 0, none⟩)) := (Lib.cell_of_heap k0 0).trans rfl
  have x2 : w6.cell? ⟨w.heap.size + 1 + 1, 0, none⟩ = some (.func (.func F) #[] #[cv]) := (Lib.cell_of_heap k2 0).trans rfl
  have x8 := hl6.row.cell' (i := 8) (by decide) hl6.emv
  have y8 := hl6.row.unfrozen 8 none
  obtain ⟨er, her⟩ : ∃ er, er = (HD.write s save v).err := ⟨_, rfl⟩
  rw [← her] at hx
  have HX0 := Lib.hid x0
  have HX2 := Lib.hid x2
  have HX8 := Lib.hid x8
  have HY8 := Lib.hid y8
  have HK0 := Lib.hid k0
  have HK2 := Lib.hid k2
  have Hl6 := Lib.hid hl6
  have Hv6 := Lib.hid hv6
  have Ho6 := Lib.hid ho6
  have Hk6 := Lib.hid hk6
  have Hn6 := Lib.hid hn6
  have Hx := Lib.hid hx
  have Her := Lib.hid her
  clear hx hl6 hv6 ho6 hk6 hn6 hkk u0 u2 k0 k2 x2 x8 y8 her
  cases er with
  | some er =>
    obtain ⟨tx, ty, hxe⟩ : ∃ tx ty, x = .iface tx ty := by
      have h := Hx.out
      cases er with
      | huff => exact ⟨_, _, h⟩
      | coding => obtain ⟨a, h, -⟩ := h; exact ⟨_, _, h⟩
      | index i => exact ⟨_, _, h⟩
    subst hxe
    go_wp2_with fail
    refine leaves_cons (f := 47) (args := #[.pointer (some ⟨w.heap.size + 1 + 1, 0, none⟩), .pointer (some ⟨w.heap.size, 0, none⟩)]) (by simp) (by simp [go_sem]) ?_
    refine (back_deferred ⟨w.heap.size + 1 + 1, 0, none⟩ ⟨w.heap.size, 0, none⟩ d F #[] #[cv] _ .returning w6 HX2.out HX0.out HX8.out HY8.out).mono ?_
    rintro y u' w7 ⟨rfl, rfl, rfl⟩
    refine ⟨.tuple #[.slice none 0 0, .iface tx ty], by simp only [results, Tryd.results31]; go_simp, ?_⟩
    have hc := full_close (p5 := { p with f := putF p.f 8 (fullEm B e).val, E := fun k => k = e }) HL.out H5.out HB5.out (by have := He.out; omega : w.heap.size ≤ e) (fun k h => h) Hl6.out Hv6.out Ho6.out Hk6.out
    rw [Hv.out] at hc
    have hr : fullR s save v = ⟨(HD.write s save v).st, [], (HD.write s save v).save, some er⟩ := by unfold fullR; rw [← Her.out]
    rw [hr]
    exact ⟨_, _, _, rfl, ErrV.move Hx.out (by have := HS5.out; omega) (fun k hk _ => other_set (by have := HS5.out; show d ≠ k; omega)), ⟨none, 0, rfl, Nat.le_refl _, fun h => absurd rfl h⟩, hc.1, hc.2.1, hc.2.2.1, hc.2.2.2, Hn6.out⟩
  | none =>
    obtain rfl : x = .nilIface := Hx.out
    go_wp2_with fail
    refine (close_live B w6 d (fullEm B e) _ _ _ p6 aI Hl6.out Hv6.out (by have := Hn6.out; omega)).mono ?_
    rintro y w7 ⟨⟨x7, rfl, hx7⟩, ⟨f7, hl7, hv7⟩, hu7⟩
    have hs6 : w.heap.size + 3 ≤ w6.heap.size := by have := Hk6.out.below.size; have := HS5.out; omega
    have hd6 : d < w6.heap.size := by omega
    have k0 := (hu7.block w.heap.size (by omega) (by omega)).trans HK0.out
    have k2 := (hu7.block (w.heap.size + 1 + 1) (by omega) (by omega)).trans HK2.out
    have x0 : w7.cell? ⟨w.heap.size, 0, none⟩ = some (.pointer (some ⟨d, 0, none⟩)) := (Lib.cell_of_heap k0 0).trans rfl
    have x2 : w7.cell? ⟨w.heap.size + 1 + 1, 0, none⟩ = some (.func (.func F) #[] #[cv]) := (Lib.cell_of_heap k2 0).trans rfl
    have x8 := hl7.row.cell' (i := 8) (by decide) hl7.emv
    have y8 := hl7.row.unfrozen 8 none
    obtain ⟨lv, hre, hown, hne, hEE⟩ := hl7.em
    have x1 : w7.cell? ⟨w.heap.size + 1, 0, none⟩ = some lv := by rw [← He.out]; exact hre.cell (by decide)
    have hk7 := Hk6.out.step (Kept.of_upd (hu7.mono fun k h => (h ▸ Or.inl (Or.inl rfl) : DP.own d { p with f := putF p.f 8 (fullEm B e).val, E := fun k => k = e } k)) (by have := HL.out.lo; omega) (fun k hk => by
      rcases hk with h | h
      · exact HL.out.ge (Or.inl h)
      · have := HL.out.lo; have := He.out; omega))
    obtain ⟨R7, hR7⟩ : ∃ R7, R7 = HD.close (HD.write s save v).st (HD.write s save v).save := ⟨_, rfl⟩
    rw [← hR7] at hx7 hl7 hv7
    have hn7 : p6.cnt + R7.st.ents.length + R7.save.length ≤ N := by
      have h := Hn6.out
      rw [hR7]; unfold HD.close
      split <;> simp <;> omega
    obtain ⟨a7, c7, rfl⟩ := own_form hown
    have hdlv : ∀ g, (Value.slice a7 (HD.write s save v).out.length c7).ownBlock = some g → g ≠ d := fun g hg h => hl7.dE ((hEE d).2 (Or.inr (h ▸ hg)))
    have hfs : FSl (w7.setCell ⟨d, 8, none⟩ M.val) (.slice a7 (HD.write s save v).out.length c7) (HD.write s save v).out := FSl.of_own (ownsRow_of_heap hown fun g hg => other_set (fun h => hdlv g hg h.symm))
    have hc := full_close (p5 := { p with f := putF p.f 8 (fullEm B e).val, E := fun k => k = e }) HL.out H5.out HB5.out (by have := He.out; omega : w.heap.size ≤ e) (fun k h => h) hl7 hv7 Ho6.out hk7
    rw [Hv.out] at hc hfs
    have HX0 := Lib.hid x0
    have HX2 := Lib.hid x2
    have HX8 := Lib.hid x8
    have HY8 := Lib.hid y8
    have Hc := Lib.hid hc
    have Hfs := Lib.hid hfs
    have Hx7 := Lib.hid hx7
    have HR7 := Lib.hid hR7
    have Hn7 := Lib.hid hn7
    clear k0 k2 x2 x8 y8 hre hown hne hEE hk7 hdlv hc hfs hx7 hl7 hv7 hR7 hn7 hu7
    obtain ⟨er7, her7⟩ : ∃ er, er = R7.err := ⟨_, rfl⟩
    have hx7 := Hx7.out
    rw [← her7] at hx7
    have Hx7' := Lib.hid hx7
    have Her7 := Lib.hid her7
    clear hx7 her7
    cases er7 with
    | some er =>
      obtain ⟨tx, ty, hxe⟩ : ∃ tx ty, x7 = .iface tx ty := by
        have h := Hx7'.out
        cases er with
        | huff => exact ⟨_, _, h⟩
        | coding => obtain ⟨a, h, -⟩ := h; exact ⟨_, _, h⟩
        | index i => exact ⟨_, _, h⟩
      subst hxe
      go_wp2_with fail
      refine leaves_cons (f := 47) (args := #[.pointer (some ⟨w.heap.size + 1 + 1, 0, none⟩), .pointer (some ⟨w.heap.size, 0, none⟩)]) (by simp) (by simp [go_sem]) ?_
      refine (back_deferred ⟨w.heap.size + 1 + 1, 0, none⟩ ⟨w.heap.size, 0, none⟩ d F #[] #[cv] _ .returning w7 HX2.out HX0.out HX8.out HY8.out).mono ?_
      rintro y u' w8 ⟨rfl, rfl, rfl⟩
      refine ⟨.tuple #[.slice none 0 0, .iface tx ty], by simp only [results, Tryd.results31]; go_simp, ?_⟩
      have hr : fullR s save v = ⟨R7.st, [], R7.save, some er⟩ := by
        unfold fullR; rw [← Her.out]; simp only []; rw [← HR7.out, ← Her7.out]
      rw [hr]
      exact ⟨_, _, _, rfl, ErrV.move Hx7'.out (by omega) (fun k hk _ => other_set (by show d ≠ k; omega)), ⟨none, 0, rfl, Nat.le_refl _, fun h => absurd rfl h⟩, Hc.out.1, Hc.out.2.1, Hc.out.2.2.1, Hc.out.2.2.2, Hn7.out⟩
    | none =>
      obtain rfl : x7 = .nilIface := Hx7'.out
      go_wp2_with fail
      refine leaves_cons (f := 47) (args := #[.pointer (some ⟨w.heap.size + 1 + 1, 0, none⟩), .pointer (some ⟨w.heap.size, 0, none⟩)]) (by simp) (by simp [go_sem]) ?_
      refine (back_deferred ⟨w.heap.size + 1 + 1, 0, none⟩ ⟨w.heap.size, 0, none⟩ d F #[] #[cv] _ .returning w7 HX2.out HX0.out HX8.out HY8.out).mono ?_
      rintro y u' w8 ⟨rfl, rfl, rfl⟩
      refine ⟨.tuple #[.slice a7 (HD.write s save v).out.length c7, .nilIface], by simp only [results, Tryd.results31]; go_simp, ?_⟩
      have hr : fullR s save v = ⟨R7.st, (HD.write s save v).out, R7.save, none⟩ := by
        unfold fullR; rw [← Her.out]; simp only []; rw [← HR7.out, ← Her7.out]
      rw [hr]
      exact ⟨_, _, _, rfl, rfl, Hfs.out, Hc.out.1, Hc.out.2.1, Hc.out.2.2.1, Hc.out.2.2.2, Hn7.out⟩
end Go.Proofs.YtlkpeeoippbdoaaDoor
/-
  A step of a decoder: DecodeFull.
-/
namespace Go.Proofs.YtlkpeeoippbdoaaDoor
open Go.ChangeShapes Go.WideShapes Go.ChangeAt Go.RowKit

/-- What is known behind the call of DecodeFull. -/
structure FMid (B : Nat) (w w2 : World) (d : Nat) (M : Emitter) (l : List HD.Fld) (p p' : DP) (aI : Addr) (N : Nat) (r : HD.WR) (x : Value) : Prop where
  err : ErrO (w.heap.size + 3) w2 aI r.err x
  live : Live B w2 d M r.st l p'
  save : Save B w2 d p'.f r.save
  own : ∀ k, p'.own d k → p.own d k ∨ w.heap.size + 3 ≤ k
  kept : Kept B (p.own d) w w2
  num : p'.cnt + r.st.ents.length + r.save.length ≤ N
  rr : Row w2 (w.heap.size + 1) 6 (fun i => ans0.getD i undef)
  ra : Row w2 (w.heap.size + 1 + 1) 6 (fun i => ans0.getD i undef)
theorem FMid.below {B : Nat} {w w2 w3 : World} {d : Nat} {M : Emitter} {l : List HD.Fld} {p p' : DP} {aI : Addr} {N : Nat} {r : HD.WR} {x : Value} (h : FMid B w w2 d M l p p' aI N r x) (hb : Below w2.heap.size w2 w3) : FMid B w w3 d M l p p' aI N r x := by
  refine ⟨?_, h.live.below hb, h.save.kept rfl rfl rfl (fun g hg => hb.block g (h.save.u8 hg).lt), h.own, h.kept.step (Kept.of_below hb h.live.lo), h.num, h.rr.below hb h.rr.lt, h.ra.below hb h.ra.lt⟩
  have hx := h.err
  cases hr : r.err with
  | none => rw [hr] at hx; exact hx
  | some er => rw [hr] at hx; exact ErrV.move hx (Nat.le_refl _) (fun k _ hk => hb.block k hk)

theorem fMid (B : Nat) (w w1 : World) (d : Nat) (M : Emitter) (hM : EmOk B M) (σ : HD.DS) (l : List HD.Fld) (p : DP) (aI aN aL : Addr) (v : HD.Bs) (b1 : Value) (N : Nat)
    (hL : Live B w d M σ.st l p) (hE : Env B w aI aN aL) (hV : Save B w d p.f σ.save) (hG : (σ.save ++ v).length ≤ 2 ^ 26) (hN0 : N = p.cnt + σ.st.ents.length + σ.save.length + v.length) (hN : N < 2 ^ 46)
    (hb1 : Below w.heap.size w w1) (hr1 : Row w1 (w.heap.size + 1) 6 (fun i => ans0.getD i undef)) (ha1 : Row w1 (w.heap.size + 1 + 1) 6 (fun i => ans0.getD i undef))
    (hs : (v = [] ∧ b1 = .slice none 0 0) ∨ ∃ g o cap, b1 = .slice (some ⟨g, o, none⟩) v.length cap ∧ Buf w1 g o cap v ∧ IsU8 w1 g) :
    Calls Tryd.prog 31 #[.pointer (some ⟨d, 0, none⟩), b1] w1 fun e w2 => ∃ x lv p', e = .returned (.tuple #[lv, x]) ∧ FSl w2 lv (fullR σ.st σ.save v).out ∧ FMid B w w2 d M l p p' aI N (fullR σ.st σ.save v) x := by
  have hsz : w.heap.size + 3 ≤ w1.heap.size := by have := ha1.lt; omega
  have hl1 := hL.below hb1
  have he1 := hE.below (hb1.mono hL.lo)
  have hv1 : Save B w1 d p.f σ.save := hV.kept rfl rfl rfl (fun g hg => hb1.block g (hV.u8 hg).lt)
  obtain ⟨sa, cap, rfl, hsrc⟩ : ∃ sa cap, b1 = .slice sa v.length cap ∧ (v = [] ∨ ∃ g o, sa = some ⟨g, o, none⟩ ∧ Buf w1 g o cap v ∧ IsU8 w1 g) := by
    rcases hs with ⟨hv, rfl⟩ | ⟨g, o, cap, rfl, hb, hu⟩
    · exact ⟨none, 0, by rw [hv]; rfl, Or.inl hv⟩
    · exact ⟨_, cap, rfl, Or.inr ⟨g, o, rfl, hb, hu⟩⟩
  refine (decodeFull_any B w1 d M hM σ.st l p aI aN aL σ.save v sa cap N hl1 he1 hv1 hG hsrc (Nat.le_of_eq hN0.symm) hN).mono ?_
  rintro e w2 ⟨x, lv, p', rfl, hx, hf, hl2, hs2, ho2, hk2, hn2⟩
  have hkk : ∀ k, k = w.heap.size + 1 ∨ k = w.heap.size + 1 + 1 → w2.heap[k]? = w1.heap[k]? := fun k hk => hk2.block k (by omega) (fun h => by
    have := hL.own_lt h
    omega) (by
      rcases hk with rfl | rfl
      · exact hr1.notU8
      · exact ha1.notU8)
  refine ⟨x, lv, p', rfl, hf, ?_, hl2, hs2, fun k h => (ho2 k h).imp id (fun h => Nat.le_trans hsz h), (Kept.of_below hb1 hL.lo).step hk2, hn2, hr1.of_heap (hkk _ (Or.inl rfl)), ha1.of_heap (hkk _ (Or.inr rfl))⟩
  cases hr : (fullR σ.st σ.save v).err with
  | none => rw [hr] at hx; exact hx
  | some er => rw [hr] at hx; exact ErrV.move hx hsz (fun k _ _ => rfl)

theorem dstep_full (σ : HD.DS) (v : HD.Bs) : HD.dstep σ (.full v) = (⟨(fullR σ.st σ.save v).st, (fullR σ.st σ.save v).save⟩, ⟨[], (fullR σ.st σ.save v).out, false, (fullR σ.st σ.save v).err⟩) := by
  simp only [HD.dstep, fullR]
  cases h1 : (HD.write σ.st σ.save v).err with
  | some e => rfl
  | none =>
    simp only []
    cases h2 : (HD.close (HD.write σ.st σ.save v).st (HD.write σ.st σ.save v).save).err <;> rfl
theorem fullR_len (s : HD.St) (save v : HD.Bs) : (fullR s save v).out.length ≤ (save ++ v).length := by
  unfold fullR
  split
  · simp
  · split
    · simp
    · have := HD.write_len s save v
      rw [List.length_append]; show (HD.write s save v).out.length ≤ _; omega

set_option maxHeartbeats 4000000 in
set_option maxRecDepth 100000 in
theorem decFull_any (B : Nat) (w : World) (d : Nat) (M : Emitter) (hM : EmOk B M) (σ : HD.DS) (l : List HD.Fld) (p : DP) (aI aN aL : Addr) (v : HD.Bs) (b : Value)
    (hL : Live B w d M σ.st l p) (hE : Env B w aI aN aL) (hV : Save B w d p.f σ.save) (hG : (σ.save ++ v).length ≤ 2 ^ 26) (hb : CmdV w (.full v) b) (hN : p.cnt + σ.st.ents.length + σ.save.length + v.length < 2 ^ 46) :
    Calls Tryd.prog 23 #[.pointer (some ⟨d, 0, none⟩), .agg #[.int .i64 2, b, .int .i64 0, .bool false]] w (DEnds B w d M l p (p.cnt + σ.st.ents.length + σ.save.length + v.length) (HD.dstep σ (.full v))) := by
  have HL := Lib.hid hL
  have HE := Lib.hid hE
  have HV := Lib.hid hV
  have HM := Lib.hid hM
  clear hL hE hV hM
  have hd : d < w.heap.size := HL.out.lt
  obtain ⟨hb0, hr0, ha0⟩ := dec_world w #[.int .i64 2, b, .int .i64 0, .bool false]
  have HB0 := Lib.hid hb0
  have HR0 := Lib.hid hr0
  have HA0 := Lib.hid ha0
  clear hb0 hr0 ha0
  obtain ⟨hl40, -, hb⟩ := hb
  have hl40 : v.length < 2 ^ 40 := hl40
  rcases hb with ⟨hv, rfl⟩ | ⟨sa, cap, hbe, hb, -⟩
  · have Hv := Lib.hid hv
    clear hv
    go_enter Tryd.func23, Tryd.ntmps23
    go_wp2_with fail
    refine (fMid B w _ d M HM.out σ l p aI aN aL v _ _ HL.out HE.out HV.out hG rfl hN (by exact HB0.out) (by exact HR0.out) (by exact HA0.out) (Or.inl ⟨Hv.out, rfl⟩)).mono ?_
    rintro e w2 ⟨x, lv, p', rfl, hf, hm⟩
    have Hm := Lib.hid hm
    have Hf := Lib.hid hf
    clear hm hf
    go_wp2_with fail
    refine (fromFields_fsl _ lv w2 (by have := fullR_len σ.st σ.save v; omega) Hf.out).mono ?_
    rintro e w3 ⟨v3, rfl, hown3, hb3⟩
    have hm3 := Hm.out.below hb3
    have hfr : FRow w3 (fun k => w.heap.size + 3 ≤ k ∧ k < w3.heap.size ∧ ¬ p'.own d k ∧ ¬ IsU8 w3 k) v3 (fullR σ.st σ.save v).out := FRow.of_own hown3 (fun g hg => by
      have h1 := hown3.lt g hg
      have h2 := Hm.out.ra.lt
      refine ⟨by omega, h1.2, fun h => ?_, fun ⟨cs, fz, hu⟩ => ?_⟩
      · have := Hm.out.live.own_lt h; omega
      · obtain ⟨c, fz', hc⟩ := Lib.ownsRow_kind hown3 g hg
        rw [hc] at hu; injection hu with hu; injection hu with _ hu _; exact absurd hu (by decide))
    have Hfr := Lib.hid hfr
    have Hm3 := Lib.hid hm3
    clear hfr hm3 hown3 hb3 Hm Hf
    have hE2' : Env B (w3.setCell ⟨w.heap.size + 1 + 1, 1, none⟩ v3) aI aN aL := (HE.out.below Hm3.out.kept.below).below ⟨rfl, rfl, rfl, by rw [World.size_setCell]; exact Nat.le_refl _, fun k hk => other_set (by have := HL.out.lo; show w.heap.size + 1 + 1 ≠ k; omega)⟩
    have hx2 : ErrO (w.heap.size + 3) (w3.setCell ⟨w.heap.size + 1 + 1, 1, none⟩ v3) aI (fullR σ.st σ.save v).err x := by
      have hx := Hm3.out.err
      cases hr : (fullR σ.st σ.save v).err with
      | none => rw [hr] at hx; exact hx
      | some er => rw [hr] at hx; exact ErrV.move hx (Nat.le_refl _) (fun k hk _ => other_set (by show w.heap.size + 1 + 1 ≠ k; omega))
    obtain ⟨a3v, c3v, n3v, hv3⟩ : ∃ a c n, v3 = .slice a n c := by
      rcases Hfr.out with ⟨h, -⟩ | ⟨g, cap, h, -⟩
      · exact ⟨_, _, _, h⟩
      · exact ⟨_, _, _, h⟩
    subst hv3
    have Hra3 := Lib.hid (Hm3.out.ra.set 1 (.slice a3v n3v c3v))
    have Hrr3 := Lib.hid (Hm3.out.rr.setOther (a := ⟨w.heap.size + 1 + 1, 1, none⟩) (by show w.heap.size + 1 ≠ w.heap.size + 1 + 1; omega) (.slice a3v n3v c3v))
    have za1 := Hm3.out.ra.cell' (i := 1) (v := .slice none 0 0) (by decide) rfl
    have zfa := fun i => Hm3.out.ra.unfrozen i none
    have Hx2 := Lib.hid hx2
    have HE2 := Lib.hid hE2'
    have hBs : B ≤ w.heap.size + 3 := by have := HL.out.lo; omega
    clear hE2' hx2
    go_wp2_with fail
    refine (codeOf_any B (w.heap.size + 3) (fullR σ.st σ.save v).err x aI aN aL _ (by exact HE2.out) hBs (by exact Hx2.out)).mono ?_
    rintro e w4 ⟨rfl, hb4⟩
    have hra : Row w4 (w.heap.size + 1 + 1) 6 _ := Hra3.out.below hb4 Hra3.out.lt
    have hrr : Row w4 (w.heap.size + 1) 6 _ := Hrr3.out.below hb4 Hrr3.out.lt
    have Hb4 : Hid (Below (w3.setCell ⟨w.heap.size + 1 + 1, 1, none⟩ (.slice a3v n3v c3v)).heap.size (w3.setCell ⟨w.heap.size + 1 + 1, 1, none⟩ (.slice a3v n3v c3v)) w4) := Lib.hid hb4
    clear hb4 za1 zfa
    have a0 := hra.cell' (i := 0) (v := .slice none 0 0) (by decide) rfl
    have a1 := hra.cell' (i := 1) (v := .slice a3v n3v c3v) (by decide) rfl
    have a2 := hra.cell' (i := 2) (v := .int .i64 0) (by decide) rfl
    have a3 := hra.cell' (i := 3) (v := .bool false) (by decide) rfl
    have a4 := hra.cell' (i := 4) (v := .int .i64 0) (by decide) rfl
    have a5 := hra.cell' (i := 5) (v := .int .i64 0) (by decide) rfl
    have r0 := hrr.cell' (i := 0) (v := .slice none 0 0) (by decide) rfl
    have r1 := hrr.cell' (i := 1) (v := .slice none 0 0) (by decide) rfl
    have r2 := hrr.cell' (i := 2) (v := .int .i64 0) (by decide) rfl
    have r3 := hrr.cell' (i := 3) (v := .bool false) (by decide) rfl
    have r4 := hrr.cell' (i := 4) (v := .int .i64 0) (by decide) rfl
    have r5 := hrr.cell' (i := 5) (v := .int .i64 0) (by decide) rfl
    have fza := fun i => hra.unfrozen i none
    have fzr := fun i => hrr.unfrozen i none
    go_wp2_with fail
    (try simp only [Exit.inBlock, Exit.then])
    refine bodyPost_ret (v := .agg (ansCells (.slice none 0 0) (.slice a3v n3v c3v) 0 (HD.dstep σ (.full v)).2)) ?_ rfl ?_
    · rw [dstep_full]
      simp only [results, Tryd.results23]
      go_simp
      rfl
    rw [dstep_full]
    exact DEnds.close (N := p.cnt + σ.st.ents.length + σ.save.length + v.length) (r := (⟨(fullR σ.st σ.save v).st, (fullR σ.st σ.save v).save⟩, ⟨[], (fullR σ.st σ.save v).out, false, (fullR σ.st σ.save v).err⟩)) (nn := 0) HL.out (by simpa using Hm3.out.live) Hm3.out.save Hm3.out.own Hm3.out.kept Hm3.out.num Hfr.out Hm3.out.rr Hm3.out.ra ((Upd.refl _ w3).setCell (a := ⟨w.heap.size + 1 + 1, 1, none⟩) (Or.inl (Or.inr rfl)) (.slice a3v n3v c3v)) Hb4.out (ans_upd w4 w.heap.size _ _ _ _ _ _ _ _)
  · have hbe : b = .slice (some sa) v.length cap := hbe
    have hb : ∀ q u, (Lib.byteCells v)[q]? = some u → w.cell? (sa.add q) = some u := hb
    subst hbe
    have hcells : ∀ q u, (Lib.byteCells v)[q]? = some u → (((w.alloc (.cells #[.int .i64 2, .slice (some sa) v.length cap, .int .i64 0, .bool false] 27)).alloc (.cells ans0 37)).alloc (.cells ans0 37)).cell? (sa.add q) = some u := by
      intro q u hq
      have h0 := hb q u hq
      exact (HB0.out.cell (World.block_lt_of_cell? w _ h0)).trans h0
    have Hcells := Lib.hid hcells
    clear hcells hb
    have Hs0 := Lib.hid (dec_first w #[.int .i64 2, .slice (some sa) v.length cap, .int .i64 0, .bool false] (.int .i64 2) rfl)
    obtain ⟨i0, hi, hz0, hz1, hz2⟩ := info_parts infoU8
    go_enter Tryd.func23, Tryd.ntmps23
    go_wp2_with (at_builtin; go_must (refine wpList_append_own_at _ rfl _ _ 22 rfl w.heap.size 5 i0 (.int .u8 0) 1 1 Tryd.underlying22 hi hz0 hz1 hz2 rfl (by decide) (.slice none 0 0) 0 [] rfl (World.ownsRow_nil _ w.heap.size _ _) sa v.length cap (Lib.byteCells v) rfl (by rw [byteCells_len, Nat.mul_one]) (by exact Hcells.out) (Lib.byteCells_one _) (by unfold maxLen; omega) (by omega) (by simp; omega) ?_); intro v1 w1 hown1 hgrow1 _ _; rw [Nat.zero_add, List.nil_append] at hown1; have hbw1 := (Below.refl _ _).grown hgrow1 (Nat.le_refl _) (fun k hk => by cases hk); have Hown1 := Lib.hid hown1; have Hbw1 := Lib.hid hbw1; have s0 := (hbw1.cell (p := ⟨w.heap.size, 0, none⟩) (by simp; omega)).trans Hs0.out; clear hown1 hgrow1 hbw1)
    have hb1 : Below w.heap.size w w1 := HB0.out.trans (Hbw1.out.mono HB0.out.size)
    have hs1 : (v = [] ∧ v1 = .slice none 0 0) ∨ ∃ g o cap, v1 = .slice (some ⟨g, o, none⟩) v.length cap ∧ Buf w1 g o cap v ∧ IsU8 w1 g := by
      rcases Hown1.out.2 with ⟨e, h0⟩ | ⟨g1, cap1, cur, e, -⟩
      · exact Or.inl ⟨List.eq_nil_of_length_eq_zero h0, e⟩
      · have ho := Hown1.out
        rw [e] at ho
        exact Or.inr ⟨g1, 0, cap1, e, Buf.of_own ho rfl⟩
    refine (fMid B w w1 d M HM.out σ l p aI aN aL v v1 _ HL.out HE.out HV.out hG rfl hN hb1 (HR0.out.below Hbw1.out HR0.out.lt) (HA0.out.below Hbw1.out HA0.out.lt) hs1).mono ?_
    clear hs1 hb1
    rintro e w2 ⟨x, lv, p', rfl, hf, hm⟩
    have Hm := Lib.hid hm
    have Hf := Lib.hid hf
    clear hm hf
    go_wp2_with fail
    refine (fromFields_fsl _ lv w2 (by have := fullR_len σ.st σ.save v; omega) Hf.out).mono ?_
    rintro e w3 ⟨v3, rfl, hown3, hb3⟩
    have hm3 := Hm.out.below hb3
    have hfr : FRow w3 (fun k => w.heap.size + 3 ≤ k ∧ k < w3.heap.size ∧ ¬ p'.own d k ∧ ¬ IsU8 w3 k) v3 (fullR σ.st σ.save v).out := FRow.of_own hown3 (fun g hg => by
      have h1 := hown3.lt g hg
      have h2 := Hm.out.ra.lt
      refine ⟨by omega, h1.2, fun h => ?_, fun ⟨cs, fz, hu⟩ => ?_⟩
      · have := Hm.out.live.own_lt h; omega
      · obtain ⟨c, fz', hc⟩ := Lib.ownsRow_kind hown3 g hg
        rw [hc] at hu; injection hu with hu; injection hu with _ hu _; exact absurd hu (by decide))
    have Hfr := Lib.hid hfr
    have Hm3 := Lib.hid hm3
    clear hfr hm3 hown3 hb3 Hm Hf
    have hE2' : Env B (w3.setCell ⟨w.heap.size + 1 + 1, 1, none⟩ v3) aI aN aL := (HE.out.below Hm3.out.kept.below).below ⟨rfl, rfl, rfl, by rw [World.size_setCell]; exact Nat.le_refl _, fun k hk => other_set (by have := HL.out.lo; show w.heap.size + 1 + 1 ≠ k; omega)⟩
    have hx2 : ErrO (w.heap.size + 3) (w3.setCell ⟨w.heap.size + 1 + 1, 1, none⟩ v3) aI (fullR σ.st σ.save v).err x := by
      have hx := Hm3.out.err
      cases hr : (fullR σ.st σ.save v).err with
      | none => rw [hr] at hx; exact hx
      | some er => rw [hr] at hx; exact ErrV.move hx (Nat.le_refl _) (fun k hk _ => other_set (by show w.heap.size + 1 + 1 ≠ k; omega))
    obtain ⟨a3v, c3v, n3v, hv3⟩ : ∃ a c n, v3 = .slice a n c := by
      rcases Hfr.out with ⟨h, -⟩ | ⟨g, cap, h, -⟩
      · exact ⟨_, _, _, h⟩
      · exact ⟨_, _, _, h⟩
    subst hv3
    have Hra3 := Lib.hid (Hm3.out.ra.set 1 (.slice a3v n3v c3v))
    have Hrr3 := Lib.hid (Hm3.out.rr.setOther (a := ⟨w.heap.size + 1 + 1, 1, none⟩) (by show w.heap.size + 1 ≠ w.heap.size + 1 + 1; omega) (.slice a3v n3v c3v))
    have za1 := Hm3.out.ra.cell' (i := 1) (v := .slice none 0 0) (by decide) rfl
    have zfa := fun i => Hm3.out.ra.unfrozen i none
    have Hx2 := Lib.hid hx2
    have HE2 := Lib.hid hE2'
    have hBs : B ≤ w.heap.size + 3 := by have := HL.out.lo; omega
    clear hE2' hx2
    go_wp2_with fail
    refine (codeOf_any B (w.heap.size + 3) (fullR σ.st σ.save v).err x aI aN aL _ (by exact HE2.out) hBs (by exact Hx2.out)).mono ?_
    rintro e w4 ⟨rfl, hb4⟩
    have hra : Row w4 (w.heap.size + 1 + 1) 6 _ := Hra3.out.below hb4 Hra3.out.lt
    have hrr : Row w4 (w.heap.size + 1) 6 _ := Hrr3.out.below hb4 Hrr3.out.lt
    have Hb4 : Hid (Below (w3.setCell ⟨w.heap.size + 1 + 1, 1, none⟩ (.slice a3v n3v c3v)).heap.size (w3.setCell ⟨w.heap.size + 1 + 1, 1, none⟩ (.slice a3v n3v c3v)) w4) := Lib.hid hb4
    clear hb4 za1 zfa
    have a0 := hra.cell' (i := 0) (v := .slice none 0 0) (by decide) rfl
    have a1 := hra.cell' (i := 1) (v := .slice a3v n3v c3v) (by decide) rfl
    have a2 := hra.cell' (i := 2) (v := .int .i64 0) (by decide) rfl
    have a3 := hra.cell' (i := 3) (v := .bool false) (by decide) rfl
    have a4 := hra.cell' (i := 4) (v := .int .i64 0) (by decide) rfl
    have a5 := hra.cell' (i := 5) (v := .int .i64 0) (by decide) rfl
    have r0 := hrr.cell' (i := 0) (v := .slice none 0 0) (by decide) rfl
    have r1 := hrr.cell' (i := 1) (v := .slice none 0 0) (by decide) rfl
    have r2 := hrr.cell' (i := 2) (v := .int .i64 0) (by decide) rfl
    have r3 := hrr.cell' (i := 3) (v := .bool false) (by decide) rfl
    have r4 := hrr.cell' (i := 4) (v := .int .i64 0) (by decide) rfl
    have r5 := hrr.cell' (i := 5) (v := .int .i64 0) (by decide) rfl
    have fza := fun i => hra.unfrozen i none
    have fzr := fun i => hrr.unfrozen i none
    go_wp2_with fail
    (try simp only [Exit.inBlock, Exit.then])
    refine bodyPost_ret (v := .agg (ansCells (.slice none 0 0) (.slice a3v n3v c3v) 0 (HD.dstep σ (.full v)).2)) ?_ rfl ?_
    · rw [dstep_full]
      simp only [results, Tryd.results23]
      go_simp
      rfl
    rw [dstep_full]
    exact DEnds.close (N := p.cnt + σ.st.ents.length + σ.save.length + v.length) (r := (⟨(fullR σ.st σ.save v).st, (fullR σ.st σ.save v).save⟩, ⟨[], (fullR σ.st σ.save v).out, false, (fullR σ.st σ.save v).err⟩)) (nn := 0) HL.out (by simpa using Hm3.out.live) Hm3.out.save Hm3.out.own Hm3.out.kept Hm3.out.num Hfr.out Hm3.out.rr Hm3.out.ra ((Upd.refl _ w3).setCell (a := ⟨w.heap.size + 1 + 1, 1, none⟩) (Or.inl (Or.inr rfl)) (.slice a3v n3v c3v)) Hb4.out (ans_upd w4 w.heap.size _ _ _ _ _ _ _ _)
theorem cmdOk_full {B d : Nat} {M : Emitter} {aI aN aL : Addr} {σ : HD.DS} (hM : EmOk B M) {v : HD.Bs} (hG : (σ.save ++ v).length ≤ 2 ^ 26) : CmdOk B d M aI aN aL σ (.full v) := by
  intro w l p b hL hE hV hb hN hT
  exact decFull_any B w d M hM σ l p aI aN aL v b hL hE hV hG hb hN
end Go.Proofs.YtlkpeeoippbdoaaDoor
