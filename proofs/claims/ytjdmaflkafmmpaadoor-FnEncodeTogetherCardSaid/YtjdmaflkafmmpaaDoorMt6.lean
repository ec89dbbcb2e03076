/-
  Texts of this seat, one behind the other: Full, DSteps, Cmds, HD7, DFull, ErrTab, EnvTab, Ans. What each one shows stands at its head. No condition.
-/
import Derived.Test.YtjdmaflkafmmpaaDoorMt5
import Derived.Defers
import Derived.Laws.EntriesVeiled
import Derived.Stop.LaidTwo
/-
  The contract of (*hpack.Decoder).DecodeFull.
-/
namespace Go.Proofs.YtjdmaflkafmmpaaDoor
open Go.ChangeShapes Go.WideShapes Go.ChangeAt Go.RowKit

theorem Live.swap {B : Nat} {w w' : World} {d : Nat} {M M' : Emitter} {s : HD.St} {l l' : List HD.Fld} {p : DP} {f' : Nat → Value} {E' : Nat → Prop} (h : Live B w d M s l p) (hr : Row w' d 16 f') (hf : ∀ i, i ≠ 8 → f' i = p.f i) (h8 : f' 8 = M'.val)
    (ho : ∀ k, k ≠ d → tabOwn d p.ev p.m1 p.m2 k → w'.heap[k]? = w.heap[k]?) (hm : M'.holds w' l' E') (hB : ∀ k, E' k → B ≤ k) (ha : ∀ k, tabOwn d p.ev p.m1 p.m2 k → ¬ E' k) : Live B w' d M' s l' { p with f := f', E := E' } := by
  have hT := h.mem.tab
  exact ⟨⟨⟨hr, hT.big, (hf 0 (by decide)).trans hT.c0, (hf 1 (by decide)).trans hT.c1, (hf 2 (by decide)).trans hT.c2, (hf 3 (by decide)).trans hT.c3, (hf 4 (by decide)).trans hT.c4,
    ownsRow_of_heap hT.own fun g hg => ho g (fun e => hT.ne (by rw [hg, e])) (Or.inr (Or.inl hg)), hT.ne, hT.mm, hT.lo, hT.map1.of_heap (ho _ (fun e => hT.b_m1 e.symm) (Or.inr (Or.inr (Or.inl rfl)))), hT.map2.of_heap (ho _ (fun e => hT.b_m2 e.symm) (Or.inr (Or.inr (Or.inr rfl))))⟩,
    ⟨(hf 5 (by decide)).trans h.mem.sized.size, (hf 6 (by decide)).trans h.mem.sized.max⟩, (hf 7 (by decide)).trans h.mem.allowed, (hf 9 (by decide)).trans h.mem.on, (hf 10 (by decide)).trans h.mem.most, (hf 15 (by decide)).trans h.mem.first⟩, hm, hB, h8, ha, h.ok⟩

theorem back_deferred (sv bd : Addr) (d : Nat) (F : FuncId) (ca cb : Array Value) (x : Value) (u : FrameMode) (w : World) (h0 : w.cell? sv = some (.func (.func F) ca cb)) (h1 : w.cell? bd = some (.pointer (some ⟨d, 0, none⟩))) (h8 : w.cell? ⟨d, 8, none⟩ = some x) (fz : w.frozen? ⟨d, 8, none⟩ = false) :
    CallsD Tryd.prog 54 #[.pointer (some sv), .pointer (some bd)] u w fun e u' w' => u' = u ∧ (e = .returned (.tuple #[]) ∧ w' = w.setCell ⟨d, 8, none⟩ (.func (.func F) ca cb)) := by
  go_enter_d Tryd.func54, Tryd.ntmps54
  go_wp2_with fail
  go_end0
  exact ⟨rfl, rfl⟩

/-- How Close ends. -/
structure ClEnds (B : Nat) (w : World) (d : Nat) (M : Emitter) (l : List HD.Fld) (p : DP) (aI : Addr) (r : HD.WR) (e : Ending) (w' : World) : Prop where
  ret : ∃ x, e = .returned x ∧ ErrO w.heap.size w' aI r.err x
  mem : ∃ f', Live B w' d M r.st l { p with f := f' } ∧ Save B w' d f' r.save
  kept : Upd (fun k => k = d) w w'
theorem close_live (B : Nat) (w : World) (d : Nat) (M : Emitter) (s : HD.St) (save : HD.Bs) (l : List HD.Fld) (p : DP) (aI : Addr) (hL : Live B w d M s l p) (hV : Save B w d p.f save) (hlen : save.length < 2 ^ 46) :
    Calls Tryd.prog 32 #[.pointer (some ⟨d, 0, none⟩)] w (ClEnds B w d M l p aI (HD.close s save)) := by
  obtain ⟨c12, a12, h12⟩ : ∃ (c : Nat) (a : Option Addr), p.f 12 = .slice a save.length c := by
    obtain ⟨a, c, h⟩ := own_form hV.own
    exact ⟨c, a, h⟩
  rcases Classical.em (save = []) with hs0 | hs0
  · have h12' : p.f 12 = .slice a12 0 c12 := by rw [h12, hs0]; rfl
    refine (closeOk_any d c12 a12 p.f _ hL.row h12' hV.off _ hL.mem.first).mono ?_
    rintro e w1 ⟨rfl, hr1, hu1⟩
    have hk1 : ∀ k, k ≠ d → k < w.heap.size → w1.heap[k]? = w.heap[k]? := fun k hk hlt => hu1.block k hlt hk
    have hst : HD.close s save = ⟨{ s with first := true }, [], [], none⟩ := by simp only [HD.close, if_pos hs0]
    rw [hst]
    refine ⟨⟨_, rfl, rfl⟩, ⟨putF p.f 15 (.bool true), hL.put hr1 (fun i hi => by simp only [putF]; rw [if_neg (by omega)]) (by simp [putF]) (fun k hne ho => hk1 k hne (hL.own_lt ho)), ?_⟩, hu1⟩
    rw [← hs0]; exact hV.kept rfl rfl rfl (fun g hg => hk1 g (fun e => hV.ne (by rw [hg, e])) (hV.u8 hg).lt)
  · obtain ⟨lr, h14⟩ := hV.last
    refine (closeBad_any d save.length c12 a12 p.f _ hL.row h12 hV.off lr h14 (by unfold maxLen; omega) (List.length_pos_iff.2 hs0)).mono ?_
    rintro e w1 ⟨⟨x, rfl, hx⟩, hr1, hu1⟩
    have hk1 : ∀ k, k ≠ d → k < w.heap.size → w1.heap[k]? = w.heap[k]? := fun k hk hlt => hu1.block k hlt hk
    have hst : HD.close s save = ⟨s, [], [], some .coding⟩ := by simp only [HD.close, if_neg hs0]
    rw [hst]
    refine ⟨⟨_, rfl, ⟨x, rfl, hx⟩⟩, ⟨putF (putF p.f 12 (.slice a12 0 c12)) 14 (.int .i8 0), ?_, ?_⟩, hu1⟩
    · exact hL.put (b := s.first) hr1 (fun i hi => by simp only [putF]; rw [if_neg (by omega), if_neg (by omega)]) (by simp [putF, hL.mem.first]) (fun k hne ho => hk1 k hne (hL.own_lt ho))
    · have hown := hV.own
      rw [h12] at hown
      have hgs : ∃ g, a12 = some ⟨g, 0, none⟩ := by
        rcases hown.2 with ⟨-, h0⟩ | ⟨g, cap, cur, e, -⟩
        · exact absurd (List.eq_nil_of_length_eq_zero h0) hs0
        · injection e with e; exact ⟨g, e⟩
      obtain ⟨g, rfl⟩ := hgs
      have hg : (p.f 12).ownBlock = some g := by rw [h12]; rfl
      have hgd : g ≠ d := fun e => hV.ne (by rw [hg, e])
      refine ⟨?_, ?_, by simp [putF, hV.off], 0, by simp [putF]⟩
      · have : (putF (putF p.f 12 (.slice (some ⟨g, 0, none⟩) 0 c12)) 14 (.int .i8 0)) 12 = .slice (some ⟨g, 0, none⟩) 0 c12 := by simp [putF]
        rw [this]
        exact ownsRow_of_heap (own_reset hown) fun q hq => by injection hq with hq; subst hq; exact hk1 g hgd (hV.u8 hg).lt
      · simp [putF, Value.ownBlock, hgd]

/-- Behind the deferred call: the emitter is the old one. -/
theorem full_close {B : Nat} {w W5 wz : World} {d e : Nat} {M : Emitter} {s sz : HD.St} {l out : List HD.Fld} {p p5 pz : DP} {save : HD.Bs} (hL : Live B w d M s l p) (h5 : ∀ k, k < w.heap.size → k ≠ d → W5.heap[k]? = w.heap[k]?) (hb5 : Below B w W5) (he : w.heap.size ≤ e)
    (hp5 : ∀ k, p5.own d k → tabOwn d p.ev p.m1 p.m2 k ∨ k = e) (hLz : Live B wz d (fullEm B e) sz out pz) (hVz : Save B wz d pz.f save) (hoz : ∀ k, pz.own d k → p5.own d k ∨ W5.heap.size ≤ k) (hkz : Kept B (p5.own d) W5 wz) :
    Live B (wz.setCell ⟨d, 8, none⟩ M.val) d M sz l { pz with f := putF pz.f 8 M.val, E := p.E } ∧ Save B (wz.setCell ⟨d, 8, none⟩ M.val) d (putF pz.f 8 M.val) save ∧ (∀ k, ({ pz with f := putF pz.f 8 M.val, E := p.E } : DP).own d k → p.own d k ∨ w.heap.size ≤ k) ∧ Kept B (p.own d) w (wz.setCell ⟨d, 8, none⟩ M.val) := by
  have hs5 := hb5.size
  have hd := hL.lt
  have hlo := hL.lo
  refine ⟨hLz.swap (hLz.row.set 8 M.val) (fun i hi => by simp only [putF]; rw [if_neg hi]) (by simp [putF]) (fun k hk _ => other_set (fun h => hk h.symm)) ?_ hL.emB ?_, ?_, ?_, ?_⟩
  · refine M.frame hL.em fun k hk => ?_
    have hkl := M.lt hL.em hk
    have hkd : k ≠ d := fun h => hL.dE (h ▸ hk)
    rw [other_set (fun h => hkd h.symm), ← h5 k hkl hkd]
    refine hkz.block k (by omega) (fun h => ?_) (fun hu => M.kind hL.em hk (hu.of_heap (h5 k hkl hkd).symm))
    rcases hp5 k h with h | h
    · exact hL.apart k h hk
    · omega
  · intro k hk hE
    have hkl := M.lt hL.em hE
    rcases hoz k (Or.inl hk) with h | h
    · rcases hp5 k h with h | h
      · exact hL.apart k h hE
      · omega
    · omega
  · exact hVz.kept rfl rfl rfl (fun g hg => other_set (fun h => hVz.ne (by rw [hg, h])))
  · rintro k (h | h)
    · rcases hoz k (Or.inl h) with h | h
      · rcases hp5 k h with h | h
        · exact Or.inl (Or.inl h)
        · exact Or.inr (by omega)
      · exact Or.inr (by omega)
    · exact Or.inl (Or.inr h)
  · have k1 : Kept B (p.own d) w W5 := ⟨hb5, fun k hk hn _ => h5 k hk (fun h => hn (Or.inl (Or.inl h)))⟩
    have k2 : Kept B (p.own d) w wz := k1.trans hkz fun k hk h => (hp5 k h).elim Or.inl (fun h => by omega)
    exact k2.step (Kept.of_upd ((Upd.refl _ wz).setCell (a := ⟨d, 8, none⟩) (Or.inl (Or.inl (Or.inl rfl))) _) (Nat.le_trans hlo (by have := k2.below.size; omega)) (fun k hk => hL.ge hk))

/-- What DecodeFull tells. -/
def fullR (s : HD.St) (save v : HD.Bs) : HD.WR :=
  match (HD.write s save v).err with
  | some e => ⟨(HD.write s save v).st, [], (HD.write s save v).save, some e⟩
  | none => match (HD.close (HD.write s save v).st (HD.write s save v).save).err with
    | some e => ⟨(HD.close (HD.write s save v).st (HD.write s save v).save).st, [], (HD.close (HD.write s save v).st (HD.write s save v).save).save, some e⟩
    | none => ⟨(HD.close (HD.write s save v).st (HD.write s save v).save).st, (HD.write s save v).out, (HD.close (HD.write s save v).st (HD.write s save v).save).save, none⟩

/-- How DecodeFull ends. -/
def FEnds (B : Nat) (w : World) (d : Nat) (M : Emitter) (l : List HD.Fld) (p : DP) (aI : Addr) (N : Nat) (r : HD.WR) (e : Ending) (w' : World) : Prop :=
  ∃ x lv p', e = .returned (.tuple #[lv, x]) ∧ ErrO w.heap.size w' aI r.err x ∧ FSl w' lv r.out ∧
    Live B w' d M r.st l p' ∧ Save B w' d p'.f r.save ∧ (∀ k, p'.own d k → p.own d k ∨ w.heap.size ≤ k) ∧ Kept B (p.own d) w w' ∧ p'.cnt + r.st.ents.length + r.save.length ≤ N

set_option maxHeartbeats 4000000 in
set_option maxRecDepth 100000 in
theorem decodeFull_any (B : Nat) (w : World) (d : Nat) (M : Emitter) (hM : EmOk B M) (s : HD.St) (l : List HD.Fld) (p : DP) (aI aN aL : Addr) (save v : HD.Bs) (sa : Option Addr) (cap N : Nat)
    (hL : Live B w d M s l p) (hE : Env B w aI aN aL) (hV : Save B w d p.f save) (hG : (save ++ v).length ≤ 2 ^ 26)
    (hsrc : v = [] ∨ ∃ g o, sa = some ⟨g, o, none⟩ ∧ Buf w g o cap v ∧ IsU8 w g) (hN : p.cnt + s.ents.length + save.length + v.length ≤ N) (hN2 : N < 2 ^ 46) :
    Calls Tryd.prog 33 #[.pointer (some ⟨d, 0, none⟩), .slice sa v.length cap] w (FEnds B w d M l p aI N (fullR s save v)) := by
  have hmf : ∀ (fn : Fn) (first cap : Array Value) (w : World), (Instr.makeFunc fn first cap).run Tryd.prog w = .ok (.func fn first cap) w := fun _ _ _ _ => rfl
  obtain ⟨F, cv, hv, -, -⟩ := hM.call
  have c8 := hL.row.cell' (i := 8) (by decide) (hL.emv.trans hv)
  have fz8 := hL.row.unfrozen 8 none
  have hdl := hL.lt
  have HL := Lib.hid hL
  have HE := Lib.hid hE
  have HV := Lib.hid hV
  have Hsrc := Lib.hid hsrc
  have HM := Lib.hid hM
  have Hv := Lib.hid hv
  clear hL hE hV hsrc hM hv
  have hb3 : Below w.heap.size w (((w.alloc (.cells #[.pointer (some ⟨d, 0, none⟩)] 54)).alloc (.cells #[.slice none 0 0] 65)).alloc (.cells #[.func (.func F) #[] #[cv]] 59)) := (((Below.refl _ w).alloc (Nat.le_refl _) _).alloc (by simp) _).alloc (by simp; omega) _
  obtain ⟨W3, hW3⟩ : ∃ W3, W3 = (((w.alloc (.cells #[.pointer (some ⟨d, 0, none⟩)] 54)).alloc (.cells #[.slice none 0 0] 65)).alloc (.cells #[.func (.func F) #[] #[cv]] 59)) := ⟨_, rfl⟩
  have hs3 : W3.heap.size = w.heap.size + 3 := by rw [hW3]; simp
  have h0 : W3.heap[w.heap.size]? = some (.cells #[.pointer (some ⟨d, 0, none⟩)] 54 (0, 0)) := by
    rw [hW3, Below.heap_alloc _ _ _ (by simp; omega), Below.heap_alloc _ _ _ (by simp)]; exact heap_alloc_new w _
  have h1 : W3.heap[w.heap.size + 1]? = some (.cells #[.slice none 0 0] 65 (0, 0)) := by
    rw [hW3, Below.heap_alloc _ _ _ (by simp)]
    have := heap_alloc_new (w.alloc (.cells #[.pointer (some ⟨d, 0, none⟩)] 54)) (.cells #[.slice none 0 0] 65)
    simpa using this
  have h2 : W3.heap[w.heap.size + 1 + 1]? = some (.cells #[.func (.func F) #[] #[cv]] 59 (0, 0)) := by
    rw [hW3]
    have := heap_alloc_new ((w.alloc (.cells #[.pointer (some ⟨d, 0, none⟩)] 54)).alloc (.cells #[.slice none 0 0] 65)) (.cells #[.func (.func F) #[] #[cv]] 59)
    simpa using this
  have hr3 : Row W3 d 16 p.f := HL.out.row.of_heap (by rw [hW3]; exact hb3.block d hdl)
  have x8 := hr3.cell' (i := 8) (by decide) (HL.out.emv.trans Hv.out)
  have y8 := hr3.unfrozen 8 none
  have x0 : (W3.setCell ⟨d, 8, none⟩ (.func (.func 55) #[] #[.pointer (some ⟨w.heap.size + 1, 0, none⟩)])).cell? ⟨w.heap.size, 0, none⟩ = some (.pointer (some ⟨d, 0, none⟩)) := by
    rw [World.cell?_of_block (a := ⟨w.heap.size, 0, none⟩) (other_set (by show d ≠ w.heap.size; omega))]
    exact (Lib.cell_of_heap h0 0).trans rfl
  rw [← hW3] at hb3
  have HB3 := Lib.hid hb3
  have HS3 := Lib.hid hs3
  have HH0 := Lib.hid h0
  have HH1 := Lib.hid h1
  have HH2 := Lib.hid h2
  have HR3 := Lib.hid hr3
  have HX := Lib.hid (And.intro x8 (And.intro y8 x0))
  have HW3 := Lib.hid hW3
  clear hb3 hs3 h0 h1 h2 hr3 hW3
  obtain ⟨e, he⟩ : ∃ e, e = w.heap.size + 1 := ⟨_, rfl⟩
  obtain ⟨W5, hW5⟩ : ∃ W5, W5 = W3.setCell ⟨d, 8, none⟩ (.func (.func 55) #[] #[.pointer (some ⟨w.heap.size + 1, 0, none⟩)]) := ⟨_, rfl⟩
  have hk5 : ∀ k, k ≠ d → W5.heap[k]? = W3.heap[k]? := fun k hk => by rw [hW5]; exact other_set (fun h => hk h.symm)
  have h5 : ∀ k, k < w.heap.size → k ≠ d → W5.heap[k]? = w.heap[k]? := fun k hk hd => (hk5 k hd).trans (HB3.out.block k hk)
  have hb5 : Below B w W5 := by
    rw [hW5]
    exact ((HB3.out.mono HL.out.lo)).trans ⟨rfl, rfl, rfl, by rw [World.size_setCell]; exact Nat.le_refl _, fun k hk => other_set (by have := HL.out.ge (Or.inl (Or.inl rfl) : p.own d d); show d ≠ k; omega)⟩
  have hr5 : Row W5 d 16 (putF p.f 8 (fullEm B e).val) := by rw [hW5, he]; exact HR3.out.set 8 _
  have hre : Row W5 e 1 (fun _ => .slice none 0 0) := by
    refine ⟨#[.slice none 0 0], 65, ?_, rfl, fun i hi => by simp [show i = 0 by omega], by decide⟩
    rw [hk5 e (by omega), he]; exact HH1.out
  have hl5 : Live B W5 d (fullEm B e) s [] { p with f := putF p.f 8 (fullEm B e).val, E := fun k => k = e } := by
    refine HL.out.swap hr5 (fun i hi => by simp only [putF]; rw [if_neg hi]) (by simp [putF]) (fun k hk ho => h5 k (HL.out.own_lt (Or.inl ho)) hk) ⟨.slice none 0 0, hre, World.ownsRow_nil _ _ _ _, by simp [Value.ownBlock], fun k => by simp [Value.ownBlock]⟩ (fun k hk => by have := HL.out.lo; omega) (fun k hk h => ?_)
    have := HL.out.own_lt (Or.inl hk)
    omega
  have hv5 : Save B W5 d (putF p.f 8 (fullEm B e).val) save := HV.out.kept rfl rfl rfl (fun g hg => h5 g (HV.out.u8 hg).lt (fun h => HV.out.ne (by rw [hg, h])))
  have hsrc5 : v = [] ∨ ∃ g o, sa = some ⟨g, o, none⟩ ∧ Buf W5 g o cap v ∧ IsU8 W5 g := by
    rcases Hsrc.out with h | ⟨g, o, e1, hb, hu⟩
    · exact Or.inl h
    · have hg := h5 g hu.lt (fun h => HL.out.kind hu (Or.inl (Or.inl h)))
      exact Or.inr ⟨g, o, e1, hb.kept (fun _ => hg), hu.of_heap hg⟩
  have hwr := write_any B W5 d (fullEm B e) s [] _ aI aN aL _ (stepsAll (emOk_full B B e (by have := HL.out.lo; omega))) save v sa cap N hl5 (HE.out.below hb5) hv5 hG hsrc5 hN hN2 (by simp only [List.length_nil]; omega)
  have q0 : W5.heap[w.heap.size]? = some (.cells #[.pointer (some ⟨d, 0, none⟩)] 54 (0, 0)) := (hk5 _ (by omega)).trans HH0.out
  have q2 : W5.heap[w.heap.size + 1 + 1]? = some (.cells #[.func (.func F) #[] #[cv]] 59 (0, 0)) := (hk5 _ (by omega)).trans HH2.out
  have hs5 : W5.heap.size = w.heap.size + 3 := by rw [hW5, World.size_setCell]; exact HS3.out
  have H5 := Lib.hid h5
  have HB5 := Lib.hid hb5
  have HWr := Lib.hid hwr
  have HQ0 := Lib.hid q0
  have HQ2 := Lib.hid q2
  have HS5 := Lib.hid hs5
  have HW5 := Lib.hid hW5
  have He := Lib.hid he
  clear hk5 h5 hb5 hr5 hre hl5 hv5 hsrc5 hwr q0 q2 hs5 hW5 he
  rw [HW3.out] at x8 y8 x0
  go_enter_defers Tryd.func33, Tryd.ntmps33
  go_wp2_with fail
  rw [← HW3.out, ← HW5.out]
  clear x8 y8 x0
  refine HWr.out.mono ?_
  rintro y w6 ⟨⟨x, rfl, hx⟩, p6, hl6, hv6, ho6, hk6, hn6⟩
  rw [List.nil_append] at hl6
  have hkk : ∀ k, w.heap.size ≤ k → k < W5.heap.size → k ≠ e → ¬ IsU8 W5 k → w6.heap[k]? = W5.heap[k]? := fun k hk hlt hne hu => hk6.block k hlt (fun h => by
    rcases h with h | h
    · have := HL.out.own_lt (Or.inl h); omega
    · exact hne h) hu
  have u0 : ¬ IsU8 W5 w.heap.size := fun ⟨cs, fz, h⟩ => by rw [HQ0.out] at h; injection h with h; injection h with _ h _; exact absurd h (by decide)
  have u2 : ¬ IsU8 W5 (w.heap.size + 1 + 1) := fun ⟨cs, fz, h⟩ => by rw [HQ2.out] at h; injection h with h; injection h with _ h _; exact absurd h (by decide)
  have k0 := (hkk _ (Nat.le_refl _) (by have := HS5.out; omega) (by have := He.out; omega) u0).trans HQ0.out
  have k2 := (hkk _ (by omega) (by have := HS5.out; omega) (by have := He.out; omega) u2).trans HQ2.out
  have x0 : w6.cell? ⟨w.heap.size, 0, none⟩ = some (.pointer (some ⟨d, 0, none⟩)) := (Lib.cell_of_heap k0 0).trans rfl
  have x2 : w6.cell? ⟨w.heap.size + 1 + 1, 0, none⟩ = some (.func (.func F) #[] #[cv]) := (Lib.cell_of_heap k2 0).trans rfl
  have x8 := hl6.row.cell' (i := 8) (by decide) hl6.emv
  have y8 := hl6.row.unfrozen 8 none
  obtain ⟨er, her⟩ : ∃ er, er = (HD.write s save v).err := ⟨_, rfl⟩
  rw [← her] at hx
  have HX0 := Lib.hid x0
  have HX2 := Lib.hid x2
  have HX8 := Lib.hid x8
  have HY8 := Lib.hid y8
  have HK0 := Lib.hid k0
  have HK2 := Lib.hid k2
  have Hl6 := Lib.hid hl6
  have Hv6 := Lib.hid hv6
  have Ho6 := Lib.hid ho6
  have Hk6 := Lib.hid hk6
  have Hn6 := Lib.hid hn6
  have Hx := Lib.hid hx
  have Her := Lib.hid her
  clear hx hl6 hv6 ho6 hk6 hn6 hkk u0 u2 k0 k2 x2 x8 y8 her
  cases er with
  | some er =>
    obtain ⟨tx, ty, hxe⟩ : ∃ tx ty, x = .iface tx ty := by
      have h := Hx.out
      cases er with
      | huff => exact ⟨_, _, h⟩
      | coding => obtain ⟨a, h, -⟩ := h; exact ⟨_, _, h⟩
      | index i => exact ⟨_, _, h⟩
    subst hxe
    go_wp2_with fail
    refine leaves_cons (f := 54) (args := #[.pointer (some ⟨w.heap.size + 1 + 1, 0, none⟩), .pointer (some ⟨w.heap.size, 0, none⟩)]) (by simp) (by simp [go_sem]) ?_
    refine (back_deferred ⟨w.heap.size + 1 + 1, 0, none⟩ ⟨w.heap.size, 0, none⟩ d F #[] #[cv] _ .returning w6 HX2.out HX0.out HX8.out HY8.out).mono ?_
    rintro y u' w7 ⟨rfl, rfl, rfl⟩
    refine ⟨.tuple #[.slice none 0 0, .iface tx ty], by simp only [results, Tryd.results33]; go_simp, ?_⟩
    have hc := full_close (p5 := { p with f := putF p.f 8 (fullEm B e).val, E := fun k => k = e }) HL.out H5.out HB5.out (by have := He.out; omega : w.heap.size ≤ e) (fun k h => h) Hl6.out Hv6.out Ho6.out Hk6.out
    rw [Hv.out] at hc
    have hr : fullR s save v = ⟨(HD.write s save v).st, [], (HD.write s save v).save, some er⟩ := by unfold fullR; rw [← Her.out]
    rw [hr]
    exact ⟨_, _, _, rfl, ErrV.move Hx.out (by have := HS5.out; omega) (fun k hk _ => other_set (by have := HS5.out; show d ≠ k; omega)), ⟨none, 0, rfl, Nat.le_refl _, fun h => absurd rfl h⟩, hc.1, hc.2.1, hc.2.2.1, hc.2.2.2, Hn6.out⟩
  | none =>
    obtain rfl : x = .nilIface := Hx.out
    go_wp2_with fail
    refine (close_live B w6 d (fullEm B e) _ _ _ p6 aI Hl6.out Hv6.out (by have := Hn6.out; omega)).mono ?_
    rintro y w7 ⟨⟨x7, rfl, hx7⟩, ⟨f7, hl7, hv7⟩, hu7⟩
    have hs6 : w.heap.size + 3 ≤ w6.heap.size := by have := Hk6.out.below.size; have := HS5.out; omega
    have hd6 : d < w6.heap.size := by omega
    have k0 := (hu7.block w.heap.size (by omega) (by omega)).trans HK0.out
    have k2 := (hu7.block (w.heap.size + 1 + 1) (by omega) (by omega)).trans HK2.out
    have x0 : w7.cell? ⟨w.heap.size, 0, none⟩ = some (.pointer (some ⟨d, 0, none⟩)) := (Lib.cell_of_heap k0 0).trans rfl
    have x2 : w7.cell? ⟨w.heap.size + 1 + 1, 0, none⟩ = some (.func (.func F) #[] #[cv]) := (Lib.cell_of_heap k2 0).trans rfl
    have x8 := hl7.row.cell' (i := 8) (by decide) hl7.emv
    have y8 := hl7.row.unfrozen 8 none
    obtain ⟨lv, hre, hown, hne, hEE⟩ := hl7.em
    have x1 : w7.cell? ⟨w.heap.size + 1, 0, none⟩ = some lv := by rw [← He.out]; exact hre.cell (by decide)
    have hk7 := Hk6.out.step (Kept.of_upd (hu7.mono fun k h => (h ▸ Or.inl (Or.inl rfl) : DP.own d { p with f := putF p.f 8 (fullEm B e).val, E := fun k => k = e } k)) (by have := HL.out.lo; omega) (fun k hk => by
      rcases hk with h | h
      · exact HL.out.ge (Or.inl h)
      · have := HL.out.lo; have := He.out; omega))
    obtain ⟨R7, hR7⟩ : ∃ R7, R7 = HD.close (HD.write s save v).st (HD.write s save v).save := ⟨_, rfl⟩
    rw [← hR7] at hx7 hl7 hv7
    have hn7 : p6.cnt + R7.st.ents.length + R7.save.length ≤ N := by
      have h := Hn6.out
      rw [hR7]; unfold HD.close
      split <;> simp <;> omega
    obtain ⟨a7, c7, rfl⟩ := own_form hown
    have hdlv : ∀ g, (Value.slice a7 (HD.write s save v).out.length c7).ownBlock = some g → g ≠ d := fun g hg h => hl7.dE ((hEE d).2 (Or.inr (h ▸ hg)))
    have hfs : FSl (w7.setCell ⟨d, 8, none⟩ M.val) (.slice a7 (HD.write s save v).out.length c7) (HD.write s save v).out := FSl.of_own (ownsRow_of_heap hown fun g hg => other_set (fun h => hdlv g hg h.symm))
    have hc := full_close (p5 := { p with f := putF p.f 8 (fullEm B e).val, E := fun k => k = e }) HL.out H5.out HB5.out (by have := He.out; omega : w.heap.size ≤ e) (fun k h => h) hl7 hv7 Ho6.out hk7
    rw [Hv.out] at hc hfs
    have HX0 := Lib.hid x0
    have HX2 := Lib.hid x2
    have HX8 := Lib.hid x8
    have HY8 := Lib.hid y8
    have Hc := Lib.hid hc
    have Hfs := Lib.hid hfs
    have Hx7 := Lib.hid hx7
    have HR7 := Lib.hid hR7
    have Hn7 := Lib.hid hn7
    clear k0 k2 x2 x8 y8 hre hown hne hEE hk7 hdlv hc hfs hx7 hl7 hv7 hR7 hn7 hu7
    obtain ⟨er7, her7⟩ : ∃ er, er = R7.err := ⟨_, rfl⟩
    have hx7 := Hx7.out
    rw [← her7] at hx7
    have Hx7' := Lib.hid hx7
    have Her7 := Lib.hid her7
    clear hx7 her7
    cases er7 with
    | some er =>
      obtain ⟨tx, ty, hxe⟩ : ∃ tx ty, x7 = .iface tx ty := by
        have h := Hx7'.out
        cases er with
        | huff => exact ⟨_, _, h⟩
        | coding => obtain ⟨a, h, -⟩ := h; exact ⟨_, _, h⟩
        | index i => exact ⟨_, _, h⟩
      subst hxe
      go_wp2_with fail
      refine leaves_cons (f := 54) (args := #[.pointer (some ⟨w.heap.size + 1 + 1, 0, none⟩), .pointer (some ⟨w.heap.size, 0, none⟩)]) (by simp) (by simp [go_sem]) ?_
      refine (back_deferred ⟨w.heap.size + 1 + 1, 0, none⟩ ⟨w.heap.size, 0, none⟩ d F #[] #[cv] _ .returning w7 HX2.out HX0.out HX8.out HY8.out).mono ?_
      rintro y u' w8 ⟨rfl, rfl, rfl⟩
      refine ⟨.tuple #[.slice none 0 0, .iface tx ty], by simp only [results, Tryd.results33]; go_simp, ?_⟩
      have hr : fullR s save v = ⟨R7.st, [], R7.save, some er⟩ := by
        unfold fullR; rw [← Her.out]; simp only []; rw [← HR7.out, ← Her7.out]
      rw [hr]
      exact ⟨_, _, _, rfl, ErrV.move Hx7'.out (by omega) (fun k hk _ => other_set (by show d ≠ k; omega)), ⟨none, 0, rfl, Nat.le_refl _, fun h => absurd rfl h⟩, Hc.out.1, Hc.out.2.1, Hc.out.2.2.1, Hc.out.2.2.2, Hn7.out⟩
    | none =>
      obtain rfl : x7 = .nilIface := Hx7'.out
      go_wp2_with fail
      refine leaves_cons (f := 54) (args := #[.pointer (some ⟨w.heap.size + 1 + 1, 0, none⟩), .pointer (some ⟨w.heap.size, 0, none⟩)]) (by simp) (by simp [go_sem]) ?_
      refine (back_deferred ⟨w.heap.size + 1 + 1, 0, none⟩ ⟨w.heap.size, 0, none⟩ d F #[] #[cv] _ .returning w7 HX2.out HX0.out HX8.out HY8.out).mono ?_
      rintro y u' w8 ⟨rfl, rfl, rfl⟩
      refine ⟨.tuple #[.slice a7 (HD.write s save v).out.length c7, .nilIface], by simp only [results, Tryd.results33]; go_simp, ?_⟩
      have hr : fullR s save v = ⟨R7.st, (HD.write s save v).out, R7.save, none⟩ := by
        unfold fullR; rw [← Her.out]; simp only []; rw [← HR7.out, ← Her7.out]
      rw [hr]
      exact ⟨_, _, _, rfl, rfl, Hfs.out, Hc.out.1, Hc.out.2.1, Hc.out.2.2.1, Hc.out.2.2.2, Hn7.out⟩
end Go.Proofs.YtjdmaflkafmmpaaDoor
/-
  Steps of a decoder: Write, Close, SetEmitEnabled, EmitEnabled.
-/
namespace Go.Proofs.YtjdmaflkafmmpaaDoor
open Go.ChangeShapes Go.WideShapes Go.ChangeAt Go.RowKit

set_option maxHeartbeats 4000000 in
set_option maxRecDepth 100000 in
theorem decOn_any (B : Nat) (w : World) (d : Nat) (M : Emitter) (σ : HD.DS) (l : List HD.Fld) (p : DP) (aI aN aL : Addr) (b : Bool)
    (hL : Live B w d M σ.st l p) (hE : Env B w aI aN aL) (hV : Save B w d p.f σ.save) :
    Calls Tryd.prog 21 #[.pointer (some ⟨d, 0, none⟩), .agg #[.int .i64 4, .slice none 0 0, .int .i64 0, .bool b]] w (DEnds B w d M l p (p.cnt + σ.st.ents.length + σ.save.length) (HD.dstep σ (.on b))) := by
  have HL := Lib.hid hL
  have HE := Lib.hid hE
  have HV := Lib.hid hV
  clear hL hE hV
  have hd : d < w.heap.size := HL.out.lt
  obtain ⟨hb0, hr0, ha0⟩ := dec_world w #[.int .i64 4, .slice none 0 0, .int .i64 0, .bool b]
  have HB0 := Lib.hid hb0
  have HR0 := Lib.hid hr0
  have HA0 := Lib.hid ha0
  clear hb0 hr0 ha0
  go_enter Tryd.func21, Tryd.ntmps21
  go_wp2_with fail
  refine (setOn_any d p.f b _ (HL.out.row.of_heap (HB0.out.block d hd)) _ HL.out.mem.on).mono ?_
  rintro e w1 ⟨rfl, hr1, hu1⟩
  have hkk : ∀ k, k = w.heap.size + 1 ∨ k = w.heap.size + 1 + 1 → w1.heap[k]? = _ := fun k hk => hu1.block k (by have := HA0.out.lt; omega) (by omega)
  have hrr := HR0.out.of_heap (hkk _ (Or.inl rfl))
  have hra := HA0.out.of_heap (hkk _ (Or.inr rfl))
  have Hr1 := Lib.hid hr1
  have Hu1 := Lib.hid hu1
  clear hr1 hu1 hkk
  go_wp2_with fail
  refine (codeOf_nil _).mono ?_
  rintro e w2 ⟨rfl, rfl⟩
  have a0 := hra.cell' (i := 0) (v := .slice none 0 0) (by decide) rfl
  have a1 := hra.cell' (i := 1) (v := .slice none 0 0) (by decide) rfl
  have a2 := hra.cell' (i := 2) (v := .int .i64 0) (by decide) rfl
  have a3 := hra.cell' (i := 3) (v := .bool false) (by decide) rfl
  have a4 := hra.cell' (i := 4) (v := .int .i64 0) (by decide) rfl
  have a5 := hra.cell' (i := 5) (v := .int .i64 0) (by decide) rfl
  have r0 := hrr.cell' (i := 0) (v := .slice none 0 0) (by decide) rfl
  have r1 := hrr.cell' (i := 1) (v := .slice none 0 0) (by decide) rfl
  have r2 := hrr.cell' (i := 2) (v := .int .i64 0) (by decide) rfl
  have r3 := hrr.cell' (i := 3) (v := .bool false) (by decide) rfl
  have r4 := hrr.cell' (i := 4) (v := .int .i64 0) (by decide) rfl
  have r5 := hrr.cell' (i := 5) (v := .int .i64 0) (by decide) rfl
  have fza := fun i => hra.unfrozen i none
  have fzr := fun i => hrr.unfrozen i none
  go_wp2_with fail
  (try simp only [Exit.inBlock, Exit.then])
  refine bodyPost_ret (v := .agg (ansCells (.slice none 0 0) (.slice none 0 0) 0 ⟨[], [], false, none⟩)) ?_ rfl ?_
  · simp only [results, Tryd.results21]
    go_simp
    rfl
  have hb1 : Below B w w1 := by
    have h1 := HB0.out.mono HL.out.lo
    exact h1.trans (Hu1.out.below (Nat.le_trans HL.out.lo HB0.out.size) (fun k e => by rw [e]; exact HL.out.mem.tab.lo.1))
  have hk1 : ∀ k, k ≠ d → k < w.heap.size → w1.heap[k]? = w.heap[k]? := fun k hk hlt => (Hu1.out.block k (Nat.lt_of_lt_of_le hlt HB0.out.size) hk).trans (HB0.out.block k hlt)
  have hl : Live B w1 d M { σ.st with on := b } (l ++ []) { p with f := putF p.f 9 (.bool b) } := by
    rw [List.append_nil]
    exact HL.out.mode Hr1.out (fun i hi h7 h9 => by simp only [putF]; rw [if_neg h9]) (by simp [putF, HL.out.mem.allowed]) (by simp [putF]) (by simp [putF, HL.out.mem.first]) rfl rfl HL.out.ok.allowed (fun k hne ho => hk1 k hne (HL.out.own_lt ho))
  refine DEnds.close (r := HD.dstep σ (.on b)) (nn := 0) HL.out hl (HV.out.kept rfl rfl rfl (fun g hg => hk1 g (fun e => HV.out.ne (by rw [hg, e])) (HV.out.u8 hg).lt)) (fun k h => Or.inl h)
    ⟨hb1, fun k hlt hn _ => hk1 k (fun e => hn (e ▸ Or.inl (Or.inl rfl))) hlt⟩ (Nat.le_refl _) (FRow.nil _ _) hrr hra (Upd.refl _ _) (Below.refl _ _) (ans_upd w1 w.heap.size _ _ _ _ _ _ _ _)

set_option maxHeartbeats 4000000 in
set_option maxRecDepth 100000 in
theorem decIsOn_any (B : Nat) (w : World) (d : Nat) (M : Emitter) (σ : HD.DS) (l : List HD.Fld) (p : DP) (aI aN aL : Addr)
    (hL : Live B w d M σ.st l p) (hE : Env B w aI aN aL) (hV : Save B w d p.f σ.save) :
    Calls Tryd.prog 21 #[.pointer (some ⟨d, 0, none⟩), .agg #[.int .i64 7, .slice none 0 0, .int .i64 0, .bool false]] w (DEnds B w d M l p (p.cnt + σ.st.ents.length + σ.save.length) (HD.dstep σ .isOn)) := by
  have HL := Lib.hid hL
  have HE := Lib.hid hE
  have HV := Lib.hid hV
  clear hL hE hV
  have hd : d < w.heap.size := HL.out.lt
  obtain ⟨hb0, hr0, ha0⟩ := dec_world w #[.int .i64 7, .slice none 0 0, .int .i64 0, .bool false]
  have HB0 := Lib.hid hb0
  have HR0 := Lib.hid hr0
  have HA0 := Lib.hid ha0
  clear hb0 hr0 ha0
  go_enter Tryd.func21, Tryd.ntmps21
  go_wp2_with fail
  refine (emitOn_any d σ.st.on _ ((HL.out.row.of_heap (HB0.out.block d hd)).cell' (by decide) HL.out.mem.on)).mono ?_
  rintro e w1 ⟨rfl, hw1⟩
  have hrr : Row w1 _ _ _ := HR0.out.of_heap (by rw [hw1])
  have hra : Row w1 _ _ _ := HA0.out.of_heap (by rw [hw1])
  have hb1 : Below w.heap.size w w1 := by rw [hw1]; exact HB0.out
  have Hb1 := Lib.hid hb1
  clear hw1 hb1
  have a0 := hra.cell' (i := 0) (v := .slice none 0 0) (by decide) rfl
  have a1 := hra.cell' (i := 1) (v := .slice none 0 0) (by decide) rfl
  have a2 := hra.cell' (i := 2) (v := .int .i64 0) (by decide) rfl
  have a3 := hra.cell' (i := 3) (v := .bool false) (by decide) rfl
  have a4 := hra.cell' (i := 4) (v := .int .i64 0) (by decide) rfl
  have a5 := hra.cell' (i := 5) (v := .int .i64 0) (by decide) rfl
  have r0 := hrr.cell' (i := 0) (v := .slice none 0 0) (by decide) rfl
  have r1 := hrr.cell' (i := 1) (v := .slice none 0 0) (by decide) rfl
  have r2 := hrr.cell' (i := 2) (v := .int .i64 0) (by decide) rfl
  have r3 := hrr.cell' (i := 3) (v := .bool false) (by decide) rfl
  have r4 := hrr.cell' (i := 4) (v := .int .i64 0) (by decide) rfl
  have r5 := hrr.cell' (i := 5) (v := .int .i64 0) (by decide) rfl
  have fza := fun i => hra.unfrozen i none
  have fzr := fun i => hrr.unfrozen i none
  go_wp2_with fail
  refine (codeOf_nil _).mono ?_
  rintro e w2 ⟨rfl, rfl⟩
  go_wp2_with fail
  (try simp only [Exit.inBlock, Exit.then])
  refine bodyPost_ret (v := .agg (ansCells (.slice none 0 0) (.slice none 0 0) 0 ⟨[], [], σ.st.on, none⟩)) ?_ rfl ?_
  · simp only [results, Tryd.results21]
    go_simp
    rfl
  have hl : Live B w1 d M σ.st (l ++ []) p := by
    rw [List.append_nil]
    exact HL.out.below Hb1.out
  refine DEnds.close (r := HD.dstep σ .isOn) (nn := 0) HL.out hl (HV.out.kept rfl rfl rfl (fun g hg => Hb1.out.block g (HV.out.u8 hg).lt)) (fun k h => Or.inl h)
    (Kept.of_below Hb1.out HL.out.lo) (Nat.le_refl _) (FRow.nil _ _) hrr hra ((Upd.refl _ _).setCell (a := ⟨w.heap.size + 1 + 1, 3, none⟩) (Or.inl (Or.inr rfl)) (.bool σ.st.on)) (Below.refl _ _) (ans_upd _ w.heap.size _ _ _ _ _ _ _ _)

set_option maxHeartbeats 4000000 in
set_option maxRecDepth 100000 in
theorem decClose_any (B : Nat) (w : World) (d : Nat) (M : Emitter) (σ : HD.DS) (l : List HD.Fld) (p : DP) (aI aN aL : Addr)
    (hL : Live B w d M σ.st l p) (hE : Env B w aI aN aL) (hV : Save B w d p.f σ.save) (hlen : σ.save.length < 2 ^ 46) :
    Calls Tryd.prog 21 #[.pointer (some ⟨d, 0, none⟩), .agg #[.int .i64 1, .slice none 0 0, .int .i64 0, .bool false]] w (DEnds B w d M l p (p.cnt + σ.st.ents.length + σ.save.length) (HD.dstep σ .close)) := by
  have HL := Lib.hid hL
  have HE := Lib.hid hE
  have HV := Lib.hid hV
  clear hL hE hV
  obtain ⟨c12, a12, h12⟩ : ∃ (c : Nat) (a : Option Addr), p.f 12 = .slice a σ.save.length c := by
    obtain ⟨a, c, h⟩ := own_form HV.out.own
    exact ⟨c, a, h⟩
  have H12 := Lib.hid h12
  clear h12
  have hd : d < w.heap.size := HL.out.lt
  obtain ⟨hb0, hr0, ha0⟩ := dec_world w #[.int .i64 1, .slice none 0 0, .int .i64 0, .bool false]
  have HB0 := Lib.hid hb0
  have HR0 := Lib.hid hr0
  have HA0 := Lib.hid ha0
  clear hb0 hr0 ha0
  go_enter Tryd.func21, Tryd.ntmps21
  go_wp2_with fail
  rcases Classical.em (σ.save = []) with hs0 | hs0
  · have h12 : p.f 12 = .slice a12 0 c12 := by rw [H12.out, hs0]; rfl
    refine (closeOk_any d c12 a12 p.f _ (HL.out.row.of_heap (HB0.out.block d hd)) h12 HV.out.off _ HL.out.mem.first).mono ?_
    rintro e w1 ⟨rfl, hr1, hu1⟩
    have hkk : ∀ k, k = w.heap.size + 1 ∨ k = w.heap.size + 1 + 1 → w1.heap[k]? = _ := fun k hk => hu1.block k (by have := HA0.out.lt; omega) (by omega)
    have hrr := HR0.out.of_heap (hkk _ (Or.inl rfl))
    have hra := HA0.out.of_heap (hkk _ (Or.inr rfl))
    have Hr1 := Lib.hid hr1
    have Hu1 := Lib.hid hu1
    clear hr1 hu1 hkk
    go_wp2_with fail
    refine (codeOf_nil _).mono ?_
    rintro e w2 ⟨rfl, rfl⟩
    have a0 := hra.cell' (i := 0) (v := .slice none 0 0) (by decide) rfl
    have a1 := hra.cell' (i := 1) (v := .slice none 0 0) (by decide) rfl
    have a2 := hra.cell' (i := 2) (v := .int .i64 0) (by decide) rfl
    have a3 := hra.cell' (i := 3) (v := .bool false) (by decide) rfl
    have a4 := hra.cell' (i := 4) (v := .int .i64 0) (by decide) rfl
    have a5 := hra.cell' (i := 5) (v := .int .i64 0) (by decide) rfl
    have r0 := hrr.cell' (i := 0) (v := .slice none 0 0) (by decide) rfl
    have r1 := hrr.cell' (i := 1) (v := .slice none 0 0) (by decide) rfl
    have r2 := hrr.cell' (i := 2) (v := .int .i64 0) (by decide) rfl
    have r3 := hrr.cell' (i := 3) (v := .bool false) (by decide) rfl
    have r4 := hrr.cell' (i := 4) (v := .int .i64 0) (by decide) rfl
    have r5 := hrr.cell' (i := 5) (v := .int .i64 0) (by decide) rfl
    have fza := fun i => hra.unfrozen i none
    have fzr := fun i => hrr.unfrozen i none
    go_wp2_with fail
    (try simp only [Exit.inBlock, Exit.then])
    refine bodyPost_ret (v := .agg (ansCells (.slice none 0 0) (.slice none 0 0) 0 ⟨[], [], false, none⟩)) ?_ rfl ?_
    · simp only [results, Tryd.results21]
      go_simp
      rfl
    have hb1 : Below B w w1 := by
      have h1 := HB0.out.mono HL.out.lo
      exact h1.trans (Hu1.out.below (Nat.le_trans HL.out.lo HB0.out.size) (fun k e => by rw [e]; exact HL.out.mem.tab.lo.1))
    have hk1 : ∀ k, k ≠ d → k < w.heap.size → w1.heap[k]? = w.heap[k]? := fun k hk hlt => (Hu1.out.block k (Nat.lt_of_lt_of_le hlt HB0.out.size) hk).trans (HB0.out.block k hlt)
    have hl : Live B w1 d M { σ.st with first := true } (l ++ []) { p with f := putF p.f 15 (.bool true) } := by
      rw [List.append_nil]
      exact HL.out.put Hr1.out (fun i hi => by simp only [putF]; rw [if_neg (by omega)]) (by simp [putF]) (fun k hne ho => hk1 k hne (HL.out.own_lt ho))
    have hst : HD.dstep σ .close = (⟨{ σ.st with first := true }, []⟩, ⟨[], [], false, none⟩) := by simp only [HD.dstep, HD.close, if_pos hs0]
    have hsv : Save B w1 d (putF p.f 15 (.bool true)) [] := by rw [← hs0]; exact HV.out.kept rfl rfl rfl (fun g hg => hk1 g (fun e => HV.out.ne (by rw [hg, e])) (HV.out.u8 hg).lt)
    rw [hst]
    refine DEnds.close (r := (⟨{ σ.st with first := true }, []⟩, ⟨[], [], false, none⟩)) (nn := 0) HL.out hl hsv (fun k h => Or.inl h)
      ⟨hb1, fun k hlt hn _ => hk1 k (fun e => hn (e ▸ Or.inl (Or.inl rfl))) hlt⟩ (by simp) (FRow.nil _ _) hrr hra (Upd.refl _ _) (Below.refl _ _) (ans_upd w1 w.heap.size _ _ _ _ _ _ _ _)
  · obtain ⟨lr, h14⟩ := HV.out.last
    refine (closeBad_any d σ.save.length c12 a12 p.f _ (HL.out.row.of_heap (HB0.out.block d hd)) H12.out HV.out.off lr h14 (by unfold maxLen; omega) (List.length_pos_iff.2 hs0)).mono ?_
    rintro e w1 ⟨⟨x, rfl, hx⟩, hr1, hu1⟩
    have hkk : ∀ k, k = w.heap.size + 1 ∨ k = w.heap.size + 1 + 1 → w1.heap[k]? = _ := fun k hk => hu1.block k (by have := HA0.out.lt; omega) (by omega)
    have hrr0 := HR0.out.of_heap (hkk _ (Or.inl rfl))
    have hra0 := HA0.out.of_heap (hkk _ (Or.inr rfl))
    have hb1 : Below B w w1 := by
      have h1 := HB0.out.mono HL.out.lo
      exact h1.trans (hu1.below (Nat.le_trans HL.out.lo HB0.out.size) (fun k e => by rw [e]; exact HL.out.mem.tab.lo.1))
    have Hb1 := Lib.hid hb1
    have Hx := Lib.hid hx
    have Hr1 := Lib.hid hr1
    have Hu1 := Lib.hid hu1
    have Hrr0 := Lib.hid hrr0
    have Hra0 := Lib.hid hra0
    clear hr1 hu1 hkk hx hb1 hrr0 hra0
    go_wp2_with fail
    refine (codeOf_any B _ (some .coding) _ aI aN aL _ (HE.out.below (by exact Hb1.out)) (Nat.le_trans HL.out.lo HB0.out.size) ⟨x, rfl, Hx.out⟩).mono ?_
    rintro e w2 ⟨rfl, hb2⟩
    have hrr := Hrr0.out.below hb2 Hrr0.out.lt
    have hra := Hra0.out.below hb2 Hra0.out.lt
    have Hb2 := Lib.hid hb2
    clear hb2
    simp only [HD.code, HD.idx]
    have a0 := hra.cell' (i := 0) (v := .slice none 0 0) (by decide) rfl
    have a1 := hra.cell' (i := 1) (v := .slice none 0 0) (by decide) rfl
    have a2 := hra.cell' (i := 2) (v := .int .i64 0) (by decide) rfl
    have a3 := hra.cell' (i := 3) (v := .bool false) (by decide) rfl
    have a4 := hra.cell' (i := 4) (v := .int .i64 0) (by decide) rfl
    have a5 := hra.cell' (i := 5) (v := .int .i64 0) (by decide) rfl
    have r0 := hrr.cell' (i := 0) (v := .slice none 0 0) (by decide) rfl
    have r1 := hrr.cell' (i := 1) (v := .slice none 0 0) (by decide) rfl
    have r2 := hrr.cell' (i := 2) (v := .int .i64 0) (by decide) rfl
    have r3 := hrr.cell' (i := 3) (v := .bool false) (by decide) rfl
    have r4 := hrr.cell' (i := 4) (v := .int .i64 0) (by decide) rfl
    have r5 := hrr.cell' (i := 5) (v := .int .i64 0) (by decide) rfl
    have fza := fun i => hra.unfrozen i none
    have fzr := fun i => hrr.unfrozen i none
    go_wp2_with fail
    (try simp only [Exit.inBlock, Exit.then])
    refine bodyPost_ret (v := .agg (ansCells (.slice none 0 0) (.slice none 0 0) 0 ⟨[], [], false, some .coding⟩)) ?_ rfl ?_
    · simp only [results, Tryd.results21]
      go_simp
      rfl
    have hk1 : ∀ k, k ≠ d → k < w.heap.size → w1.heap[k]? = w.heap[k]? := fun k hk hlt => (Hu1.out.block k (Nat.lt_of_lt_of_le hlt HB0.out.size) hk).trans (HB0.out.block k hlt)
    have hl : Live B w1 d M { σ.st with first := σ.st.first } (l ++ []) { p with f := putF (putF p.f 12 (.slice a12 0 c12)) 14 (.int .i8 0) } := by
      rw [List.append_nil]
      exact HL.out.put Hr1.out (fun i hi => by simp only [putF]; rw [if_neg (by omega), if_neg (by omega)]) (by simp [putF, HL.out.mem.first]) (fun k hne ho => hk1 k hne (HL.out.own_lt ho))
    have hst : HD.dstep σ .close = (⟨σ.st, []⟩, ⟨[], [], false, some .coding⟩) := by simp only [HD.dstep, HD.close, if_neg hs0]
    have hsv : Save B w1 d (putF (putF p.f 12 (.slice a12 0 c12)) 14 (.int .i8 0)) [] := by
      have hown := HV.out.own
      rw [H12.out] at hown
      have hgs : ∃ g, a12 = some ⟨g, 0, none⟩ := by
        rcases hown.2 with ⟨-, h0⟩ | ⟨g, cap, cur, e, -⟩
        · exact absurd (List.eq_nil_of_length_eq_zero h0) hs0
        · injection e with e; exact ⟨g, e⟩
      obtain ⟨g, rfl⟩ := hgs
      have hg : (p.f 12).ownBlock = some g := by rw [H12.out]; rfl
      have hgd : g ≠ d := fun e => HV.out.ne (by rw [hg, e])
      refine ⟨?_, ?_, by simp [putF, HV.out.off], 0, by simp [putF]⟩
      · have : (putF (putF p.f 12 (.slice (some ⟨g, 0, none⟩) 0 c12)) 14 (.int .i8 0)) 12 = .slice (some ⟨g, 0, none⟩) 0 c12 := by simp [putF]
        rw [this]
        exact ownsRow_of_heap (own_reset hown) fun q hq => by injection hq with hq; subst hq; exact hk1 g hgd (HV.out.u8 hg).lt
      · simp [putF, Value.ownBlock, hgd]
    rw [hst]
    refine DEnds.close (r := (⟨σ.st, []⟩, ⟨[], [], false, some .coding⟩)) (nn := 0) HL.out hl hsv (fun k h => Or.inl h)
      ⟨Hb1.out, fun k hlt hn _ => hk1 k (fun e => hn (e ▸ Or.inl (Or.inl rfl))) hlt⟩ (by simp) (FRow.nil _ _) Hrr0.out Hra0.out (Upd.refl _ _) Hb2.out (ans_upd w2 w.heap.size _ _ _ _ _ _ _ _)
end Go.Proofs.YtjdmaflkafmmpaaDoor
/-
  Each step of a decoder meets what is asked of it; steps that lie in memory.
-/
namespace Go.Proofs.YtjdmaflkafmmpaaDoor
open Go.ChangeShapes Go.WideShapes Go.ChangeAt Go.RowKit

theorem CmdV.nil {w : World} {c : HD.Cmd} {b : Value} (h : CmdV w c b) (ht : c.takes = false) : b = .slice none 0 0 := by
  rcases h.2.2 with ⟨-, h⟩ | ⟨a, cap, -, -, h⟩
  · exact h
  · rw [ht] at h; cases h
section
variable {B d : Nat} {M : Emitter} {aI aN aL : Addr} {σ : HD.DS}
theorem cmdOk_allow {n : Nat} (hn : n ≤ 2 ^ 31) : CmdOk B d M aI aN aL σ (.allow n) := by
  intro w l p b hL hE hV hb hN hT
  obtain rfl := hb.nil rfl
  exact decAllow_any B w d M σ l p aI aN aL n hL hE hV hn
theorem cmdOk_on {b0 : Bool} : CmdOk B d M aI aN aL σ (.on b0) := by
  intro w l p b hL hE hV hb hN hT
  obtain rfl := hb.nil rfl
  exact decOn_any B w d M σ l p aI aN aL b0 hL hE hV
theorem cmdOk_isOn : CmdOk B d M aI aN aL σ .isOn := by
  intro w l p b hL hE hV hb hN hT
  obtain rfl := hb.nil rfl
  exact decIsOn_any B w d M σ l p aI aN aL hL hE hV
theorem cmdOk_close : CmdOk B d M aI aN aL σ .close := by
  intro w l p b hL hE hV hb hN hT
  obtain rfl := hb.nil rfl
  exact decClose_any B w d M σ l p aI aN aL hL hE hV (by omega)
theorem cmdOk_write {G : HD.St → HD.Bs → Prop} (hS : Steps B d M aI aN aL G) {v : HD.Bs} (hG : G σ.st (σ.save ++ v)) : CmdOk B d M aI aN aL σ (.write v) := by
  intro w l p b hL hE hV hb hN hT
  exact decWrite_any B w d M σ l p aI aN aL G hS v b hL hE hV hG hb hN (by rw [List.length_append]; simpa [HD.Cmd.len, HD.Cmd.bytes, Nat.add_assoc] using hT)
end

def stepCells : List HD.Cmd → List Value → List Value
  | c :: cs, b :: bs => cmdCells c b ++ stepCells cs bs
  | _, _ => []
theorem stepCells_at : ∀ (cs : List HD.Cmd) (bs : List Value) (i : Nat) (h : i < cs.length) (h' : i < bs.length) (j : Nat) (v : Value), (cmdCells cs[i] bs[i])[j]? = some v → (stepCells cs bs)[i * 4 + j]? = some v
  | [], _, _, h, _, _, _, _ => by simp at h
  | _ :: _, [], _, _, h, _, _, _ => by simp at h
  | c :: cs, b :: bs, 0, _, _, j, v, e => by
    have e : (cmdCells c b)[j]? = some v := e
    have hj := (List.getElem?_eq_some_iff.1 e).1
    rw [Nat.zero_mul, Nat.zero_add, stepCells, List.getElem?_append_left hj]
    exact e
  | c :: cs, b :: bs, i + 1, h, h', j, v, e => by
    rw [show (i + 1) * 4 + j = 4 + (i * 4 + j) by omega, stepCells, List.getElem?_append_right (by simp [cmdCells]), show 4 + (i * 4 + j) - (cmdCells c b).length = i * 4 + j by simp [cmdCells]]
    exact stepCells_at cs bs i (by simpa using h) (by simpa using h') j v e
theorem stepCells_len : ∀ (cs : List HD.Cmd) (bs : List Value), bs.length = cs.length → (stepCells cs bs).length = cs.length * 4
  | [], [], _ => rfl
  | [], _ :: _, h => by simp at h
  | _ :: _, [], h => by simp at h
  | c :: cs, b :: bs, h => by
    have := stepCells_len cs bs (by simpa using h)
    simp only [stepCells, List.length_append, this]
    simp [cmdCells]; omega
theorem stepCells_append : ∀ (cs cs' : List HD.Cmd) (bs bs' : List Value), bs.length = cs.length → stepCells (cs ++ cs') (bs ++ bs') = stepCells cs bs ++ stepCells cs' bs'
  | [], _, [], _, _ => rfl
  | [], _, _ :: _, _, h => by simp at h
  | _ :: _, _, [], _, h => by simp at h
  | c :: cs, cs', b :: bs, bs', h => by
    have := stepCells_append cs cs' bs bs' (by simpa using h)
    simp only [List.cons_append, stepCells, this, List.append_assoc]
theorem steps_of_cells {w : World} {g o : Nat} {cs : List HD.Cmd} {bs : List Value} (hl : bs.length = cs.length) (hc : ∀ j v, (stepCells cs bs)[j]? = some v → w.cell? ⟨g, o + j, none⟩ = some v) (hv : ∀ i (h : i < cs.length) (h' : i < bs.length), CmdV w cs[i] bs[i]) : StepsMem w g o cs bs :=
  ⟨hl, fun i h h' j v e => by rw [Nat.add_assoc]; exact hc _ _ (stepCells_at cs bs i h h' j v e), hv⟩
theorem dsteps_of_own {w : World} {B g n cap : Nat} {cs : List HD.Cmd} {bs : List Value} (hl : bs.length = cs.length) (h : w.ownsRow B 38 4 (.slice (some ⟨g, 0, none⟩) n cap) n (stepCells cs bs)) (hv : ∀ i (h : i < cs.length) (h' : i < bs.length), CmdV w cs[i] bs[i]) : StepsMem w g 0 cs bs :=
  steps_of_cells hl (fun j v e => by
    have := h.cells (g := g) rfl j v e
    rwa [Lib.addr_add] at this) hv
theorem CmdV.plain {w : World} {c : HD.Cmd} (hb : c.bytes = []) (hs : sizeOfC c < 2 ^ 32) : CmdV w c (.slice none 0 0) := ⟨by unfold HD.Cmd.len; rw [hb]; decide, hs, Or.inl ⟨hb, rfl⟩⟩
theorem CmdV.write_own {w : World} {B : Nat} {v : HD.Bs} {a : Option Addr} {cap : Nat} (hl : v.length < 2 ^ 40) (h : w.ownsRow B 5 1 (.slice a v.length cap) v.length (Lib.byteCells v)) : CmdV w (.write v) (.slice a v.length cap) := by
  refine ⟨hl, by simp [sizeOfC], ?_⟩
  rcases h.2 with ⟨e, h0⟩ | ⟨g1, cap1, cur, e, -⟩
  · exact Or.inl ⟨List.eq_nil_of_length_eq_zero h0, e⟩
  · injection e with e1 e2 e3
    subst e1; subst e3
    exact Or.inr ⟨⟨g1, 0, none⟩, cap, rfl, h.cells (g := g1) rfl, rfl⟩
theorem CmdV.of_below {w w' : World} {c : HD.Cmd} {b : Value} (h : CmdV w c b) (hb : Below w.heap.size w w') : CmdV w' c b :=
  ⟨h.1, h.2.1, h.2.2.imp id fun ⟨a, cap, e, hb', ht⟩ => ⟨a, cap, e, fun q u hu => (hb.cell (World.block_lt_of_cell? w _ (hb' q u hu))).trans (hb' q u hu), ht⟩⟩
end Go.Proofs.YtjdmaflkafmmpaaDoor
/-
  PLAIN: how many fields are told. No program in sight.
-/
namespace Go.Proofs.YtjdmaflkafmmpaaDoor.HD

theorem W_len : ∀ (n : Nat) (s : St) (out : List Fld) (v : Bs), v.length ≤ n → (W s out v).out.length + (W s out v).save.length ≤ out.length + v.length
  | n, s, out, [], _ => by simp [W_nil]
  | 0, _, _, _ :: _, h => by simp at h
  | n + 1, s, out, b :: v, h => by
    rw [W_cons]
    cases hr : pRepr s (b :: v) with
    | more => simp
    | bad e => simp
    | ok ents max o rest =>
      have hl := pRepr_len hr
      have := W_len n { s with ents := ents, max := max, first := false } (out ++ o.toList) rest (by simp at *; omega)
      have ho : o.toList.length ≤ 1 := by cases o <;> simp
      rw [List.length_append] at this
      dsimp only
      omega
theorem write_len (s : St) (save p : Bs) : (write s save p).out.length + (write s save p).save.length ≤ save.length + p.length := by
  unfold write
  split
  · simp
  · have := W_len _ s [] (save ++ p) (Nat.le_refl _)
    unfold W at this
    simp only [List.length_nil, List.length_append] at this ⊢
    omega
theorem close_len (s : St) (save : Bs) : (close s save).save.length ≤ save.length := by
  unfold close
  split <;> simp
theorem dstep_len (σ : DS) (c : Cmd) : (dstep σ c).2.out.length + (dstep σ c).1.save.length ≤ σ.save.length + c.len := by
  cases c with
  | write v => exact write_len σ.st σ.save v
  | close => have := close_len σ.st σ.save; simp only [dstep, List.length_nil]; omega
  | full v =>
    have h1 := write_len σ.st σ.save v
    have h2 := close_len (write σ.st σ.save v).st (write σ.st σ.save v).save
    simp only [dstep]
    show _ ≤ σ.save.length + v.length
    split
    · simp; omega
    · split
      · simp; omega
      · simp; omega
  | on b => simp [dstep]
  | resize n => simp [dstep]
  | allow n => simp [dstep]
  | isOn => simp [dstep]
theorem drun_sum : ∀ (cs : List Cmd) (σ : DS), ((drun σ cs).map fun a => a.out.length).sum ≤ σ.save.length + (cs.map Cmd.len).sum
  | [], _ => by simp [drun]
  | c :: cs, σ => by
    have h1 := dstep_len σ c
    have h2 := drun_sum cs (dstep σ c).1
    simp only [drun, List.map_cons, List.sum_cons]
    omega
theorem drun_len : ∀ (cs : List Cmd) (σ : DS), (drun σ cs).length = cs.length
  | [], _ => rfl
  | _ :: cs, σ => by rw [drun, List.length_cons, List.length_cons, drun_len cs]
theorem intg_len (above bits n : Nat) (hn : n < 2 ^ 35) : (intg above bits n).length ≤ 7 := by
  unfold intg
  split
  · simp
  · have := digs_len (n - (2 ^ bits - 1)) 5 (by omega)
    simp; omega
end Go.Proofs.YtjdmaflkafmmpaaDoor.HD
/-
  A step of a decoder: DecodeFull.
-/
namespace Go.Proofs.YtjdmaflkafmmpaaDoor
open Go.ChangeShapes Go.WideShapes Go.ChangeAt Go.RowKit

/-- What is known behind the call of DecodeFull. -/
structure FMid (B : Nat) (w w2 : World) (d : Nat) (M : Emitter) (l : List HD.Fld) (p p' : DP) (aI : Addr) (N : Nat) (r : HD.WR) (x : Value) : Prop where
  err : ErrO (w.heap.size + 3) w2 aI r.err x
  live : Live B w2 d M r.st l p'
  save : Save B w2 d p'.f r.save
  own : ∀ k, p'.own d k → p.own d k ∨ w.heap.size + 3 ≤ k
  kept : Kept B (p.own d) w w2
  num : p'.cnt + r.st.ents.length + r.save.length ≤ N
  rr : Row w2 (w.heap.size + 1) 6 (fun i => ans0.getD i undef)
  ra : Row w2 (w.heap.size + 1 + 1) 6 (fun i => ans0.getD i undef)
theorem FMid.below {B : Nat} {w w2 w3 : World} {d : Nat} {M : Emitter} {l : List HD.Fld} {p p' : DP} {aI : Addr} {N : Nat} {r : HD.WR} {x : Value} (h : FMid B w w2 d M l p p' aI N r x) (hb : Below w2.heap.size w2 w3) : FMid B w w3 d M l p p' aI N r x := by
  refine ⟨?_, h.live.below hb, h.save.kept rfl rfl rfl (fun g hg => hb.block g (h.save.u8 hg).lt), h.own, h.kept.step (Kept.of_below hb h.live.lo), h.num, h.rr.below hb h.rr.lt, h.ra.below hb h.ra.lt⟩
  have hx := h.err
  cases hr : r.err with
  | none => rw [hr] at hx; exact hx
  | some er => rw [hr] at hx; exact ErrV.move hx (Nat.le_refl _) (fun k _ hk => hb.block k hk)

theorem fMid (B : Nat) (w w1 : World) (d : Nat) (M : Emitter) (hM : EmOk B M) (σ : HD.DS) (l : List HD.Fld) (p : DP) (aI aN aL : Addr) (v : HD.Bs) (b1 : Value) (N : Nat)
    (hL : Live B w d M σ.st l p) (hE : Env B w aI aN aL) (hV : Save B w d p.f σ.save) (hG : (σ.save ++ v).length ≤ 2 ^ 26) (hN0 : N = p.cnt + σ.st.ents.length + σ.save.length + v.length) (hN : N < 2 ^ 46)
    (hb1 : Below w.heap.size w w1) (hr1 : Row w1 (w.heap.size + 1) 6 (fun i => ans0.getD i undef)) (ha1 : Row w1 (w.heap.size + 1 + 1) 6 (fun i => ans0.getD i undef))
    (hs : (v = [] ∧ b1 = .slice none 0 0) ∨ ∃ g o cap, b1 = .slice (some ⟨g, o, none⟩) v.length cap ∧ Buf w1 g o cap v ∧ IsU8 w1 g) :
    Calls Tryd.prog 33 #[.pointer (some ⟨d, 0, none⟩), b1] w1 fun e w2 => ∃ x lv p', e = .returned (.tuple #[lv, x]) ∧ FSl w2 lv (fullR σ.st σ.save v).out ∧ FMid B w w2 d M l p p' aI N (fullR σ.st σ.save v) x := by
  have hsz : w.heap.size + 3 ≤ w1.heap.size := by have := ha1.lt; omega
  have hl1 := hL.below hb1
  have he1 := hE.below (hb1.mono hL.lo)
  have hv1 : Save B w1 d p.f σ.save := hV.kept rfl rfl rfl (fun g hg => hb1.block g (hV.u8 hg).lt)
  obtain ⟨sa, cap, rfl, hsrc⟩ : ∃ sa cap, b1 = .slice sa v.length cap ∧ (v = [] ∨ ∃ g o, sa = some ⟨g, o, none⟩ ∧ Buf w1 g o cap v ∧ IsU8 w1 g) := by
    rcases hs with ⟨hv, rfl⟩ | ⟨g, o, cap, rfl, hb, hu⟩
    · exact ⟨none, 0, by rw [hv]; rfl, Or.inl hv⟩
    · exact ⟨_, cap, rfl, Or.inr ⟨g, o, rfl, hb, hu⟩⟩
  refine (decodeFull_any B w1 d M hM σ.st l p aI aN aL σ.save v sa cap N hl1 he1 hv1 hG hsrc (Nat.le_of_eq hN0.symm) hN).mono ?_
  rintro e w2 ⟨x, lv, p', rfl, hx, hf, hl2, hs2, ho2, hk2, hn2⟩
  have hkk : ∀ k, k = w.heap.size + 1 ∨ k = w.heap.size + 1 + 1 → w2.heap[k]? = w1.heap[k]? := fun k hk => hk2.block k (by omega) (fun h => by
    have := hL.own_lt h
    omega) (by
      rcases hk with rfl | rfl
      · exact hr1.notU8
      · exact ha1.notU8)
  refine ⟨x, lv, p', rfl, hf, ?_, hl2, hs2, fun k h => (ho2 k h).imp id (fun h => Nat.le_trans hsz h), (Kept.of_below hb1 hL.lo).step hk2, hn2, hr1.of_heap (hkk _ (Or.inl rfl)), ha1.of_heap (hkk _ (Or.inr rfl))⟩
  cases hr : (fullR σ.st σ.save v).err with
  | none => rw [hr] at hx; exact hx
  | some er => rw [hr] at hx; exact ErrV.move hx hsz (fun k _ _ => rfl)

theorem dstep_full (σ : HD.DS) (v : HD.Bs) : HD.dstep σ (.full v) = (⟨(fullR σ.st σ.save v).st, (fullR σ.st σ.save v).save⟩, ⟨[], (fullR σ.st σ.save v).out, false, (fullR σ.st σ.save v).err⟩) := by
  simp only [HD.dstep, fullR]
  cases h1 : (HD.write σ.st σ.save v).err with
  | some e => rfl
  | none =>
    simp only []
    cases h2 : (HD.close (HD.write σ.st σ.save v).st (HD.write σ.st σ.save v).save).err <;> rfl
theorem fullR_len (s : HD.St) (save v : HD.Bs) : (fullR s save v).out.length ≤ (save ++ v).length := by
  unfold fullR
  split
  · simp
  · split
    · simp
    · have := HD.write_len s save v
      rw [List.length_append]; show (HD.write s save v).out.length ≤ _; omega

set_option maxHeartbeats 4000000 in
set_option maxRecDepth 100000 in
theorem decFull_any (B : Nat) (w : World) (d : Nat) (M : Emitter) (hM : EmOk B M) (σ : HD.DS) (l : List HD.Fld) (p : DP) (aI aN aL : Addr) (v : HD.Bs) (b : Value)
    (hL : Live B w d M σ.st l p) (hE : Env B w aI aN aL) (hV : Save B w d p.f σ.save) (hG : (σ.save ++ v).length ≤ 2 ^ 26) (hb : CmdV w (.full v) b) (hN : p.cnt + σ.st.ents.length + σ.save.length + v.length < 2 ^ 46) :
    Calls Tryd.prog 21 #[.pointer (some ⟨d, 0, none⟩), .agg #[.int .i64 2, b, .int .i64 0, .bool false]] w (DEnds B w d M l p (p.cnt + σ.st.ents.length + σ.save.length + v.length) (HD.dstep σ (.full v))) := by
  have HL := Lib.hid hL
  have HE := Lib.hid hE
  have HV := Lib.hid hV
  have HM := Lib.hid hM
  clear hL hE hV hM
  have hd : d < w.heap.size := HL.out.lt
  obtain ⟨hb0, hr0, ha0⟩ := dec_world w #[.int .i64 2, b, .int .i64 0, .bool false]
  have HB0 := Lib.hid hb0
  have HR0 := Lib.hid hr0
  have HA0 := Lib.hid ha0
  clear hb0 hr0 ha0
  obtain ⟨hl40, -, hb⟩ := hb
  have hl40 : v.length < 2 ^ 40 := hl40
  rcases hb with ⟨hv, rfl⟩ | ⟨sa, cap, hbe, hb, -⟩
  · have Hv := Lib.hid hv
    clear hv
    go_enter Tryd.func21, Tryd.ntmps21
    go_wp2_with fail
    refine (fMid B w _ d M HM.out σ l p aI aN aL v _ _ HL.out HE.out HV.out hG rfl hN (by exact HB0.out) (by exact HR0.out) (by exact HA0.out) (Or.inl ⟨Hv.out, rfl⟩)).mono ?_
    rintro e w2 ⟨x, lv, p', rfl, hf, hm⟩
    have Hm := Lib.hid hm
    have Hf := Lib.hid hf
    clear hm hf
    go_wp2_with fail
    refine (fromFields_fsl _ lv w2 (by have := fullR_len σ.st σ.save v; omega) Hf.out).mono ?_
    rintro e w3 ⟨v3, rfl, hown3, hb3⟩
    have hm3 := Hm.out.below hb3
    have hfr : FRow w3 (fun k => w.heap.size + 3 ≤ k ∧ k < w3.heap.size ∧ ¬ p'.own d k ∧ ¬ IsU8 w3 k) v3 (fullR σ.st σ.save v).out := FRow.of_own hown3 (fun g hg => by
      have h1 := hown3.lt g hg
      have h2 := Hm.out.ra.lt
      refine ⟨by omega, h1.2, fun h => ?_, fun ⟨cs, fz, hu⟩ => ?_⟩
      · have := Hm.out.live.own_lt h; omega
      · obtain ⟨c, fz', hc⟩ := Lib.ownsRow_kind hown3 g hg
        rw [hc] at hu; injection hu with hu; injection hu with _ hu _; exact absurd hu (by decide))
    have Hfr := Lib.hid hfr
    have Hm3 := Lib.hid hm3
    clear hfr hm3 hown3 hb3 Hm Hf
    have hE2' : Env B (w3.setCell ⟨w.heap.size + 1 + 1, 1, none⟩ v3) aI aN aL := (HE.out.below Hm3.out.kept.below).below ⟨rfl, rfl, rfl, by rw [World.size_setCell]; exact Nat.le_refl _, fun k hk => other_set (by have := HL.out.lo; show w.heap.size + 1 + 1 ≠ k; omega)⟩
    have hx2 : ErrO (w.heap.size + 3) (w3.setCell ⟨w.heap.size + 1 + 1, 1, none⟩ v3) aI (fullR σ.st σ.save v).err x := by
      have hx := Hm3.out.err
      cases hr : (fullR σ.st σ.save v).err with
      | none => rw [hr] at hx; exact hx
      | some er => rw [hr] at hx; exact ErrV.move hx (Nat.le_refl _) (fun k hk _ => other_set (by show w.heap.size + 1 + 1 ≠ k; omega))
    obtain ⟨a3v, c3v, n3v, hv3⟩ : ∃ a c n, v3 = .slice a n c := by
      rcases Hfr.out with ⟨h, -⟩ | ⟨g, cap, h, -⟩
      · exact ⟨_, _, _, h⟩
      · exact ⟨_, _, _, h⟩
    subst hv3
    have Hra3 := Lib.hid (Hm3.out.ra.set 1 (.slice a3v n3v c3v))
    have Hrr3 := Lib.hid (Hm3.out.rr.setOther (a := ⟨w.heap.size + 1 + 1, 1, none⟩) (by show w.heap.size + 1 ≠ w.heap.size + 1 + 1; omega) (.slice a3v n3v c3v))
    have za1 := Hm3.out.ra.cell' (i := 1) (v := .slice none 0 0) (by decide) rfl
    have zfa := fun i => Hm3.out.ra.unfrozen i none
    have Hx2 := Lib.hid hx2
    have HE2 := Lib.hid hE2'
    have hBs : B ≤ w.heap.size + 3 := by have := HL.out.lo; omega
    clear hE2' hx2
    go_wp2_with fail
    refine (codeOf_any B (w.heap.size + 3) (fullR σ.st σ.save v).err x aI aN aL _ (by exact HE2.out) hBs (by exact Hx2.out)).mono ?_
    rintro e w4 ⟨rfl, hb4⟩
    have hra : Row w4 (w.heap.size + 1 + 1) 6 _ := Hra3.out.below hb4 Hra3.out.lt
    have hrr : Row w4 (w.heap.size + 1) 6 _ := Hrr3.out.below hb4 Hrr3.out.lt
    have Hb4 : Hid (Below (w3.setCell ⟨w.heap.size + 1 + 1, 1, none⟩ (.slice a3v n3v c3v)).heap.size (w3.setCell ⟨w.heap.size + 1 + 1, 1, none⟩ (.slice a3v n3v c3v)) w4) := Lib.hid hb4
    clear hb4 za1 zfa
    have a0 := hra.cell' (i := 0) (v := .slice none 0 0) (by decide) rfl
    have a1 := hra.cell' (i := 1) (v := .slice a3v n3v c3v) (by decide) rfl
    have a2 := hra.cell' (i := 2) (v := .int .i64 0) (by decide) rfl
    have a3 := hra.cell' (i := 3) (v := .bool false) (by decide) rfl
    have a4 := hra.cell' (i := 4) (v := .int .i64 0) (by decide) rfl
    have a5 := hra.cell' (i := 5) (v := .int .i64 0) (by decide) rfl
    have r0 := hrr.cell' (i := 0) (v := .slice none 0 0) (by decide) rfl
    have r1 := hrr.cell' (i := 1) (v := .slice none 0 0) (by decide) rfl
    have r2 := hrr.cell' (i := 2) (v := .int .i64 0) (by decide) rfl
    have r3 := hrr.cell' (i := 3) (v := .bool false) (by decide) rfl
    have r4 := hrr.cell' (i := 4) (v := .int .i64 0) (by decide) rfl
    have r5 := hrr.cell' (i := 5) (v := .int .i64 0) (by decide) rfl
    have fza := fun i => hra.unfrozen i none
    have fzr := fun i => hrr.unfrozen i none
    go_wp2_with fail
    (try simp only [Exit.inBlock, Exit.then])
    refine bodyPost_ret (v := .agg (ansCells (.slice none 0 0) (.slice a3v n3v c3v) 0 (HD.dstep σ (.full v)).2)) ?_ rfl ?_
    · rw [dstep_full]
      simp only [results, Tryd.results21]
      go_simp
      rfl
    rw [dstep_full]
    exact DEnds.close (N := p.cnt + σ.st.ents.length + σ.save.length + v.length) (r := (⟨(fullR σ.st σ.save v).st, (fullR σ.st σ.save v).save⟩, ⟨[], (fullR σ.st σ.save v).out, false, (fullR σ.st σ.save v).err⟩)) (nn := 0) HL.out (by simpa using Hm3.out.live) Hm3.out.save Hm3.out.own Hm3.out.kept Hm3.out.num Hfr.out Hm3.out.rr Hm3.out.ra ((Upd.refl _ w3).setCell (a := ⟨w.heap.size + 1 + 1, 1, none⟩) (Or.inl (Or.inr rfl)) (.slice a3v n3v c3v)) Hb4.out (ans_upd w4 w.heap.size _ _ _ _ _ _ _ _)
  · have hbe : b = .slice (some sa) v.length cap := hbe
    have hb : ∀ q u, (Lib.byteCells v)[q]? = some u → w.cell? (sa.add q) = some u := hb
    subst hbe
    have hcells : ∀ q u, (Lib.byteCells v)[q]? = some u → (((w.alloc (.cells #[.int .i64 2, .slice (some sa) v.length cap, .int .i64 0, .bool false] 38)).alloc (.cells ans0 41)).alloc (.cells ans0 41)).cell? (sa.add q) = some u := by
      intro q u hq
      have h0 := hb q u hq
      exact (HB0.out.cell (World.block_lt_of_cell? w _ h0)).trans h0
    have Hcells := Lib.hid hcells
    clear hcells hb
    have Hs0 := Lib.hid (dec_first w #[.int .i64 2, .slice (some sa) v.length cap, .int .i64 0, .bool false] (.int .i64 2) rfl)
    obtain ⟨i0, hi, hz0, hz1, hz2⟩ := info_parts infoU8
    go_enter Tryd.func21, Tryd.ntmps21
    go_wp2_with (at_builtin; go_must (refine wpList_append_own_at _ rfl _ _ 30 rfl w.heap.size 5 i0 (.int .u8 0) 1 1 Tryd.underlying30 hi hz0 hz1 hz2 rfl (by decide) (.slice none 0 0) 0 [] rfl (World.ownsRow_nil _ w.heap.size _ _) sa v.length cap (Lib.byteCells v) rfl (by rw [byteCells_len, Nat.mul_one]) (by exact Hcells.out) (Lib.byteCells_one _) (by unfold maxLen; omega) (by omega) (by simp; omega) ?_); intro v1 w1 hown1 hgrow1 _ _; rw [Nat.zero_add, List.nil_append] at hown1; have hbw1 := (Below.refl _ _).grown hgrow1 (Nat.le_refl _) (fun k hk => by cases hk); have Hown1 := Lib.hid hown1; have Hbw1 := Lib.hid hbw1; have s0 := (hbw1.cell (p := ⟨w.heap.size, 0, none⟩) (by simp; omega)).trans Hs0.out; clear hown1 hgrow1 hbw1)
    have hb1 : Below w.heap.size w w1 := HB0.out.trans (Hbw1.out.mono HB0.out.size)
    have hs1 : (v = [] ∧ v1 = .slice none 0 0) ∨ ∃ g o cap, v1 = .slice (some ⟨g, o, none⟩) v.length cap ∧ Buf w1 g o cap v ∧ IsU8 w1 g := by
      rcases Hown1.out.2 with ⟨e, h0⟩ | ⟨g1, cap1, cur, e, -⟩
      · exact Or.inl ⟨List.eq_nil_of_length_eq_zero h0, e⟩
      · have ho := Hown1.out
        rw [e] at ho
        exact Or.inr ⟨g1, 0, cap1, e, Buf.of_own ho rfl⟩
    refine (fMid B w w1 d M HM.out σ l p aI aN aL v v1 _ HL.out HE.out HV.out hG rfl hN hb1 (HR0.out.below Hbw1.out HR0.out.lt) (HA0.out.below Hbw1.out HA0.out.lt) hs1).mono ?_
    clear hs1 hb1
    rintro e w2 ⟨x, lv, p', rfl, hf, hm⟩
    have Hm := Lib.hid hm
    have Hf := Lib.hid hf
    clear hm hf
    go_wp2_with fail
    refine (fromFields_fsl _ lv w2 (by have := fullR_len σ.st σ.save v; omega) Hf.out).mono ?_
    rintro e w3 ⟨v3, rfl, hown3, hb3⟩
    have hm3 := Hm.out.below hb3
    have hfr : FRow w3 (fun k => w.heap.size + 3 ≤ k ∧ k < w3.heap.size ∧ ¬ p'.own d k ∧ ¬ IsU8 w3 k) v3 (fullR σ.st σ.save v).out := FRow.of_own hown3 (fun g hg => by
      have h1 := hown3.lt g hg
      have h2 := Hm.out.ra.lt
      refine ⟨by omega, h1.2, fun h => ?_, fun ⟨cs, fz, hu⟩ => ?_⟩
      · have := Hm.out.live.own_lt h; omega
      · obtain ⟨c, fz', hc⟩ := Lib.ownsRow_kind hown3 g hg
        rw [hc] at hu; injection hu with hu; injection hu with _ hu _; exact absurd hu (by decide))
    have Hfr := Lib.hid hfr
    have Hm3 := Lib.hid hm3
    clear hfr hm3 hown3 hb3 Hm Hf
    have hE2' : Env B (w3.setCell ⟨w.heap.size + 1 + 1, 1, none⟩ v3) aI aN aL := (HE.out.below Hm3.out.kept.below).below ⟨rfl, rfl, rfl, by rw [World.size_setCell]; exact Nat.le_refl _, fun k hk => other_set (by have := HL.out.lo; show w.heap.size + 1 + 1 ≠ k; omega)⟩
    have hx2 : ErrO (w.heap.size + 3) (w3.setCell ⟨w.heap.size + 1 + 1, 1, none⟩ v3) aI (fullR σ.st σ.save v).err x := by
      have hx := Hm3.out.err
      cases hr : (fullR σ.st σ.save v).err with
      | none => rw [hr] at hx; exact hx
      | some er => rw [hr] at hx; exact ErrV.move hx (Nat.le_refl _) (fun k hk _ => other_set (by show w.heap.size + 1 + 1 ≠ k; omega))
    obtain ⟨a3v, c3v, n3v, hv3⟩ : ∃ a c n, v3 = .slice a n c := by
      rcases Hfr.out with ⟨h, -⟩ | ⟨g, cap, h, -⟩
      · exact ⟨_, _, _, h⟩
      · exact ⟨_, _, _, h⟩
    subst hv3
    have Hra3 := Lib.hid (Hm3.out.ra.set 1 (.slice a3v n3v c3v))
    have Hrr3 := Lib.hid (Hm3.out.rr.setOther (a := ⟨w.heap.size + 1 + 1, 1, none⟩) (by show w.heap.size + 1 ≠ w.heap.size + 1 + 1; omega) (.slice a3v n3v c3v))
    have za1 := Hm3.out.ra.cell' (i := 1) (v := .slice none 0 0) (by decide) rfl
    have zfa := fun i => Hm3.out.ra.unfrozen i none
    have Hx2 := Lib.hid hx2
    have HE2 := Lib.hid hE2'
    have hBs : B ≤ w.heap.size + 3 := by have := HL.out.lo; omega
    clear hE2' hx2
    go_wp2_with fail
    refine (codeOf_any B (w.heap.size + 3) (fullR σ.st σ.save v).err x aI aN aL _ (by exact HE2.out) hBs (by exact Hx2.out)).mono ?_
    rintro e w4 ⟨rfl, hb4⟩
    have hra : Row w4 (w.heap.size + 1 + 1) 6 _ := Hra3.out.below hb4 Hra3.out.lt
    have hrr : Row w4 (w.heap.size + 1) 6 _ := Hrr3.out.below hb4 Hrr3.out.lt
    have Hb4 : Hid (Below (w3.setCell ⟨w.heap.size + 1 + 1, 1, none⟩ (.slice a3v n3v c3v)).heap.size (w3.setCell ⟨w.heap.size + 1 + 1, 1, none⟩ (.slice a3v n3v c3v)) w4) := Lib.hid hb4
    clear hb4 za1 zfa
    have a0 := hra.cell' (i := 0) (v := .slice none 0 0) (by decide) rfl
    have a1 := hra.cell' (i := 1) (v := .slice a3v n3v c3v) (by decide) rfl
    have a2 := hra.cell' (i := 2) (v := .int .i64 0) (by decide) rfl
    have a3 := hra.cell' (i := 3) (v := .bool false) (by decide) rfl
    have a4 := hra.cell' (i := 4) (v := .int .i64 0) (by decide) rfl
    have a5 := hra.cell' (i := 5) (v := .int .i64 0) (by decide) rfl
    have r0 := hrr.cell' (i := 0) (v := .slice none 0 0) (by decide) rfl
    have r1 := hrr.cell' (i := 1) (v := .slice none 0 0) (by decide) rfl
    have r2 := hrr.cell' (i := 2) (v := .int .i64 0) (by decide) rfl
    have r3 := hrr.cell' (i := 3) (v := .bool false) (by decide) rfl
    have r4 := hrr.cell' (i := 4) (v := .int .i64 0) (by decide) rfl
    have r5 := hrr.cell' (i := 5) (v := .int .i64 0) (by decide) rfl
    have fza := fun i => hra.unfrozen i none
    have fzr := fun i => hrr.unfrozen i none
    go_wp2_with fail
    (try simp only [Exit.inBlock, Exit.then])
    refine bodyPost_ret (v := .agg (ansCells (.slice none 0 0) (.slice a3v n3v c3v) 0 (HD.dstep σ (.full v)).2)) ?_ rfl ?_
    · rw [dstep_full]
      simp only [results, Tryd.results21]
      go_simp
      rfl
    rw [dstep_full]
    exact DEnds.close (N := p.cnt + σ.st.ents.length + σ.save.length + v.length) (r := (⟨(fullR σ.st σ.save v).st, (fullR σ.st σ.save v).save⟩, ⟨[], (fullR σ.st σ.save v).out, false, (fullR σ.st σ.save v).err⟩)) (nn := 0) HL.out (by simpa using Hm3.out.live) Hm3.out.save Hm3.out.own Hm3.out.kept Hm3.out.num Hfr.out Hm3.out.rr Hm3.out.ra ((Upd.refl _ w3).setCell (a := ⟨w.heap.size + 1 + 1, 1, none⟩) (Or.inl (Or.inr rfl)) (.slice a3v n3v c3v)) Hb4.out (ans_upd w4 w.heap.size _ _ _ _ _ _ _ _)
theorem cmdOk_full {B d : Nat} {M : Emitter} {aI aN aL : Addr} {σ : HD.DS} (hM : EmOk B M) {v : HD.Bs} (hG : (σ.save ++ v).length ≤ 2 ^ 26) : CmdOk B d M aI aN aL σ (.full v) := by
  intro w l p b hL hE hV hb hN hT
  exact decFull_any B w d M hM σ l p aI aN aL v b hL hE hV hG hb hN
end Go.Proofs.YtjdmaflkafmmpaaDoor
/-
  What a row that lists the error of Huffman codes gives: the variable holds a pointer. No condition.
-/
namespace Go.Proofs.YtjdmaflkafmmpaaDoor
open Go.ChangeShapes Go.WideShapes Go.ChangeAt Go.RowKit

theorem gInv : Tryd.prog.globalNamed "loop.example/pub-g03022/pub/hpack.ErrInvalidHuffman" = some 0 := by kernel_rfl
theorem gInvType : (Tryd.prog.globals[0]?).map (·.type) = some 79 := by kernel_rfl
theorem star : "*errors.errorString" = "*" ++ "errors.errorString" := by kernel_rfl
theorem rowErr (u : TypeId) (h : Tryd.prog.typeName? 3 u = some "*errors.errorString") : u = 125 :=
  typeName_ptr_named (nm := "errors.errorString") (by rw [← star]; kernel_rfl) (by kernel_rfl) (by decide) u (by rw [← star]; exact h)
theorem cellsErr : Tryd.prog.cellsOf 127 = 1 := by kernel_rfl
theorem cellsStr : Tryd.prog.cellsOf 9 = 1 := by kernel_rfl
end Go.Proofs.YtjdmaflkafmmpaaDoor
/-
  What the decoder's rows list: the package's variables that decoding reads. No condition.
-/
namespace Go.Proofs.YtjdmaflkafmmpaaDoor
open Go.ChangeShapes Go.WideShapes Go.ChangeAt Go.RowKit

theorem gMore : Tryd.prog.globalNamed "loop.example/pub-g03022/pub/hpack.errNeedMore" = some 3 := by kernel_rfl
theorem gMoreType : (Tryd.prog.globals[3]?).map (·.type) = some 79 := by kernel_rfl
theorem gLong : Tryd.prog.globalNamed "loop.example/pub-g03022/pub/hpack.ErrStringLength" = some 1 := by kernel_rfl
theorem gLongType : (Tryd.prog.globals[1]?).map (·.type) = some 79 := by kernel_rfl

theorem Env.mono {B B' : Nat} {w : World} {aI aN aL : Addr} (h : Env B w aI aN aL) (hB : B ≤ B') : Env B' w aI aN aL :=
  ⟨h.len, h.code, h.eI, h.eN, h.eL, h.fI, h.fN, h.fL, h.ne, Nat.lt_of_lt_of_le h.bI hB, Nat.lt_of_lt_of_le h.bN hB, Nat.lt_of_lt_of_le h.bL hB, Nat.lt_of_lt_of_le h.g1 hB, Nat.lt_of_lt_of_le h.g2 hB, Nat.lt_of_lt_of_le h.g3 hB, Nat.lt_of_lt_of_le h.g4 hB, Nat.lt_of_lt_of_le h.g5 hB⟩
noncomputable def envList : List (String × DataW Unit) := [("bytes.ErrTooLarge", Rows.laid_bytes_ErrTooLarge), ("loop.example/pub-g03022/pub/hpack.ErrStringLength", Rows.laid_loop_example_pub_g03022_pub_hpack_ErrStringLength), ("loop.example/pub-g03022/pub/hpack.errNeedMore", Rows.laid_loop_example_pub_g03022_pub_hpack_errNeedMore), ("loop.example/pub-g03022/pub/hpack.ErrInvalidHuffman", Rows.laid_loop_example_pub_g03022_pub_hpack_ErrInvalidHuffman), ("loop.example/pub-g03022/pub/hpack.huffmanCodes", Lib.tabData .u32 codeInts), ("loop.example/pub-g03022/pub/hpack.huffmanCodeLen", Lib.tabData .u8 lenInts)]

theorem env_of {W : World} (h : laidMetH Tryd.prog envList W) : ∃ aI aN aL, Env W.heap.size W aI aN aL := by
  have h1 := laidMet.tail h
  have h2 := laidMet.tail h1
  obtain ⟨aL, aN, s0, s1, c0, c1, t0, t1, v0, v1, -, -, -, -, -, -, -, b0, b1⟩ := laid_sentinels2 h1 gLong gLongType gMore gMoreType Tryd.underlying79 rowErr Tryd.underlying125 Tryd.underlying127 rfl rfl Tryd.underlying9 cellsErr cellsStr
  obtain ⟨aN', aI, s2, s3, c2, c3, t2, t3, v2, v3, -, -, -, -, -, -, hne, b2, b3⟩ := laid_sentinels2 h2 gMore gMoreType gInv gInvType Tryd.underlying79 rowErr Tryd.underlying125 Tryd.underlying127 rfl rfl Tryd.underlying9 cellsErr cellsStr
  have e : aN' = aN := by
    rw [v1] at v2
    simpa using v2.symm
  subst e
  have hc := codeTab_of_head (laidMet.tail (laidMet.tail h2))
  have hl := lenTab_of_head (laidMet.tail (laidMet.tail (laidMet.tail h2)))
  have eI : W.cell? ⟨0, 0, none⟩ = some (.iface 125 (.pointer (some aI))) := by simpa using World.var?_cell gInv v3 0
  have eN : W.cell? ⟨3, 0, none⟩ = some (.iface 125 (.pointer (some aN'))) := by simpa using World.var?_cell gMore v1 0
  have eL : W.cell? ⟨1, 0, none⟩ = some (.iface 125 (.pointer (some aL))) := by simpa using World.var?_cell gLong v0 0
  exact ⟨aI, aN', aL, hl, hc, eI, eN, eL, ⟨Nat.zero_le _, _, _, b3⟩, ⟨Nat.zero_le _, _, _, b1⟩, ⟨Nat.zero_le _, _, _, b0⟩, fun h => hne h.symm,
    (Array.getElem?_eq_some_iff.1 b3).1, (Array.getElem?_eq_some_iff.1 b1).1, (Array.getElem?_eq_some_iff.1 b0).1, LenTab.lt hl, CodeTab.lt hc, World.block_lt_of_cell? W _ eI, World.block_lt_of_cell? W _ eN, World.block_lt_of_cell? W _ eL⟩
end Go.Proofs.YtjdmaflkafmmpaaDoor
/-
  What impl.Decode hands back, as the laws read it.
-/
namespace Go.Proofs.YtjdmaflkafmmpaaDoor
open Go.ChangeShapes Go.WideShapes Go.ChangeAt Go.RowKit

/-- Answers lie at the head of block g. -/
structure AnsMem (w : World) (g cap : Nat) (A : List HD.Ans) : Prop where
  len : A.length ≤ cap
  ex : ∃ vs X, (∀ j v, vs[j]? = some v → w.cell? ⟨g, j, none⟩ = some v) ∧ (∀ i a, A[i]? = some a → AnsAt w X vs i a) ∧ (∀ k, X k → k < w.heap.size)
theorem AnsMem.mono {w w' : World} {g cap : Nat} {A : List HD.Ans} (h : AnsMem w g cap A) (hb : Below w.heap.size w w') : AnsMem w' g cap A := by
  obtain ⟨h1, vs, X, h2, h3, h4⟩ := h
  refine ⟨h1, vs, X, fun j v hv => (hb.cell (p := ⟨g, j, none⟩) (World.block_lt_of_cell? _ _ (h2 j v hv))).trans (h2 j v hv), fun i a ha => ?_, fun k hk => Nat.lt_of_lt_of_le (h4 k hk) hb.size⟩
  have := (h3 i a ha).move (w' := w') (Y := X) (fun k hk => hb.block k (h4 k hk)) (fun k hk => hk) []
  rwa [List.append_nil] at this
theorem ans_of_run {w w' : World} {A : List HD.Ans} {e : Ending} (h : RunEnds w A e w') (hA : 0 < A.length) : ∃ g cap, e = .returned (.slice (some ⟨g, 0, none⟩) A.length cap) ∧ AnsMem w' g cap A ∧ Below w.heap.size w w' := by
  obtain ⟨ov, vs, X, rfl, hown, hat, hX, -, hb⟩ := h
  rcases hown.2 with ⟨e, h0⟩ | ⟨g, cap, cur, e, -, -, h1, -, -⟩
  · omega
  · subst e
    exact ⟨g, cap, rfl, ⟨h1, vs, X, fun j v hv => by
      have := hown.cells (g := g) rfl j v hv
      rwa [Lib.addr_add, Nat.zero_add] at this, hat, fun k hk => (hX k hk).1⟩, hb⟩
theorem AnsAt.drop {w : World} {X : Nat → Prop} {vs : List Value} {k i : Nat} {a : HD.Ans} (h : AnsAt w X vs (k + i) a) : AnsAt w X (vs.drop (k * 6)) i a := by
  obtain ⟨fv, lv, nn, h0, h1, h2, h3, h4, h5, hf, hl⟩ := h
  have key : ∀ j v, vs[(k + i) * 6 + j]? = some v → (vs.drop (k * 6))[i * 6 + j]? = some v := fun j v hv => by
    rw [List.getElem?_drop, show k * 6 + (i * 6 + j) = (k + i) * 6 + j by omega]; exact hv
  exact ⟨fv, lv, nn, key 0 _ h0, key 1 _ h1, key 2 _ h2, key 3 _ h3, key 4 _ h4, key 5 _ h5, hf, hl⟩
theorem sum_drop (l : List Nat) : ∀ k, (l.drop k).sum ≤ l.sum := by
  induction l with
  | nil => simp
  | cons a l ih =>
    intro k
    cases k with
    | zero => simp
    | succ k => have := ih k; simp; omega
/-- One answer's cells. -/
theorem AnsMem.at {w : World} {g cap : Nat} {A : List HD.Ans} (h : AnsMem w g cap A) (i : Nat) (a : HD.Ans) (ha : A[i]? = some a) : ∃ fv lv nn, w.cell? ⟨g, i * 6, none⟩ = some fv ∧ w.cell? ⟨g, i * 6 + 1, none⟩ = some lv ∧ w.cell? ⟨g, i * 6 + 2, none⟩ = some (.int .i64 nn) ∧
    w.cell? ⟨g, i * 6 + 3, none⟩ = some (.bool a.flag) ∧ w.cell? ⟨g, i * 6 + 4, none⟩ = some (.int .i64 (HD.code a.err)) ∧ w.cell? ⟨g, i * 6 + 5, none⟩ = some (.int .i64 (HD.idx a.err)) ∧ FSl w fv a.out ∧ FSl w lv a.lst := by
  obtain ⟨h1, vs, X, h2, h3, h4⟩ := h
  obtain ⟨fv, lv, nn, k0, k1, k2, k3, k4, k5, hf, hl⟩ := h3 i a ha
  exact ⟨fv, lv, nn, h2 _ _ k0, h2 _ _ k1, h2 _ _ k2, h2 _ _ k3, h2 _ _ k4, h2 _ _ k5, FSl.of_frow hf, FSl.of_frow hl⟩

/-- A block that is read whole. -/
def wholeCmds (v : HD.Bs) : List HD.Cmd := [.write v, .close]
def st0 (size : Nat) : HD.DS := ⟨⟨[], size, size, true, true⟩, []⟩
/-- Steps of the kinds that the laws use, with few bytes. -/
def CmdFine : HD.Cmd → Prop
  | .write v => v.length ≤ 2 ^ 24
  | .close => True
  | .on _ => True
  | .isOn => True
  | .allow n => n ≤ 2 ^ 31
  | _ => False
theorem runOk_fine {B d : Nat} {M : Emitter} {aI aN aL : Addr} (hM : EmOk B M) : ∀ (cs : List HD.Cmd) (σ : HD.DS), (∀ c ∈ cs, CmdFine c) → σ.save.length + (cs.map HD.Cmd.len).sum ≤ 2 ^ 26 → RunOk B d M aI aN aL σ cs
  | [], _, _, _ => trivial
  | c :: cs, σ, hf, hs => by
    have hl := HD.dstep_len σ c
    simp only [List.map_cons, List.sum_cons] at hs
    refine ⟨?_, runOk_fine hM cs _ (fun c' hc' => hf c' (List.mem_cons_of_mem _ hc')) (by omega)⟩
    have hc := hf c List.mem_cons_self
    cases c with
    | write v => exact cmdOk_write (stepsAll hM) (by show (σ.save ++ v).length ≤ _; rw [List.length_append]; simp only [HD.Cmd.len, HD.Cmd.bytes] at hs; omega)
    | close => exact cmdOk_close
    | full v => exact hc.elim
    | on b => exact cmdOk_on
    | resize n => exact hc.elim
    | allow n => exact cmdOk_allow hc
    | isOn => exact cmdOk_isOn

/-- impl.Decode, of steps of these kinds. -/
theorem decode_steps (w : World) (size : Nat) (aI aN aL : Addr) (gs os cap : Nat) (cs : List HD.Cmd) (bs : List Value) (hs : size ≤ 2 ^ 31) (hE : Env w.heap.size w aI aN aL) (hm : StepsMem w gs os cs bs) (hcap : cap ≤ maxLen) (hn : cs.length ≤ cap) (hn40 : cs.length ≤ 2 ^ 22) (hpos : 0 < cs.length)
    (hf : ∀ c ∈ cs, CmdFine c) (hT : (cs.map HD.Cmd.len).sum ≤ 2 ^ 26) :
    Calls Tryd.prog 9 #[.int .i64 (size : Nat), .slice (some ⟨gs, os, none⟩) cs.length cap] w fun e w' => ∃ g c, e = .returned (.slice (some ⟨g, 0, none⟩) cs.length c) ∧ AnsMem w' g c (HD.drun (st0 size) cs) ∧ Below w.heap.size w w' := by
  refine (run_any w size aI aN aL gs os cap cs bs hs hE hm hcap hn (by omega) (runOk_fine (emOk_impl _ _ (Nat.le_refl _)) cs _ hf (by simpa using hT)) (by unfold lens; omega)).mono ?_
  intro e w' h
  obtain ⟨g, c, rfl, h1, h2⟩ := ans_of_run h (by rw [HD.drun_len]; exact hpos)
  rw [HD.drun_len]
  exact ⟨g, c, rfl, h1, h2⟩
theorem drun_sum0 (size : Nat) (cs : List HD.Cmd) (hT : (cs.map HD.Cmd.len).sum ≤ 2 ^ 26) : ((HD.drun (st0 size) cs).map fun a => a.out.length).sum ≤ 2 ^ 40 := by
  have := HD.drun_sum cs (st0 size)
  have h0 : (st0 size).save.length = 0 := rfl
  omega
/-- The steps that laws.whole lays. -/
theorem whole_steps (w : World) (v : HD.Bs) (sa : Option Addr) (cap : Nat) (h : CmdV w (.write v) (.slice sa v.length cap)) :
    StepsMem (w.alloc (.cells #[.int .i64 0, .slice sa v.length cap, .int .i64 0, .bool false, .int .i64 1, .slice none 0 0, .int .i64 0, .bool false] 38)) w.heap.size 0 (wholeCmds v) [.slice sa v.length cap, .slice none 0 0] := by
  refine steps_of_cells rfl (fun j u hu => ?_) ?_
  · have := news_of_new w (stepCells (wholeCmds v) [.slice sa v.length cap, .slice none 0 0]) 38 j u hu
    rwa [Lib.addr_add] at this
  · intro i h1 h2
    match i, h1, h2 with
    | 0, _, _ => exact h.of_below ((Below.refl _ _).alloc (Nat.le_refl _) _)
    | 1, _, _ => exact CmdV.plain rfl (by show 0 < _; decide)
theorem CmdV.write_src {w : World} {v : HD.Bs} {sa : Option Addr} {cap : Nat} (hl : v.length < 2 ^ 40) (h : SrcAny sa cap v w) : CmdV w (.write v) (.slice sa v.length cap) := by
  refine ⟨hl, by simp [sizeOfC], ?_⟩
  rcases h with ⟨rfl, rfl, rfl⟩ | ⟨a, rfl, hb⟩
  · exact Or.inl ⟨rfl, rfl⟩
  · exact Or.inr ⟨a, cap, rfl, hb, rfl⟩
/-- A row of cells that was just laid. -/
theorem own_new {w : World} (cs : Array Value) (t : TypeId) (s n : Nat) (hs : cs.size = n * s) (hn : n ≤ maxLen) : (w.alloc (.cells cs t)).ownsRow w.heap.size t s (.slice (some ⟨w.heap.size, 0, none⟩) n n) n cs.toList := by
  refine ⟨by simpa using hs, Or.inr ⟨w.heap.size, n, cs, rfl, Nat.le_refl _, heap_alloc_new w _, Nat.le_refl _, hn, hs, ?_⟩⟩
  rw [List.take_of_length_le (by simp [hs])]
theorem own_some {w : World} {B e size n : Nat} {v : Value} {xs : List Value} (h : w.ownsRow B e size v n xs) (hn : 0 < n) : ∃ g cap, v = .slice (some ⟨g, 0, none⟩) n cap ∧ n ≤ cap ∧ cap ≤ maxLen ∧ B ≤ g ∧ g < w.heap.size := by
  rcases h.2 with ⟨-, h0⟩ | ⟨g, cap, cur, e, h1, h2, h3, h4, -⟩
  · omega
  · exact ⟨g, cap, e, h3, h4, h1, (Array.getElem?_eq_some_iff.1 h2).1⟩
theorem decode_whole (w : World) (size : Nat) (aI aN aL : Addr) (gs : Nat) (v : HD.Bs) (bs : List Value) (hs : size ≤ 2 ^ 31) (hE : Env w.heap.size w aI aN aL) (hm : StepsMem w gs 0 (wholeCmds v) bs) (hv : v.length ≤ 2 ^ 24) :
    Calls Tryd.prog 9 #[.int .i64 (size : Nat), .slice (some ⟨gs, 0, none⟩) 2 2] w fun e w' => ∃ g c, e = .returned (.slice (some ⟨g, 0, none⟩) 2 c) ∧ AnsMem w' g c (HD.drun (st0 size) (wholeCmds v)) ∧ Below w.heap.size w w' := by
  have h := decode_steps w size aI aN aL gs 0 2 (wholeCmds v) bs hs hE hm (by decide) (by show 2 ≤ 2; decide) (by show 2 ≤ 2 ^ 22; decide) (by show 0 < 2; decide) (fun c hc => by
    simp only [wholeCmds, List.mem_cons, List.not_mem_nil, or_false] at hc
    rcases hc with rfl | rfl
    · exact hv
    · trivial) (by show v.length + (0 + 0) ≤ _; omega)
  exact h
theorem infoDS' : (Tryd.prog.info? 38).map (fun i => (i.zero, i.size, i.bytes)) = some (some (.agg #[.int .i64 0, .slice none 0 0, .int .i64 0, .bool false]), 4, 48) := by kernel_rfl
theorem byteCells_append (a b : HD.Bs) : Lib.byteCells (a ++ b) = Lib.byteCells a ++ Lib.byteCells b := by simp [Lib.byteCells]
end Go.Proofs.YtjdmaflkafmmpaaDoor
