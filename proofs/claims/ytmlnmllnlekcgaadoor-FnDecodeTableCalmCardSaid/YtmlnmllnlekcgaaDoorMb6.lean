/-
  Texts of this seat, one behind the other: Write, HD4, DStep, Emit, Run, HD5, HD6. What each one shows stands at its head. No condition.
-/
import Derived.Test.YtmlnmllnlekcgaaDoorMb5
import Derived.Stop.Asserts
import Derived.LaidEql
/-
  The contract of Write, over a contract for one representation.
-/
namespace Go.Proofs.YtmlnmllnlekcgaaDoor
open Go.ChangeShapes Go.WideShapes Go.ChangeAt Go.RowKit

def ErrO (n : Nat) (w' : World) (aI : Addr) : Option HD.Er → Value → Prop
  | none, x => x = .nilIface
  | some er, x => ErrV n w' aI er x

/-- How a call of Write ends. -/
def WEnds (B : Nat) (w : World) (d : Nat) (M : Emitter) (l : List HD.Fld) (p : DP) (aI : Addr) (n N : Nat) (r : HD.WR) (e : Ending) (w' : World) : Prop :=
  (∃ x, e = .returned (.tuple #[.int .i64 (n : Nat), x]) ∧ ErrO w.heap.size w' aI r.err x) ∧
  ∃ p', Live B w' d M r.st (l ++ r.out) p' ∧ Save B w' d p'.f r.save ∧ (∀ k, p'.own d k → p.own d k ∨ w.heap.size ≤ k) ∧ Kept B (p.own d) w w' ∧ p'.cnt + r.st.ents.length + r.save.length ≤ N

/-- What is asked of one representation. -/
def StepOk (B d : Nat) (M : Emitter) (aI aN aL : Addr) (s : HD.St) (v : HD.Bs) : Prop :=
  ∀ (w : World) (p : DP) (l : List HD.Fld) (g o cap : Nat), Live B w d M s l p → EnvO B w aI aN aL → Buf w g o cap v → IsU8 w g → p.f 11 = .slice (some ⟨g, o, none⟩) v.length cap → p.cnt + s.ents.length + 1 < 2 ^ 62 → l.length + v.length ≤ 2 ^ 40 →
    Calls Tryd.prog 46 #[.pointer (some ⟨d, 0, none⟩)] w (REnds B w d g M s l p aI aN (HD.pRepr s v))
/-- What is asked of all representations that come behind one another. -/
structure Steps (B d : Nat) (M : Emitter) (aI aN aL : Addr) (G : HD.St → HD.Bs → Prop) : Prop where
  ok : ∀ s v, G s v → v ≠ [] → StepOk B d M aI aN aL s v
  next : ∀ s v ents max o rest, G s v → HD.pRepr s v = .ok ents max o rest → G { s with ents := ents, max := max, first := false } rest
  bad : ∀ s v e, G s v → HD.pRepr s v = .bad e → aL ≠ aN ∨ ∃ i, e = .index i
theorem Steps.wr {B d : Nat} {M : Emitter} {aI aN aL : Addr} {G : HD.St → HD.Bs → Prop} (hS : Steps B d M aI aN aL G) : ∀ (n : Nat) (s : HD.St) (out : List HD.Fld) (v : HD.Bs), G s v → ErKnown aN aL (HD.wr n s out v).err
  | 0, s, out, v, _ => Or.inr fun e h => by simp [HD.wr] at h
  | n + 1, s, out, [], _ => Or.inr fun e h => by simp [HD.wr] at h
  | n + 1, s, out, b :: v, hG => by
    rw [HD.wr]
    cases hr : HD.pRepr s (b :: v) with
    | more => exact Or.inr fun e h => by cases h
    | bad e =>
      refine (hS.bad s _ e hG hr).imp id fun hi e' h => ?_
      have h : some e = some e' := h
      injection h with h
      rw [← h]; exact hi
    | ok ents max o rest => exact hS.wr n _ _ _ (hS.next s _ ents max o rest hG hr)
theorem Steps.write {B d : Nat} {M : Emitter} {aI aN aL : Addr} {G : HD.St → HD.Bs → Prop} (hS : Steps B d M aI aN aL G) (s : HD.St) (save v : HD.Bs) (hG : G s (save ++ v)) : ErKnown aN aL (HD.write s save v).err := by
  unfold HD.write
  split
  · exact Or.inr fun e h => by cases h
  · exact hS.wr _ _ _ _ hG

theorem Save.kept {B : Nat} {w w' : World} {d : Nat} {f f' : Nat → Value} {cs : List UInt8} (h : Save B w d f cs) (h12 : f' 12 = f 12) (h13 : f' 13 = f 13) (h14 : f' 14 = f 14) (hk : ∀ g, (f 12).ownBlock = some g → w'.heap[g]? = w.heap[g]?) : Save B w' d f' cs :=
  ⟨by rw [h12]; exact ownsRow_of_heap h.own hk, by rw [h12]; exact h.ne, h13.trans h.off, by rw [h14]; exact h.last⟩
theorem Save.u8 {B : Nat} {w : World} {d : Nat} {f : Nat → Value} {cs : List UInt8} (h : Save B w d f cs) {g : Nat} (hg : (f 12).ownBlock = some g) : IsU8 w g := by
  obtain ⟨c, fz, hk⟩ := Lib.ownsRow_kind h.own g hg
  exact ⟨c, fz, hk⟩
theorem Save.drewN {B : Nat} {w : World} {d : Nat} {f : Nat → Value} {cs : List UInt8} (h : Save B w d f cs) (n : Nat) : Save B (w.drewN n) d f cs := h.kept rfl rfl rfl fun _ _ => rfl
theorem ErrV.move {n m : Nat} {w1 w2 : World} {aI : Addr} {er : HD.Er} {x : Value} (h : ErrV n w1 aI er x) (hm : m ≤ n) (hk : ∀ k, n ≤ k → k < w1.heap.size → w2.heap[k]? = w1.heap[k]?) : ErrV m w2 aI er x := by
  cases er with
  | huff => exact h
  | coding =>
    obtain ⟨a, e, hf⟩ := h
    have hlt : a.block < w1.heap.size := by
      obtain ⟨-, ca, ta, hc⟩ := hf
      exact (Array.getElem?_eq_some_iff.1 hc).1
    exact ⟨a, e, (hf.mono hm).of_heap (hk _ hf.1 hlt)⟩
  | index i => exact h
theorem eql_type (x y : Value) (w : World) : (binOp .eql 80 (.iface 100 x) (.iface 111 y)).run Tryd.prog w = .ok (.bool false) w :=
  run_eql_iface_types _ _ _ _ Tryd.underlying80 (by decide) w
theorem eql_nil (y : Value) (w : World) : (binOp .eql 80 .nilIface (.iface 111 y)).run Tryd.prog w = .ok (.bool false) w :=
  run_eql_iface_nil_left w _ y Tryd.underlying80

theorem keep_others {w w' : World} {d k : Nat} (hk : Lib.OthersKept 5 (some d) w w') (hlt : k < w.heap.size) (hne : k ≠ d) (hu : ¬ IsU8 w k) : w'.heap[k]? = w.heap[k]? := by
  obtain ⟨o, ho⟩ : ∃ o, w.heap[k]? = some o := ⟨_, Array.getElem?_eq_getElem hlt⟩
  rw [ho]
  exact hk k o ho (fun e => hne (Option.some.inj e)) (fun c fz e => hu ⟨c, fz, by rw [ho, e]⟩)
theorem Buf.of_own {w : World} {B g n cap : Nat} {cs : List UInt8} (h : w.ownsRow B 5 1 (.slice (some ⟨g, 0, none⟩) n cap) n (Lib.byteCells cs)) (hn : cs.length = n) : Buf w g 0 cap cs ∧ IsU8 w g := by
  rcases h.2 with ⟨e, -⟩ | ⟨g', cap', cur, e, hB, hg, h1, h2, h3, h4⟩
  · cases e
  · injection e with e1 e2 e3
    injection e1 with e1
    injection e1 with e1
    subst e1; subst e3
    refine ⟨⟨by omega, h2, fun i hi => ?_⟩, cur, _, hg⟩
    rw [Nat.zero_add, Lib.cell_of_heap hg, ← Array.getElem?_toList]
    have h5 : (cur.toList.take (n * 1))[i]? = (Lib.byteCells cs)[i]? := by rw [h4]
    rw [List.getElem?_take, if_pos (by omega)] at h5
    rw [h5]
    simp [Lib.byteCells, hi]
theorem own_reset {w : World} {B g n cap : Nat} {xs : List Value} (h : w.ownsRow B 5 1 (.slice (some ⟨g, 0, none⟩) n cap) n xs) : w.ownsRow B 5 1 (.slice (some ⟨g, 0, none⟩) 0 cap) 0 [] := by
  rcases h.2 with ⟨e, -⟩ | ⟨g', cap', cur, e, hB, hg, h1, h2, h3, h4⟩
  · cases e
  · injection e with e1 e2 e3
    injection e1 with e1
    injection e1 with e1
    subst e1; subst e3
    exact ⟨rfl, Or.inr ⟨g, cap, cur, rfl, hB, hg, Nat.zero_le _, h2, h3, by simp⟩⟩

/-- What stands in memory when the loop of Write comes round. -/
structure WInv (B : Nat) (w wr : World) (d : Nat) (M : Emitter) (l : List HD.Fld) (p : DP) (G : HD.St → HD.Bs → Prop) (N : Nat) (R : HD.WR) (s1 : HD.St) (out : List HD.Fld) (u : HD.Bs) (p1 : DP) (g o cap k : Nat) : Prop where
  live : Live B wr d M s1 (l ++ out) p1
  save : Save B wr d p1.f []
  res : HD.wr k s1 out u = R
  fuel : u.length ≤ k
  good : G s1 u
  sl : p1.f 11 = .slice (some ⟨g, o, none⟩) u.length cap
  buf : Buf wr g o cap u
  kind : IsU8 wr g
  own : ∀ k, p1.own d k → p.own d k ∨ w.heap.size ≤ k
  kept : Kept B (p.own d) w wr
  num : p1.cnt + s1.ents.length + u.length ≤ N
  tot : (l ++ out).length + u.length ≤ 2 ^ 40

def cellLen (w : World) (d : Nat) : Nat := match w.cell? ⟨d, 11, none⟩ with
  | some v => lenOf v
  | none => 0
theorem cellLen_eq {w : World} {d n cap : Nat} {a : Option Addr} (h : w.cell? ⟨d, 11, none⟩ = some (.slice a n cap)) : cellLen w d = n := by simp [cellLen, h, lenOf]

set_option maxHeartbeats 4000000 in
set_option maxRecDepth 100000 in
theorem write_any (B : Nat) (w : World) (d : Nat) (M : Emitter) (s : HD.St) (l : List HD.Fld) (p : DP) (aI aN aL : Addr) (G : HD.St → HD.Bs → Prop) (hS : Steps B d M aI aN aL G) (save v : HD.Bs) (sa : Option Addr) (cap N : Nat)
    (hL : Live B w d M s l p) (hE : EnvO B w aI aN aL) (hV : Save B w d p.f save) (hG : G s (save ++ v))
    (hsrc : v = [] ∨ ∃ g o, sa = some ⟨g, o, none⟩ ∧ Buf w g o cap v ∧ IsU8 w g) (hN : p.cnt + s.ents.length + save.length + v.length ≤ N) (hN2 : N < 2 ^ 46) (hT : l.length + (save ++ v).length ≤ 2 ^ 40) :
    Calls Tryd.prog 28 #[.pointer (some ⟨d, 0, none⟩), .slice sa v.length cap] w (WEnds B w d M l p aI v.length N (HD.write s save v)) := by
  obtain ⟨c12, a12, h12⟩ : ∃ (c : Nat) (a : Option Addr), p.f 12 = .slice a save.length c := by
    obtain ⟨a, c, h⟩ := own_form hV.own
    exact ⟨c, a, h⟩
  have e12 := hL.row.cell' (i := 12) (by decide) h12
  have e13 := hL.row.cell' (i := 13) (by decide) hV.off
  by_cases hv : v = []
  · subst hv
    have HL := Lib.hid hL
    have HV := Lib.hid hV
    have HN := Lib.hid hN
    clear hL hV hsrc hN hG hE hT
    go_enter Tryd.func28, Tryd.ntmps28
    go_wp2_with fail
    go_ret2
    refine ⟨⟨_, rfl, rfl⟩, p, ?_, HV.out, fun k hk => Or.inl hk, Kept.refl _ _ _, HN.out⟩
    show Live B _ d M s (l ++ []) p
    rw [List.append_nil]
    exact HL.out
  · obtain ⟨g, o, rfl, hb, hu⟩ := hsrc.resolve_left hv
    have hpos : 0 < v.length := List.length_pos_iff.2 hv
    have hfit := hb.fit
    have hmost := hb.most
    unfold maxLen at hmost
    have hlen0 : decide ((v.length : Int) = 0) = false := by simp; omega
    have hR : HD.write s save v = HD.wr (save ++ v).length s [] (save ++ v) := by rw [HD.write, if_neg hv]
    obtain ⟨R, hRR⟩ : ∃ R, R = HD.write s save v := ⟨_, rfl⟩
    rw [← hRR] at hR ⊢
    have HL := Lib.hid hL
    have HE := Lib.hid hE
    have HV := Lib.hid hV
    have HG := Lib.hid hG
    have HB := Lib.hid hb
    have HU := Lib.hid hu
    have HR := Lib.hid hR
    have HN := Lib.hid hN
    have HS := Lib.hid hS
    have HTt := Lib.hid hT
    have H12 := Lib.hid h12
    have hd : d < w.heap.size := hL.lt
    have hlo := hL.lo
    have c11 := hL.row.cell (i := 11) (by decide)
    have fz := fun i => hL.row.unfrozen i none
    clear hL hE hV hG hb hu hR hRR hN hS h12 hsrc hT
    go_enter Tryd.func28, Tryd.ntmps28
    go_wp2_with fail
    refine (saveLen_any d save.length c12 a12 _ (by exact e12) (by exact e13) (by have := HN.out; unfold maxLen; omega)).mono ?_
    rintro e w1 ⟨rfl, n1, rfl⟩
    clear e12 e13
    rcases Classical.em (save = []) with hs0 | hs0
    case' inl =>
      subst hs0
      go_wp2_with fail
      have hI : WInv B w ((w.drewN n1).setCell ⟨d, 11, none⟩ (.slice (some ⟨g, o, none⟩) v.length cap)) d M l p G N R s [] v { p with f := putF p.f 11 (.slice (some ⟨g, o, none⟩) v.length cap) } g o cap v.length := by
        have hgd : d ≠ g := fun e => HL.out.kind HU.out (e ▸ Or.inl (Or.inl rfl))
        have hl0 : Live B (w.drewN n1) d M s l p := HL.out.frame fun _ _ => rfl
        have hl1 : Live B ((w.drewN n1).setCell ⟨d, 11, none⟩ (.slice (some ⟨g, o, none⟩) v.length cap)) d M s l { p with f := putF p.f 11 (.slice (some ⟨g, o, none⟩) v.length cap) } :=
          hl0.put (b := s.first) (hl0.row.set 11 _) (fun i hi => by simp only [putF]; rw [if_neg (by omega)]) (by simp [putF, HL.out.mem.first]) (fun k hk _ => other_set (Ne.symm hk))
        refine ⟨?_, HV.out.kept rfl rfl rfl (fun q hq => other_set (fun e => HL.out.kind (HV.out.u8 hq) (e ▸ Or.inl (Or.inl rfl)))), HR.out.symm, Nat.le_refl _, HG.out, by simp [putF], HB.out.kept fun _ => other_set hgd, HU.out.of_heap (other_set hgd), fun k hk => Or.inl hk, ?_, ?_, by have := HTt.out; simpa using this⟩
        · rw [List.append_nil]; exact hl1
        · exact Kept.of_upd (((Upd.refl _ w).drewN n1).setCell (a := ⟨d, 11, none⟩) (Or.inl (Or.inl (Or.inl rfl))) _) hlo (fun k hk => HL.out.ge hk)
        · have := HN.out; simp at this; exact this
      generalize ((w.drewN n1).setCell ⟨d, 11, none⟩ (.slice (some ⟨g, o, none⟩) v.length cap)) = wq at hI ⊢
      have HI : Hid (∃ u p1 g o cap k, WInv B w wq d M l p G N R s [] u p1 g o cap k) := Lib.hid ⟨_, _, _, _, _, _, hI⟩
      clear hI c11 fz
    case' inr =>
      have hsl : 0 < save.length := List.length_pos_iff.2 hs0
      have hsN : save.length + v.length < 2 ^ 46 := by have := HN.out; omega
      have hsl0 : decide ((save.length : Int) = 0) = false := by simp; omega
      go_wp2_with fail
      have hgd : d ≠ g := fun e => HL.out.kind HU.out (e ▸ Or.inl (Or.inl rfl))
      refine (saveWrite_any B d v.length cap ⟨g, o, none⟩ p.f save v _ (by exact HL.out.row) (HV.out.drewN n1) HL.out.mem.tab.lo.1 (by exact hlo) rfl (Ne.symm hgd) (fun j x hj => ?_) (by omega)).mono ?_
      · have hj' : j < v.length := by
          have := (List.getElem?_eq_some_iff.1 hj).1
          rwa [byteCells_len] at this
        rw [Lib.addr_add]
        refine (HB.out.cell j hj').trans ?_
        rw [← hj]; simp [Lib.byteCells, hj']
      rintro e w1 ⟨rfl, f1, hr1, hs1, hf1, hb1, hk1⟩
      obtain ⟨nn, hnn⟩ : ∃ nn, (save ++ v).length = nn := ⟨_, rfl⟩
      have hn0 : 0 < nn := by rw [← hnn, List.length_append]; omega
      have hnb : nn < 2 ^ 46 := by rw [← hnn, List.length_append]; exact hsN
      have hown := hs1.own
      rw [hnn] at hown
      obtain ⟨gs, cs, h12'⟩ : ∃ g cap, f1 12 = .slice (some ⟨g, 0, none⟩) nn cap := by
        rcases hown.2 with ⟨-, h0⟩ | ⟨g, cap, cur, e, -⟩
        · omega
        · exact ⟨g, cap, e⟩
      rw [h12'] at hown
      obtain ⟨hbs, hgs⟩ := Buf.of_own hown hnn
      have hfit2 : nn ≤ cs := hnn ▸ hbs.fit
      obtain ⟨lr, h14'⟩ := hs1.last
      have q12 := hr1.cell' (i := 12) (by decide) h12'
      have q13 := hr1.cell' (i := 13) (by decide) hs1.off
      have q11 := hr1.cell (i := 11) (by decide)
      have fz1 := fun i => hr1.unfrozen i none
      have hne2 : gs ≠ d := fun e => hs1.ne (by rw [h12', e]; rfl)
      have HK1 := Lib.hid hk1
      have HB1 := Lib.hid hb1
      have HR1 := Lib.hid hr1
      have HS1 := Lib.hid hs1
      have HF1 := Lib.hid hf1
      have HO := Lib.hid hown
      have HBS := Lib.hid hbs
      have HGS := Lib.hid hgs
      have HNN := Lib.hid hnn
      have H12' := Lib.hid h12'
      clear hk1 hb1 hr1 hs1 hf1 hown hbs hgs hnn h12' c11 fz
      go_wp2_with fail
      refine (saveBytes_any d nn cs (some ⟨gs, 0, none⟩) _ (by exact q12) (by exact q13) hfit2 HBS.out.most).mono ?_
      rintro e w2 ⟨rfl, n2, rfl⟩
      go_wp2_with fail
      have hr2 : Row ((w1.drewN n2).setCell ⟨d, 11, none⟩ (.slice (some ⟨gs, 0, none⟩) nn cs)) d 16 (putF f1 11 (.slice (some ⟨gs, 0, none⟩) nn cs)) := (HR1.out.of_heap (w' := w1.drewN n2) rfl).set 11 _
      refine (saveReset_any d nn cs (some ⟨gs, 0, none⟩) _ _ (by exact hr2) (by simp [putF, H12'.out]) (by simp [putF, HS1.out.off]) lr (by simp [putF, h14'])).mono ?_
      rintro e w3 ⟨rfl, hr3, hu3⟩
      have hI : WInv B w w3 d M l p G N R s [] (save ++ v) { p with f := putF (putF (putF f1 11 (.slice (some ⟨gs, 0, none⟩) nn cs)) 12 (.slice (some ⟨gs, 0, none⟩) 0 cs)) 14 (.int .i8 0) } gs 0 cs (save ++ v).length := by
        have hk : ∀ k, k ≠ d → k < w1.heap.size → w3.heap[k]? = w1.heap[k]? := fun k hk hlt =>
          (hu3.block k (by simpa using hlt) hk).trans (other_set (w := w1.drewN n2) (Ne.symm hk))
        have hk2 : ∀ k, k < w.heap.size → k ≠ d → ¬ IsU8 w k → w3.heap[k]? = w.heap[k]? := fun k hlt hne hu =>
          (hk k hne (Nat.lt_of_lt_of_le hlt HB1.out.size)).trans (keep_others HK1.out hlt hne hu)
        have hgl := HGS.out.lt
        refine ⟨?_, ⟨?_, ?_, ?_, 0, ?_⟩, HR.out.symm, Nat.le_refl _, HG.out, ?_, ?_, HGS.out.of_heap (hk gs hne2 hgl), fun k hk => Or.inl hk, ⟨?_, fun k hlt hn hu => hk2 k hlt (fun e => hn (e ▸ Or.inl (Or.inl rfl))) hu⟩, ?_, by have := HTt.out; simpa using this⟩
        · rw [List.append_nil]
          refine HL.out.put (b := s.first) hr3 (fun i hi => ?_) ?_ (fun k hne ho => hk2 k (HL.out.own_lt ho) hne fun hu => HL.out.kind hu ho)
          · simp only [putF]; rw [if_neg (by omega), if_neg (by omega), if_neg (by omega)]; exact HF1.out i (Or.inl (by omega))
          · simp [putF]; rw [HF1.out 15 (Or.inr rfl)]; exact HL.out.mem.first
        · have : (putF (putF (putF f1 11 (.slice (some ⟨gs, 0, none⟩) nn cs)) 12 (.slice (some ⟨gs, 0, none⟩) 0 cs)) 14 (.int .i8 0)) 12 = .slice (some ⟨gs, 0, none⟩) 0 cs := by simp [putF]
          dsimp only [List.length_nil]
          rw [this]
          exact ownsRow_of_heap (own_reset HO.out) fun q hq => by injection hq with hq; subst hq; exact hk gs hne2 hgl
        · simp [putF, Value.ownBlock, hne2]
        · simp [putF, HS1.out.off]
        · simp [putF]
        · simp [putF, HNN.out]
        · exact HBS.out.kept fun _ => hk gs hne2 hgl
        · have hw0 : Below B w (w.drewN n1) := ⟨rfl, rfl, rfl, Nat.le_refl _, fun _ _ => rfl⟩
          exact ((hw0.trans HB1.out).trans ⟨hu3.os, hu3.tape, hu3.output, by have := hu3.size; simpa using this, fun k hk' => by
            have hdB : B ≤ d := HL.out.mem.tab.lo.1
            exact hk k (by omega) (by have := HB1.out.size; have : w.heap.size ≤ w1.heap.size := this; omega)⟩)
        · have := HN.out; rw [List.length_append]; exact (by omega : p.cnt + s.ents.length + (save.length + v.length) ≤ N)
      have HI : Hid (∃ u p1 g o cap k, WInv B w w3 d M l p G N R s [] u p1 g o cap k) := Lib.hid ⟨_, _, _, _, _, _, hI⟩
      clear hI hr3 hu3 q11 q12 q13 fz1 hr2
      go_wp2_with fail
    all_goals
      obtain ⟨u0, p0, g0, o0, cap0, k0, hI0⟩ := HI.out
      have HI0 := Lib.hid hI0
      clear HI hI0
      go_loopw [5] (fun e5 wr => ∃ (s1 : HD.St) (out : List HD.Fld) (u : HD.Bs) (p1 : DP) (g o cap k : Nat), e5 = .nilIface ∧ WInv B w wr d M l p G N R s1 out u p1 g o cap k) (fun _ wr => cellLen wr d)
      case atStart => exact ⟨s, [], u0, p0, g0, o0, cap0, k0, rfl, HI0.out⟩
      case round =>
        obtain ⟨s1, out, u, p1, g1, o1, cap1, k1, rfl, hI1⟩ := hrel
        have HI1 := Lib.hid hI1
        have k11 := hI1.live.row.cell' (i := 11) (by decide) hI1.sl
        have k15 := hI1.live.row.cell' (i := 15) (by decide) hI1.live.mem.first
        have k10 := hI1.live.row.cell' (i := 10) (by decide) hI1.live.mem.most
        have kfz := fun i => hI1.live.row.unfrozen i none
        have kE := HE.out.below hI1.kept.below
        clear hI1
        cases u with
        | nil =>
          go_wp2_with fail
          go_ret2
          have hR2 : R = ⟨s1, out, [], none⟩ := by rw [← HI1.out.res]; cases k1 <;> rfl
          rw [hR2]
          exact ⟨⟨_, rfl, rfl⟩, p1, HI1.out.live, HI1.out.save, HI1.out.own, HI1.out.kept, HI1.out.num⟩
        | cons b u =>
          obtain ⟨nu, hnu⟩ : ∃ nu, (b :: u).length = nu := ⟨_, rfl⟩
          have hnu0 : decide (0 < nu) = true := by rw [← hnu]; simp
          rw [hnu] at k11
          have Hnu := Lib.hid hnu
          clear hnu
          obtain ⟨k2, rfl⟩ : ∃ k2, k1 = k2 + 1 := ⟨k1 - 1, by have := HI1.out.fuel; simp at this; omega⟩
          have Hres : Hid (R = match HD.pRepr s1 (b :: u) with
            | .more => ⟨s1, out, b :: u, none⟩
            | .bad e => ⟨{ s1 with first := false }, out, [], some e⟩
            | .ok ents max o rest => HD.wr k2 { s1 with ents := ents, max := max, first := false } (out ++ o.toList) rest) := Lib.hid HI1.out.res.symm
          go_wp2_with fail
          refine (HS.out.ok s1 (b :: u) HI1.out.good (by simp) wr p1 (l ++ out) g1 o1 cap1 HI1.out.live kE HI1.out.buf HI1.out.kind HI1.out.sl (by have := HI1.out.num; simp at this; omega) HI1.out.tot).mono ?_
          intro e w4 hq
          clear k11 k15 k10 kfz
          cases hr : HD.pRepr s1 (b :: u) with
          | more =>
            rw [hr] at hq Hres
            obtain ⟨rfl, hb4⟩ := hq
            have hL4 := HI1.out.live.below hb4
            have hE4 := kE.below (hb4.mono HI1.out.live.lo)
            have k11 := hL4.row.cell' (i := 11) (by decide) HI1.out.sl
            have k10 := hL4.row.cell' (i := 10) (by decide) hL4.mem.most
            have kN := hE4.eN
            have heq := eql_same aN
            rw [Hnu.out] at k11
            have HL4 := Lib.hid hL4
            have Hb4 := Lib.hid hb4
            clear hL4 hE4 hb4 hr
            go_wp2_with fail
            go_quiet (fail)
            go_wp2_with fail
            refine stillTail 7 (by kernel_rfl) (by kernel_rfl) ?_
            simp only [List.take_succ_cons, List.take_zero, List.drop_succ_cons, List.drop_zero]
            repeat (refine wpStill_step (fun K hK => ?_); go_simp; (refine hK _ ?_; clear hK K))
            refine wpStill_nil ?_
            go_wp2_with fail
            have hgd : d ≠ g1 := fun e => HI1.out.live.kind HI1.out.kind (e ▸ Or.inl (Or.inl rfl))
            have hs4 : Save B w4 d p1.f [] := HI1.out.save.kept rfl rfl rfl (fun q hq => Hb4.out.block q (HI1.out.save.u8 hq).lt)
            refine (saveWrite_any B d nu cap1 ⟨g1, o1, none⟩ p1.f [] (b :: u) _ (by exact HL4.out.row) (by exact hs4.drewN _) HL4.out.mem.tab.lo.1 (by exact HL4.out.lo) Hnu.out (Ne.symm hgd) (fun j x hj => ?_) (by have := HI1.out.num; rw [Hnu.out] at this; simp; omega)).mono ?_
            · have hj' : j < (b :: u).length := by
                have := (List.getElem?_eq_some_iff.1 hj).1
                rwa [byteCells_len] at this
              rw [Lib.addr_add]
              refine ((HI1.out.buf.below Hb4.out).cell j hj').trans ?_
              rw [← hj, Lib.byteCells, List.getElem?_map, List.getElem?_eq_getElem hj']; rfl
            rintro e w5 ⟨rfl, f5, hr5, hs5, hf5, hb5, hk5⟩
            have Hr5 := Lib.hid hr5
            have Hs5 := Lib.hid hs5
            have Hf5 := Lib.hid hf5
            have Hb5 := Lib.hid hb5
            have Hk5 := Lib.hid hk5
            clear hs4 hr5 hs5 hf5 hb5 hk5
            go_wp2_with fail
            go_ret2
            rw [Hres.out]
            have hl : Live B w5 d M { s1 with first := s1.first } (l ++ out) { p1 with f := f5 } := HL4.out.put Hr5.out (fun i hi => Hf5.out i (Or.inl (by omega))) (by rw [Hf5.out 15 (Or.inr rfl)]; exact HL4.out.mem.first)
              (fun k hne ho => by exact keep_others Hk5.out (HL4.out.own_lt ho) hne fun hu => HL4.out.kind hu ho)
            have hk4 : Kept B (p.own d) w w4 := HI1.out.kept.step (Kept.of_below Hb4.out HI1.out.live.lo)
            refine ⟨⟨_, rfl, rfl⟩, { p1 with f := f5 }, hl, Hs5.out, HI1.out.own, hk4.step ⟨⟨Hb5.out.os, Hb5.out.tape, Hb5.out.output, Hb5.out.size, Hb5.out.block⟩, fun k hlt hn hu => by exact keep_others Hk5.out hlt (fun e => hn (e ▸ Or.inl (Or.inl rfl))) hu⟩, HI1.out.num⟩
          | bad er =>
            rw [hr] at hq Hres
            obtain ⟨⟨x, rfl, hx⟩, hb4⟩ := hq
            have hL4 := HI1.out.live.below hb4
            have hE4 := kE.below (hb4.mono HI1.out.live.lo)
            have k15 := hL4.row.cell' (i := 15) (by decide) hL4.mem.first
            have kfz := fun i => hL4.row.unfrozen i none
            have kN := hE4.eN
            obtain ⟨t, y, rfl, heq⟩ : ∃ t y, x = .iface t y ∧ (binOp .eql 80 (.iface t y) (.iface 111 (.pointer (some aN)))).run Tryd.prog w4 = .ok (.bool false) w4 := by
              cases er with
              | huff =>
                obtain rfl : x = _ := hx
                have hT : aL ≠ aN := (HS.out.bad s1 (b :: u) .huff HI1.out.good hr).resolve_right (fun ⟨i, h⟩ => by cases h)
                obtain ⟨-, ca, ta, h1⟩ := hE4.fI hT
                obtain ⟨-, cb, tb, h2⟩ := hE4.fN hT
                exact ⟨_, _, rfl, eql_other aI aN (hE4.ne hT) w4 h1 h2⟩
              | coding =>
                obtain ⟨a, rfl, -⟩ := hx
                exact ⟨_, _, rfl, eql_type _ _ w4⟩
              | index i =>
                obtain rfl : x = _ := hx
                exact ⟨_, _, rfl, eql_type _ _ w4⟩
            have HL4 := Lib.hid hL4
            have Hb4 := Lib.hid hb4
            have Hx := Lib.hid hx
            clear hL4 hE4 hb4 hr hx
            go_wp2_with fail
            go_ret2
            rw [Hres.out]
            have hdl := HI1.out.live.lt
            have hsz := HI1.out.kept.below.size
            have hl : Live B (w4.setCell ⟨d, 15, none⟩ (.bool false)) d M { s1 with first := false } (l ++ out) { p1 with f := putF p1.f 15 (.bool false) } := HL4.out.put (HL4.out.row.set 15 _) (fun i hi => by simp only [putF]; rw [if_neg (by omega)]) (by simp [putF]) (fun k hne _ => other_set (Ne.symm hne))
            have hs4 : Save B w4 d p1.f [] := HI1.out.save.kept rfl rfl rfl (fun q hq => Hb4.out.block q (HI1.out.save.u8 hq).lt)
            have hk4 : Kept B (p.own d) w w4 := HI1.out.kept.step (Kept.of_below Hb4.out HI1.out.live.lo)
            have hk5 : Kept B (p.own d) w4 (w4.setCell ⟨d, 15, none⟩ (.bool false)) := Kept.of_upd ((Upd.refl (p.own d) w4).setCell (a := ⟨d, 15, none⟩) (Or.inl (Or.inl (Or.inl rfl))) _) HL4.out.lo (fun k hk => by
              have : B ≤ k := HL.out.ge hk
              exact this)
            refine ⟨⟨_, rfl, Hx.out.move hsz fun k hk hlt => other_set (by omega)⟩, { p1 with f := putF p1.f 15 (.bool false) }, hl, hs4.kept rfl rfl rfl (fun q hq => other_set (fun e => hs4.ne (by rw [hq, e]))), HI1.out.own, hk4.step hk5, ?_⟩
            have := HI1.out.num
            simp at this ⊢
            omega
          | ok ents max o rest =>
            rw [hr] at hq Hres
            obtain ⟨rfl, p2, o2, cap2, hL4, hown, hf, h11, hb4, hu4, hn4⟩ := hq
            have hE4 := kE.below (hu4.below HI1.out.live.lo (fun k hk => HI1.out.live.ge hk))
            have k15 := hL4.row.cell' (i := 15) (by decide) hL4.mem.first
            have kfz := fun i => hL4.row.unfrozen i none
            have kN := hE4.eN
            have heq := eql_nil (.pointer (some aN)) w4
            have hlen := HD.pRepr_len hr
            have hnext := HS.out.next s1 (b :: u) ents max o rest HI1.out.good hr
            have HL4 := Lib.hid hL4
            have Hown := Lib.hid hown
            have Hf := Lib.hid hf
            have H11 := Lib.hid h11
            have Hb4 := Lib.hid hb4
            have Hu4 := Lib.hid hu4
            have Hn4 := Lib.hid hn4
            have Hlen := Lib.hid hlen
            have Hnext := Lib.hid hnext
            clear hL4 hE4 hr hown hf h11 hb4 hu4 hn4 hlen hnext
            go_wp2_with fail
            have hsz := HI1.out.kept.below.size
            have hlo1 := HI1.out.live.lo
            have hk4 : Kept B (p.own d) w w4 := HI1.out.kept.trans (Kept.of_upd Hu4.out hlo1 (fun k hk => HI1.out.live.ge hk)) (fun i hi hp => (HI1.out.own i hp).resolve_right (Nat.not_le.2 hi))
            have hk5 : Kept B (p.own d) w4 (w4.setCell ⟨d, 15, none⟩ (.bool false)) := Kept.of_upd ((Upd.refl (p.own d) w4).setCell (a := ⟨d, 15, none⟩) (Or.inl (Or.inl (Or.inl rfl))) _) HL4.out.lo (fun k hk => HL.out.ge hk)
            have hl : Live B (w4.setCell ⟨d, 15, none⟩ (.bool false)) d M { s1 with ents := ents, max := max, first := false } ((l ++ out) ++ o.toList) { p2 with f := putF p2.f 15 (.bool false) } := HL4.out.put (HL4.out.row.set 15 _) (fun i hi => by simp only [putF]; rw [if_neg (by omega)]) (by simp [putF]) (fun k hne _ => other_set (Ne.symm hne))
            have hgk : ∀ k, k ≠ d → IsU8 wr k → (w4.setCell ⟨d, 15, none⟩ (.bool false)).heap[k]? = wr.heap[k]? := fun k hne hu => (other_set (Ne.symm hne)).trans (Hu4.out.block k hu.lt (HI1.out.live.kind hu))
            have hgd : g1 ≠ d := fun e => HI1.out.live.kind HI1.out.kind (e ▸ Or.inl (Or.inl rfl))
            refine ⟨⟨_, out ++ o.toList, rest, { p2 with f := putF p2.f 15 (.bool false) }, g1, o2, cap2, k2, rfl, ⟨?_, ?_, Hres.out.symm, ?_, Hnext.out, ?_, ?_, HI1.out.kind.of_heap (hgk g1 hgd HI1.out.kind), ?_, hk4.step hk5, ?_, ?_⟩⟩, ?_⟩
            · rw [← List.append_assoc]; exact hl
            · exact HI1.out.save.kept (by simp [putF, Hf.out]) (by simp [putF, Hf.out]) (by simp [putF, Hf.out]) (fun q hq => hgk q (fun e => HI1.out.save.ne (by rw [hq, e])) (HI1.out.save.u8 hq))
            · have h1 := HI1.out.fuel
              have h2 := Hlen.out
              simp at h1 h2
              omega
            · simp [putF, H11.out]
            · exact Hb4.out.kept fun _ => other_set (Ne.symm hgd)
            · exact fun k hk => (Hown.out k hk).elim (HI1.out.own k) (fun h => Or.inr (Nat.le_trans hsz h))
            · have h1 := HI1.out.num
              have h2 := Hn4.out
              have h3 := Hlen.out
              simp at h1 h2 h3 ⊢
              omega
            · have h1 := HI1.out.tot
              have h3 := Hlen.out
              have ho : o.toList.length ≤ 1 := by cases o <;> simp
              simp only [List.length_append, List.length_cons] at h1 h3 ⊢
              omega
            · rw [cellLen_eq (hl.row.cell' (i := 11) (v := .slice (some ⟨g1, o2, none⟩) rest.length cap2) (by decide) (by simp [putF, H11.out])), cellLen_eq (HI1.out.live.row.cell' (i := 11) (by decide) HI1.out.sl)]
              exact Hlen.out
end Go.Proofs.YtmlnmllnlekcgaaDoor
/-
  PLAIN: the steps of a decoder, as the thin package does them, and what each one tells. No program in sight.
-/
namespace Go.Proofs.YtmlnmllnlekcgaaDoor.HD

/-- A decoder between two steps: its state, the bytes that it keeps. -/
structure DS where
  st : St
  save : Bs
inductive Cmd where
  | write (v : Bs)
  | close
  | full (v : Bs)
  | on (b : Bool)
  | resize (n : Nat)
  | allow (n : Nat)
  | isOn
/-- What a step tells. -/
structure Ans where
  out : List Fld
  lst : List Fld
  flag : Bool
  err : Option Er

def Cmd.bytes : Cmd → Bs
  | .write v => v
  | .full v => v
  | _ => []
/-- Whether a step takes bytes. -/
def Cmd.takes : Cmd → Bool
  | .write _ => true
  | .full _ => true
  | _ => false
def Cmd.len (c : Cmd) : Nat := c.bytes.length

def dstep (σ : DS) : Cmd → DS × Ans
  | .write v => (⟨(write σ.st σ.save v).st, (write σ.st σ.save v).save⟩, ⟨(write σ.st σ.save v).out, [], false, (write σ.st σ.save v).err⟩)
  | .close => (⟨(close σ.st σ.save).st, (close σ.st σ.save).save⟩, ⟨[], [], false, (close σ.st σ.save).err⟩)
  | .full v =>
    let r := write σ.st σ.save v
    match r.err with
    | some e => (⟨r.st, r.save⟩, ⟨[], [], false, some e⟩)
    | none =>
      let q := close r.st r.save
      match q.err with
      | some e => (⟨q.st, q.save⟩, ⟨[], [], false, some e⟩)
      | none => (⟨q.st, q.save⟩, ⟨[], r.out, false, none⟩)
  | .on b => (⟨{ σ.st with on := b }, σ.save⟩, ⟨[], [], false, none⟩)
  | .resize n => (⟨{ σ.st with ents := evict n σ.st.ents, max := n }, σ.save⟩, ⟨[], [], false, none⟩)
  | .allow n => (⟨{ σ.st with allowed := n }, σ.save⟩, ⟨[], [], false, none⟩)
  | .isOn => (σ, ⟨[], [], σ.st.on, none⟩)
def drun (σ : DS) : List Cmd → List Ans
  | [] => []
  | c :: cs => (dstep σ c).2 :: drun (dstep σ c).1 cs

/-- The code of an error, and the index that it tells. -/
def code : Option Er → Int
  | none => 0
  | some .huff => 2
  | some (.index _) => 1
  | some .coding => 4
def idx : Option Er → Int
  | some (.index i) => IntKind.i64.wrap (i : Nat)
  | _ => 0

/-- What the laws read of answers: the fields up to the first refusal, its error. -/
def rd (acc : List Fld) : List Ans → List Fld × Option Er
  | [] => (acc, none)
  | a :: l => match a.err with
    | some e => (acc ++ a.out, some e)
    | none => rd (acc ++ a.out) l
end Go.Proofs.YtmlnmllnlekcgaaDoor.HD
/-
  A step of a decoder: what it is given, what it tells.
-/
namespace Go.Proofs.YtmlnmllnlekcgaaDoor
open Go.ChangeShapes Go.WideShapes Go.ChangeAt Go.RowKit

theorem codeOf_any (B n : Nat) (er : Option HD.Er) (x : Value) (aI aN aL : Addr) (w : World) (hE : EnvO B w aI aN aL) (hn : B ≤ n) (h : ErrO n w aI er x) (hk : ErKnown aN aL er) :
    Calls Tryd.prog 37 #[x] w fun e w' => e = .returned (.tuple #[.int .i64 (HD.code er), .int .i64 (HD.idx er)]) ∧ Below w.heap.size w w' := by
  cases er with
  | none =>
    obtain rfl : x = _ := h
    refine (codeOf_nil w).mono ?_
    rintro e w' ⟨rfl, rfl⟩
    exact ⟨rfl, Below.refl _ _⟩
  | some er =>
    cases er with
    | huff =>
      obtain rfl : x = _ := h
      exact codeOf_inv aI w (hE.eI (hk.resolve_right fun h => by obtain ⟨i, h⟩ := h _ rfl; cases h))
    | coding =>
      obtain ⟨a, rfl, hf⟩ := h
      have hT : aL ≠ aN := hk.resolve_right fun h => by obtain ⟨i, h⟩ := h _ rfl; cases h
      exact codeOf_coding a aI aL w (hE.eI hT) (hE.eL hT) hf (hE.fI hT) (hE.fL hT) (Nat.lt_of_lt_of_le hE.bI hn) (Nat.lt_of_lt_of_le hE.bL hn)
    | index i =>
      obtain rfl : x = _ := h
      exact codeOf_index _ w

def fCells (f : HD.Fld) : List Value := [.string ⟨f.name.toArray⟩, .string ⟨f.value.toArray⟩, .bool f.sens]
def flds (l : List HD.Fld) : List Value := l.flatMap fCells
theorem flds_len (l : List HD.Fld) : (flds l).length = l.length * 3 := by
  induction l with
  | nil => rfl
  | cons e l ih => simp only [flds, List.flatMap_cons, List.length_append, List.length_cons] at ih ⊢; rw [ih]; simp [fCells]; omega
theorem flds_append (a b : List HD.Fld) : flds (a ++ b) = flds a ++ flds b := by simp [flds]
theorem flds_one (l : List HD.Fld) : ∀ v ∈ flds l, v.oneCell' = true := by
  intro v hv
  simp only [flds, List.mem_flatMap] at hv
  obtain ⟨f, -, hv⟩ := hv
  simp only [fCells, List.mem_cons, List.not_mem_nil, or_false] at hv
  rcases hv with rfl | rfl | rfl <;> rfl
/-- A slice of fields, in a block of X. -/
def FRow (w : World) (X : Nat → Prop) (v : Value) (l : List HD.Fld) : Prop := (v = .slice none 0 0 ∧ l = []) ∨ ∃ g cap, v = .slice (some ⟨g, 0, none⟩) l.length cap ∧ X g ∧ l.length ≤ cap ∧ cap ≤ maxLen ∧ ∀ j u, (flds l)[j]? = some u → w.cell? ⟨g, j, none⟩ = some u
theorem FRow.nil (w : World) (X : Nat → Prop) : FRow w X (.slice none 0 0) [] := Or.inl ⟨rfl, rfl⟩
theorem FRow.move {w w' : World} {X Y : Nat → Prop} {v : Value} {l : List HD.Fld} (h : FRow w X v l) (hk : ∀ k, X k → w'.heap[k]? = w.heap[k]?) (hY : ∀ k, X k → Y k) : FRow w' Y v l :=
  h.imp id fun ⟨g, cap, e, hx, h1, h2, hc⟩ => ⟨g, cap, e, hY g hx, h1, h2, fun j u hu => (World.cell?_of_block (a := ⟨g, j, none⟩) (hk g hx)).trans (hc j u hu)⟩
theorem FRow.of_own {w : World} {B : Nat} {v : Value} {l : List HD.Fld} {e : TypeId} (h : w.ownsRow B e 3 v l.length (flds l)) {X : Nat → Prop} (hX : ∀ g, v.ownBlock = some g → X g) : FRow w X v l := by
  rcases h.2 with ⟨e, h0⟩ | ⟨g, cap, cur, e, hB, hg, h1, h2, -, -⟩
  · exact Or.inl ⟨e, List.eq_nil_of_length_eq_zero h0⟩
  · refine Or.inr ⟨g, cap, e, hX g (by rw [e]; rfl), h1, h2, fun j u hu => ?_⟩
    have := h.cells (g := g) (by rw [e]; rfl) j u hu
    rwa [Lib.addr_add, Nat.zero_add] at this

def kindOf : HD.Cmd → Int
  | .write _ => 0
  | .close => 1
  | .full _ => 2
  | .on _ => 4
  | .resize _ => 5
  | .allow _ => 6
  | .isOn => 7
def sizeOfC : HD.Cmd → Nat
  | .resize n => n
  | .allow n => n
  | _ => 0
def flagOf : HD.Cmd → Bool
  | .on b => b
  | _ => false
/-- The four values of a step, and its bytes in memory. -/
def CmdV (w : World) (c : HD.Cmd) (b : Value) : Prop := c.len < 2 ^ 40 ∧ sizeOfC c < 2 ^ 32 ∧ ((c.bytes = [] ∧ b = .slice none 0 0) ∨ ∃ a cap, b = .slice (some a) c.bytes.length cap ∧ (∀ q u, (Lib.byteCells c.bytes)[q]? = some u → w.cell? (a.add q) = some u) ∧ c.takes = true)
def cmdCells (c : HD.Cmd) (b : Value) : List Value := [.int .i64 (kindOf c), b, .int .i64 (sizeOfC c : Nat), .bool (flagOf c)]

def ansCells (fv lv : Value) (nn : Int) (a : HD.Ans) : Array Value := #[fv, lv, .int .i64 nn, .bool a.flag, .int .i64 (HD.code a.err), .int .i64 (HD.idx a.err)]

/-- How a step ends. -/
def DEnds (B : Nat) (w : World) (d : Nat) (M : Emitter) (l : List HD.Fld) (p : DP) (N : Nat) (r : HD.DS × HD.Ans) (e : Ending) (w' : World) : Prop :=
  ∃ p' lv nn, e = .returned (.agg (ansCells (.slice none 0 0) lv nn r.2)) ∧ FRow w' (fun k => w.heap.size ≤ k ∧ k < w'.heap.size ∧ ¬ p'.own d k ∧ ¬ IsU8 w' k) lv r.2.lst ∧
  Live B w' d M r.1.st (l ++ r.2.out) p' ∧ Save B w' d p'.f r.1.save ∧ (∀ k, p'.own d k → p.own d k ∨ w.heap.size ≤ k) ∧ Kept B (p.own d) w w' ∧ p'.cnt + r.1.st.ents.length + r.1.save.length ≤ N
end Go.Proofs.YtmlnmllnlekcgaaDoor
/-
  Whom the thin package's decoder tells its fields: a captured slice.
-/
namespace Go.Proofs.YtmlnmllnlekcgaaDoor
open Go.ChangeShapes Go.WideShapes Go.ChangeAt Go.RowKit

def implEm (B e : Nat) : Emitter where
  val := .func (.func 19) #[] #[.pointer (some ⟨e, 0, none⟩)]
  holds w l E := ∃ v, Row w e 1 (fun _ => v) ∧ w.ownsRow B 30 3 v l.length (flds l) ∧ v.ownBlock ≠ some e ∧ ∀ k, E k ↔ (k = e ∨ v.ownBlock = some k)
  frame := fun ⟨v, hr, ho, hn, hE⟩ hk => ⟨v, hr.of_heap (hk e ((hE e).2 (Or.inl rfl))), ownsRow_of_heap ho fun g hg => hk g ((hE g).2 (Or.inr hg)), hn, hE⟩
  lt := fun ⟨v, hr, ho, hn, hE⟩ hk => ((hE _).1 hk).elim (fun h => h ▸ hr.lt) (fun h => (ho.lt _ h).2)
  kind := fun ⟨v, hr, ho, hn, hE⟩ hk hu => by
    rcases (hE _).1 hk with rfl | h
    · obtain ⟨cs, t, hb, -, -, ht⟩ := hr
      obtain ⟨cs', fz, hb'⟩ := hu
      rw [hb] at hb'; injection hb' with hb'; injection hb' with _ hb' _; exact ht hb'
    · obtain ⟨c, fz, hc⟩ := Lib.ownsRow_kind ho _ h
      obtain ⟨cs', fz', hb'⟩ := hu
      rw [hc] at hb'; injection hb' with hb'; injection hb' with _ hb' _; exact absurd hb' (by decide)

/-- The captured slice is emptied. -/
theorem implEm_reset {B e : Nat} {w : World} {d : Nat} {s : HD.St} {l : List HD.Fld} {p : DP} (h : Live B w d (implEm B e) s l p) (hB : B ≤ e) :
    Live B (w.setCell ⟨e, 0, none⟩ (.slice none 0 0)) d (implEm B e) s [] { p with E := fun k => k = e } := by
  obtain ⟨v, hr, ho, hn, hE⟩ := h.em
  have hEe : p.E e := (hE e).2 (Or.inl rfl)
  have hk : ∀ k, tabOwn d p.ev p.m1 p.m2 k → (w.setCell ⟨e, 0, none⟩ (.slice none 0 0)).heap[k]? = w.heap[k]? := fun k hk => other_set (fun h' => h.apart k hk (h' ▸ hEe))
  refine ⟨⟨h.mem.tab.frame hk, h.mem.sized, h.mem.allowed, h.mem.on, h.mem.most, h.mem.first⟩, ⟨.slice none 0 0, ?_, World.ownsRow_nil _ _ _ _, by simp [Value.ownBlock], fun k => by simp [Value.ownBlock]⟩, fun k h => h ▸ hB, h.emv, fun k hk' hke => h.apart k hk' (hke ▸ hEe), h.ok⟩
  exact (hr.set 0 (.slice none 0 0)).congr fun i hi => by simp [show i = 0 by omega]

/-- An answer's six values stand at place i. -/
def AnsAt (w : World) (X : Nat → Prop) (vs : List Value) (i : Nat) (a : HD.Ans) : Prop := ∃ fv lv nn, vs[i * 6]? = some fv ∧ vs[i * 6 + 1]? = some lv ∧ vs[i * 6 + 2]? = some (.int .i64 nn) ∧ vs[i * 6 + 3]? = some (.bool a.flag) ∧
  vs[i * 6 + 4]? = some (.int .i64 (HD.code a.err)) ∧ vs[i * 6 + 5]? = some (.int .i64 (HD.idx a.err)) ∧ FRow w X fv a.out ∧ FRow w X lv a.lst
theorem AnsAt.move {w w' : World} {X Y : Nat → Prop} {vs : List Value} {i : Nat} {a : HD.Ans} (h : AnsAt w X vs i a) (hk : ∀ k, X k → w'.heap[k]? = w.heap[k]?) (hY : ∀ k, X k → Y k) (us : List Value) : AnsAt w' Y (vs ++ us) i a := by
  obtain ⟨fv, lv, nn, h0, h1, h2, h3, h4, h5, hf, hl⟩ := h
  have key : ∀ j u, vs[j]? = some u → (vs ++ us)[j]? = some u := fun j u hu => by
    rw [List.getElem?_append_left (List.getElem?_eq_some_iff.1 hu).1]; exact hu
  exact ⟨fv, lv, nn, key _ _ h0, key _ _ h1, key _ _ h2, key _ _ h3, key _ _ h4, key _ _ h5, hf.move hk hY, hl.move hk hY⟩
theorem AnsAt.last {w : World} {X : Nat → Prop} {vs : List Value} {i : Nat} {a : HD.Ans} {fv lv : Value} {nn : Int} (hi : vs.length = i * 6) (hf : FRow w X fv a.out) (hl : FRow w X lv a.lst) : AnsAt w X (vs ++ (ansCells fv lv nn a).toList) i a := by
  have key : ∀ j, (vs ++ (ansCells fv lv nn a).toList)[i * 6 + j]? = (ansCells fv lv nn a).toList[j]? := fun j => by
    rw [List.getElem?_append_right (by omega), hi, Nat.add_sub_cancel_left]
  exact ⟨fv, lv, nn, key 0, key 1, key 2, key 3, key 4, key 5, hf, hl⟩

/-- What is asked of one step. -/
def CmdOk (B d : Nat) (M : Emitter) (aI aN aL : Addr) (σ : HD.DS) (c : HD.Cmd) : Prop :=
  ∀ (w : World) (l : List HD.Fld) (p : DP) (b : Value), Live B w d M σ.st l p → EnvO B w aI aN aL → Save B w d p.f σ.save → CmdV w c b → p.cnt + σ.st.ents.length + σ.save.length + c.len < 2 ^ 46 → l.length + σ.save.length + c.len ≤ 2 ^ 40 →
    Calls Tryd.prog 21 #[.pointer (some ⟨d, 0, none⟩), .agg (cmdCells c b).toArray] w (DEnds B w d M l p (p.cnt + σ.st.ents.length + σ.save.length + c.len) (HD.dstep σ c))
/-- What is asked of steps. -/
def RunOk (B d : Nat) (M : Emitter) (aI aN aL : Addr) : HD.DS → List HD.Cmd → Prop
  | _, [] => True
  | σ, c :: cs => CmdOk B d M aI aN aL σ c ∧ RunOk B d M aI aN aL (HD.dstep σ c).1 cs
def lens (cs : List HD.Cmd) : Nat := (cs.map HD.Cmd.len).sum

/-- Steps in memory, from place o of block g on. -/
structure StepsMem (w : World) (g o : Nat) (cs : List HD.Cmd) (bs : List Value) : Prop where
  len : bs.length = cs.length
  cell : ∀ i (h : i < cs.length) (h' : i < bs.length) j v, (cmdCells cs[i] bs[i])[j]? = some v → w.cell? ⟨g, o + i * 4 + j, none⟩ = some v
  val : ∀ i (h : i < cs.length) (h' : i < bs.length), CmdV w cs[i] bs[i]
end Go.Proofs.YtmlnmllnlekcgaaDoor
/-
  The contract of impl.Decode, over contracts for the steps.
-/
namespace Go.Proofs.YtmlnmllnlekcgaaDoor
open Go.ChangeShapes Go.WideShapes Go.ChangeAt Go.RowKit

theorem infoDA : (Tryd.prog.info? 50).map (fun i => (i.zero, i.size, i.bytes)) = some (some (.agg #[.slice none 0 0, .slice none 0 0, .int .i64 0, .bool false, .int .i64 0, .int .i64 0]), 6, 80) := by kernel_rfl
theorem FRow.form {w : World} {X : Nat → Prop} {v : Value} {l : List HD.Fld} (h : FRow w X v l) : ∃ a n c, v = .slice a n c := by
  rcases h with ⟨h, -⟩ | ⟨g, cap, h, -⟩
  · exact ⟨_, _, _, h⟩
  · exact ⟨_, _, _, h⟩

/-- What stands in memory when the loop of Decode comes round. -/
structure RInv (w wr : World) (aI aN aL : Addr) (n T : Nat) (A : List HD.Ans) (cs : List HD.Cmd) (k : Nat) (σ : HD.DS) (az : List HD.Ans) (ov : Value) (vs : List Value) (l : List HD.Fld) (p : DP) (X : Nat → Prop) : Prop where
  res : A = az ++ HD.drun σ (cs.drop k)
  ok : RunOk w.heap.size (w.heap.size + 1) (implEm w.heap.size w.heap.size) aI aN aL σ (cs.drop k)
  len : az.length = k
  live : Live w.heap.size wr (w.heap.size + 1) (implEm w.heap.size w.heap.size) σ.st l p
  save : Save w.heap.size wr (w.heap.size + 1) p.f σ.save
  out : wr.ownsRow w.heap.size 50 6 ov k vs
  at_ : ∀ i a, az[i]? = some a → AnsAt wr X vs i a
  low : ∀ g, X g → g < wr.heap.size ∧ w.heap.size ≤ g ∧ ¬ tabOwn (w.heap.size + 1) p.ev p.m1 p.m2 g ∧ g ≠ w.heap.size ∧ ¬ IsU8 wr g
  apart : ∀ g, ov.ownBlock = some g → ¬ X g ∧ ¬ p.own (w.heap.size + 1) g
  below : Below w.heap.size w wr
  num : p.cnt + σ.st.ents.length + σ.save.length + lens (cs.drop k) ≤ T

/-- What Decode hands back. -/
def RunEnds (w : World) (A : List HD.Ans) (e : Ending) (w' : World) : Prop := ∃ ov vs X, e = .returned ov ∧ w'.ownsRow w.heap.size 50 6 ov A.length vs ∧ (∀ i a, A[i]? = some a → AnsAt w' X vs i a) ∧ (∀ g, X g → g < w'.heap.size ∧ w.heap.size ≤ g ∧ ¬ IsU8 w' g) ∧ (∀ g, ov.ownBlock = some g → ¬ X g) ∧ Below w.heap.size w w'

set_option maxHeartbeats 2000000 in
set_option maxRecDepth 100000 in
theorem runO_any (w : World) (size : Nat) (aI aN aL : Addr) (gs os cap : Nat) (cs : List HD.Cmd) (bs : List Value) (hs : size ≤ 2 ^ 31)
    (hE : EnvO w.heap.size w aI aN aL) (hm : StepsMem w gs os cs bs) (_hcap : cap ≤ maxLen) (hn : cs.length ≤ cap) (hn40 : cs.length ≤ 2 ^ 30)
    (hok : RunOk w.heap.size (w.heap.size + 1) (implEm w.heap.size w.heap.size) aI aN aL ⟨⟨[], size, size, true, true⟩, []⟩ cs) (hT : lens cs ≤ 2 ^ 40) :
    Calls Tryd.prog 10 #[.int .i64 (size : Nat), .slice (some ⟨gs, os, none⟩) cs.length cap] w (RunEnds w (HD.drun ⟨⟨[], size, size, true, true⟩, []⟩ cs)) := by
  obtain ⟨A, hA⟩ : ∃ A, A = HD.drun ⟨⟨[], size, size, true, true⟩, []⟩ cs := ⟨_, rfl⟩
  rw [← hA]
  obtain ⟨n, hnn⟩ : ∃ n, cs.length = n := ⟨_, rfl⟩
  have hmf : ∀ (fn : Fn) (first cap : Array Value) (w : World), (Instr.makeFunc fn first cap).run Tryd.prog w = .ok (.func fn first cap) w := fun _ _ _ _ => rfl
  have hsI : IntKind.u32.wrap (size : Int) = (size : Int) := by simp only [IntKind.wrap, IntKind.bits, IntKind.signed]; simp; omega
  unfold maxLen at _hcap
  rw [hnn] at hn hn40 ⊢
  have HA := Lib.hid hA
  have HE := Lib.hid hE
  have HM := Lib.hid hm
  have Hok := Lib.hid hok
  have HT := Lib.hid hT
  have Hnn := Lib.hid hnn
  clear hA hE hm hok hT hnn
  go_enter Tryd.func10, Tryd.ntmps10
  go_wp2_with fail
  refine (newDecoder_any w.heap.size size (.func 19) (.pointer (some ⟨w.heap.size, 0, none⟩)) _ (by simp) (by omega)).mono ?_
  rintro e w1 ⟨rfl, f, ev, m1, m2, hM, h8, h11, h12, h13, h14, hev, hm1, hm2, hb1⟩
  have hs1 : (w.alloc (.cells #[.slice none 0 0] 22)).heap.size = w.heap.size + 1 := by simp
  rw [hs1] at hM hm1 hm2
  have hI : RInv w w1 aI aN aL n (lens cs) A cs 0 ⟨⟨[], size, size, true, true⟩, []⟩ [] (.slice none 0 0) [] [] ⟨f, 0, ev, m1, m2, [], [], fun k => k = w.heap.size⟩ (fun _ => False) := by
    have hr0 : Row (w.alloc (.cells #[.slice none 0 0] 22)) w.heap.size 1 (fun _ => .slice none 0 0) := Row.new w _ (by decide) rfl (fun i hi => by simp [show i = 0 by omega])
    refine ⟨HA.out, Hok.out, rfl, ⟨hM, ⟨.slice none 0 0, hr0.below hb1 (by simp), World.ownsRow_nil _ _ _ _, by simp [Value.ownBlock], fun k => by simp [Value.ownBlock]⟩, fun k h => Nat.le_of_eq h.symm, h8, ?_, ⟨by simp [HD.tsize], hs, hs, fun e h => by cases h⟩⟩, ⟨?_, ?_, h13, 0, h14⟩, World.ownsRow_nil _ _ _ _, fun i a h => by simp at h, fun g h => h.elim, fun g h => by simp [Value.ownBlock] at h,
      (((Below.refl _ w).alloc (Nat.le_refl _) _).trans (hb1.mono (by simp))), by simp⟩
    · rintro k (rfl | h | rfl | rfl) hk
      · omega
      · rw [hev] at h; cases h
      · omega
      · omega
    · show w1.ownsRow _ _ _ (f 12) _ _
      rw [h12]; exact World.ownsRow_nil _ _ _ _
    · show (f 12).ownBlock ≠ _
      rw [h12]; simp [Value.ownBlock]
  have HI := Lib.hid hI
  have Hs1 := Lib.hid hs1
  clear hM h8 h11 h12 h13 h14 hev hm1 hm2 hb1 hI
  go_wp2_with fail
  go_loopw [7, 17] (fun ov i wr => ∃ (k : Nat) (σ : HD.DS) (az : List HD.Ans) (vs : List Value) (l : List HD.Fld) (p : DP) (X : Nat → Prop), k ≤ n ∧ i = .int .i64 (k : Nat) ∧ RInv w wr aI aN aL n (lens cs) A cs k σ az ov vs l p X) (fun _ i _ => n - (intOf i).toNat)
  case atStart => exact ⟨0, _, _, _, _, _, _, Nat.zero_le _, rfl, HI.out⟩
  case round =>
    obtain ⟨k, σ, az, vs, l, p, X, hk, rfl, hI1⟩ := hrel
    rcases Nat.lt_or_ge k n with hlt | hge
    · have hkc : k < cs.length := by rw [Hnn.out]; exact hlt
      have hkb : k < bs.length := by rw [HM.out.len]; exact hkc
      obtain ⟨c, hc⟩ : ∃ c, c = cs[k] := ⟨_, rfl⟩
      obtain ⟨b, hb⟩ : ∃ b, b = bs[k] := ⟨_, rfl⟩
      have hkN : decide (k < n) = true := by simpa using hlt
      have hgl : gs < w.heap.size := by
        have := HM.out.cell k hkc hkb 0 _ rfl
        exact World.block_lt_of_cell? w _ this
      have hcell : ∀ j v, (cmdCells c b)[j]? = some v → wr.cell? ⟨gs, os + k * 4 + j, none⟩ = some v := fun j v hv => (hI1.below.cell (p := ⟨gs, os + k * 4 + j, none⟩) hgl).trans (HM.out.cell k hkc hkb j v (by rw [← hc, ← hb]; exact hv))
      have q0 := hcell 0 _ rfl
      have q1 := hcell 1 _ rfl
      have q2 := hcell 2 _ rfl
      have q3 := hcell 3 _ rfl
      rw [Nat.add_zero] at q0
      obtain ⟨ev, hre, hoe, hne, hEe⟩ := hI1.live.em
      obtain ⟨sa, lb, cb, hbs⟩ : ∃ sa lb cb, b = .slice sa lb cb := by
        have h := (HM.out.val k hkc hkb).2.2
        rw [← hb] at h
        rcases h with ⟨-, h⟩ | ⟨a, cap, h, -⟩
        · exact ⟨_, _, _, h⟩
        · exact ⟨_, _, _, h⟩
      rw [hbs] at q1
      obtain ⟨ea, ec, hev⟩ := own_form hoe
      rw [hev] at hre
      have qe := hre.cell (i := 0) (by decide)
      have Hbs := Lib.hid hbs
      have hEE := (hEe w.heap.size).2 (Or.inl rfl)
      clear hbs hev
      have qf := hre.unfrozen 0 none
      have HI1 := Lib.hid hI1
      have Hc := Lib.hid hc
      have Hb := Lib.hid hb
      obtain ⟨kc, hkc0⟩ : ∃ kc, kc = kindOf c := ⟨_, rfl⟩
      obtain ⟨sc, hsc0⟩ : ∃ sc, sc = sizeOfC c := ⟨_, rfl⟩
      obtain ⟨fc, hfc0⟩ : ∃ fc, fc = flagOf c := ⟨_, rfl⟩
      rw [← hkc0] at q0
      rw [← hsc0] at q2
      rw [← hfc0] at q3
      have Hkc := Lib.hid hkc0
      have Hsc := Lib.hid hsc0
      have Hfc := Lib.hid hfc0
      have hlow : w.heap.size < wr.heap.size := hre.lt
      clear hI1 hc hb hkc0 hsc0 hfc0 hcell hre hoe hne hEe
      have hdrop : cs.drop k = c :: cs.drop (k + 1) := by rw [Hc.out]; exact List.drop_eq_getElem_cons hkc
      have hok1 := HI1.out.ok
      rw [hdrop] at hok1
      obtain ⟨hcmd, hok2⟩ := hok1
      have hcv : CmdV w c b := by rw [Hc.out, Hb.out]; exact HM.out.val k hkc hkb
      have Hcmd := Lib.hid hcmd
      have Hok2 := Lib.hid hok2
      have Hcv := Lib.hid hcv
      have Hdrop := Lib.hid hdrop
      obtain ⟨i0, hi, hz0, hz1, hzb⟩ := info_parts infoDA
      clear hcmd hok2 hcv hdrop
      go_wp2_with fail
      have hl2 : Live w.heap.size ((wr.setCell ⟨w.heap.size, 0, none⟩ (.slice none 0 0)).alloc (.cells #[.int .i64 kc, .slice sa lb cb, .int .i64 sc, .bool fc] 58)) (w.heap.size + 1) (implEm w.heap.size w.heap.size) σ.st [] { p with E := fun k => k = w.heap.size } :=
        (implEm_reset HI1.out.live (Nat.le_refl _)).below ((Below.refl _ _).alloc (Nat.le_refl _) _)
      have hsz2 : ((wr.setCell ⟨w.heap.size, 0, none⟩ (.slice none 0 0)).alloc (.cells #[.int .i64 kc, .slice sa lb cb, .int .i64 sc, .bool fc] 58)).heap.size = wr.heap.size + 1 := by simp
      have hkk2 : ∀ g, g < wr.heap.size → g ≠ w.heap.size → ((wr.setCell ⟨w.heap.size, 0, none⟩ (.slice none 0 0)).alloc (.cells #[.int .i64 kc, .slice sa lb cb, .int .i64 sc, .bool fc] 58)).heap[g]? = wr.heap[g]? := fun g hg hne =>
        (Below.heap_alloc _ _ _ (by simpa using hg)).trans (other_set (Ne.symm hne))
      have hb2 : Below w.heap.size w ((wr.setCell ⟨w.heap.size, 0, none⟩ (.slice none 0 0)).alloc (.cells #[.int .i64 kc, .slice sa lb cb, .int .i64 sc, .bool fc] 58)) :=
        (((HI1.out.below.setCell (by exact Nat.le_refl _) _)).alloc (Nat.le_of_lt (by simpa using hlow)) _)
      have hs2 : Save w.heap.size ((wr.setCell ⟨w.heap.size, 0, none⟩ (.slice none 0 0)).alloc (.cells #[.int .i64 kc, .slice sa lb cb, .int .i64 sc, .bool fc] 58)) (w.heap.size + 1) p.f σ.save :=
        HI1.out.save.kept rfl rfl rfl (fun g hg => hkk2 g (HI1.out.save.u8 hg).lt (fun e => HI1.out.live.kind (HI1.out.save.u8 hg) (Or.inr (e ▸ hEE))))
      have hcv2 : CmdV ((wr.setCell ⟨w.heap.size, 0, none⟩ (.slice none 0 0)).alloc (.cells #[.int .i64 kc, .slice sa lb cb, .int .i64 sc, .bool fc] 58)) c b :=
        ⟨Hcv.out.1, Hcv.out.2.1, Hcv.out.2.2.imp id fun ⟨a, cap, e, hb, ht⟩ => ⟨a, cap, e, fun q u hu => (hb2.cell (World.block_lt_of_cell? w _ (hb q u hu))).trans (hb q u hu), ht⟩⟩
      have hnum : p.cnt + σ.st.ents.length + σ.save.length + c.len + lens (cs.drop (k + 1)) ≤ lens cs := by
        have := HI1.out.num
        rw [Hdrop.out] at this
        simp only [lens, List.map_cons, List.sum_cons] at this ⊢
        omega
      have harg : (cmdCells c b).toArray = #[.int .i64 kc, .slice sa lb cb, .int .i64 sc, .bool fc] := by rw [Hkc.out, Hsc.out, Hfc.out, Hbs.out]; rfl
      have hcall := Hcmd.out _ [] { p with E := fun k => k = w.heap.size } b hl2 (HE.out.below hb2) hs2 hcv2 (by have := HT.out; show p.cnt + _ + _ + _ < _; omega) (by have := HT.out; simp only [List.length_nil]; omega)
      rw [harg] at hcall
      have Hb2 := Lib.hid hb2
      have Hnum := Lib.hid hnum
      clear hl2 hs2 hcv2 hnum harg hb2
      refine hcall.mono ?_
      clear hcall
      obtain ⟨r, hr⟩ : ∃ r, r = HD.dstep σ c := ⟨_, rfl⟩
      rw [← hr]
      rintro e w3 ⟨p', lv, nn, rfl, hfr, hl3, hs3, ho3, hk3, hn3⟩
      obtain ⟨la, ll, lc, rfl⟩ := hfr.form
      obtain ⟨ev3, hre3, hoe3, hne3, hEe3⟩ := hl3.em
      obtain ⟨ea3, ec3, rfl⟩ := own_form hoe3
      rw [List.nil_append] at hoe3 hre3 hEe3 hne3
      obtain ⟨on, hon⟩ : ∃ on, on = r.2.out.length := ⟨_, rfl⟩
      rw [← hon] at hoe3 hre3 hEe3 hne3
      have qe3 := hre3.cell (i := 0) (by decide)
      have He3 := hre3.lt
      obtain ⟨rf, hrf⟩ : ∃ x, x = r.2.flag := ⟨_, rfl⟩
      obtain ⟨rc, hrc⟩ : ∃ x, x = HD.code r.2.err := ⟨_, rfl⟩
      obtain ⟨ri, hri⟩ : ∃ x, x = HD.idx r.2.err := ⟨_, rfl⟩
      simp only [ansCells]
      rw [← hrf, ← hrc, ← hri]
      have Hr := Lib.hid hr
      have Hfr := Lib.hid hfr
      have Hl3 := Lib.hid hl3
      have Hs3 := Lib.hid hs3
      have Ho3 := Lib.hid ho3
      have Hk3 := Lib.hid hk3
      have Hn3 := Lib.hid hn3
      have Hoe3 := Lib.hid hoe3
      have Hre3 := Lib.hid hre3
      have HEe3 := Lib.hid hEe3
      have Hne3 := Lib.hid hne3
      have Hon := Lib.hid hon
      have Hrf := Lib.hid hrf
      have Hrc := Lib.hid hrc
      have Hri := Lib.hid hri
      have Hhi := Lib.hid hi
      have Hhz0 := Lib.hid hz0
      have Hhz1 := Lib.hid hz1
      have Hhzb := Lib.hid hzb
      clear q0 q1 q2 q3 qe qf hr hfr hl3 hs3 ho3 hk3 hn3 hoe3 hre3 hEe3 hne3 hon hrf hrc hri hi hz0 hz1 hzb
      obtain ⟨W4, hW4⟩ : ∃ W4, W4 = (w3.alloc (.cells #[.slice ea3 on ec3, .slice la ll lc, .int .i64 nn, .bool rf, .int .i64 rc, .int .i64 ri] 50)).alloc (.cells #[.slice ea3 on ec3, .slice la ll lc, .int .i64 nn, .bool rf, .int .i64 rc, .int .i64 ri] 50) := ⟨_, rfl⟩
      have hs4 : W4.heap.size = w3.heap.size + 2 := by rw [hW4]; simp
      have hb4 : Below w3.heap.size w3 W4 := by rw [hW4]; exact ((Below.refl _ _).alloc (Nat.le_refl _) _).alloc (by simp) _
      have hn4 : W4.heap[w3.heap.size + 1]? = some (.cells #[.slice ea3 on ec3, .slice la ll lc, .int .i64 nn, .bool rf, .int .i64 rc, .int .i64 ri] 50 (0, 0)) := by
        have h := heap_alloc_new (w3.alloc (.cells #[.slice ea3 on ec3, .slice la ll lc, .int .i64 nn, .bool rf, .int .i64 rc, .int .i64 ri] 50)) (.cells #[.slice ea3 on ec3, .slice la ll lc, .int .i64 nn, .bool rf, .int .i64 rc, .int .i64 ri] 50)
        rw [show (w3.alloc (.cells #[.slice ea3 on ec3, .slice la ll lc, .int .i64 nn, .bool rf, .int .i64 rc, .int .i64 ri] 50)).heap.size = w3.heap.size + 1 by simp] at h
        rw [hW4]; exact h
      have HW4 := Lib.hid hW4
      have Hb4 := Lib.hid hb4
      have Hn4 := Lib.hid hn4
      have Hs4 := Lib.hid hs4
      have hog : ∀ g, u7.ownBlock = some g → W4.heap[g]? = wr.heap[g]? := fun g hg => by
        have hgl := (HI1.out.out.lt g hg).2
        have hne : g ≠ w.heap.size := fun e => (HI1.out.apart g hg).2 (Or.inr (e ▸ hEE))
        have hu : ¬ IsU8 wr g := by
          obtain ⟨c0, fz0, h0⟩ := Lib.ownsRow_kind HI1.out.out g hg
          rintro ⟨c1, fz1, h1⟩
          rw [h0] at h1; injection h1 with h1; injection h1 with _ h1 _; exact absurd h1 (by decide)
        have e2 := hkk2 g hgl hne
        have e3 := Hk3.out.block g (by rw [hsz2]; omega) (fun h => by
          rcases h with h | h
          · exact (HI1.out.apart g hg).2 (Or.inl h)
          · exact hne h) (fun h => hu (h.of_heap e2.symm))
        have hs3 : wr.heap.size + 1 ≤ w3.heap.size := by have := Hk3.out.below.size; rw [hsz2] at this; exact this
        exact ((Hb4.out.block g (by omega)).trans e3).trans e2
      have hown4 := ownsRow_of_heap HI1.out.out hog
      have Hog := Lib.hid hog
      have Hown4 := Lib.hid hown4
      have hB4 : w.heap.size ≤ W4.heap.size := by rw [hs4]; have := Hk3.out.below.size; rw [hsz2] at this; omega
      clear hW4 hs4 hb4 hn4 hog hown4
      go_wp2_with (at_builtin; go_must (refine wpList_append_own_at _ rfl _ _ 36 rfl w.heap.size 50 i0 (.agg #[.slice none 0 0, .slice none 0 0, .int .i64 0, .bool false, .int .i64 0, .int .i64 0]) 6 80 Tryd.underlying36 Hhi.out Hhz0.out Hhz1.out Hhzb.out rfl (by decide) u7 k vs rfl (by rw [← HW4.out]; exact Hown4.out) ⟨w3.heap.size + 1, 0, none⟩ 1 1 [.slice ea3 on ec3, .slice la ll lc, .int .i64 nn, .bool rf, .int .i64 rc, .int .i64 ri] rfl rfl (by rw [← HW4.out]; intro j x hx; rw [Lib.addr_add, Nat.zero_add, Lib.cell_of_heap Hn4.out, ← Array.getElem?_toList]; exact hx) (by intro x hx; simp at hx; rcases hx with rfl | rfl | rfl | rfl | rfl | rfl <;> rfl) (by unfold maxLen; omega) (by omega) (by rw [← HW4.out]; exact hB4) ?_); intro v5 w5 hown5 hgrow5 _ hob5; rw [← HW4.out] at hgrow5 hob5; have Hown5 := Lib.hid hown5; have Hgrow5 := Lib.hid hgrow5; have Hob5 := Lib.hid hob5; clear hown5 hgrow5 hob5)
      have hs23 : wr.heap.size + 1 ≤ w3.heap.size := by have := Hk3.out.below.size; rw [hsz2] at this; exact this
      have hs35 : w3.heap.size + 2 ≤ w5.heap.size := by have := Hgrow5.out.size; rw [Hs4.out] at this; exact this
      -- blocks that the append leaves
      have h35 : ∀ g, g < w3.heap.size → u7.ownBlock ≠ some g → w5.heap[g]? = w3.heap[g]? := fun g hg hne =>
        (Hgrow5.out.block g (by rw [Hs4.out]; omega) (fun e => hne e.symm)).trans (Hb4.out.block g hg)
      have hown' : ∀ g, p'.own (w.heap.size + 1) g → (p.own (w.heap.size + 1) g ∨ wr.heap.size + 1 ≤ g) := fun g hg => by
        rcases Ho3.out g hg with h | h
        · rcases h with h | h
          · exact Or.inl (Or.inl h)
          · exact Or.inl (Or.inr ((show g = w.heap.size from h) ▸ hEE))
        · rw [hsz2] at h; exact Or.inr h
      have hogA : ∀ g, u7.ownBlock = some g → g < wr.heap.size ∧ ¬ p'.own (w.heap.size + 1) g := fun g hg => by
        have hgl := (HI1.out.out.lt g hg).2
        refine ⟨hgl, fun h => ?_⟩
        rcases hown' g h with h | h
        · exact (HI1.out.apart g hg).2 h
        · omega
      have hogU : ∀ g, u7.ownBlock = some g → ¬ IsU8 w3 g := fun g hg hu => by
        have e1 := (Hb4.out.block g (by have := (hogA g hg).1; omega)).symm.trans (Hog.out g hg)
        obtain ⟨c0, fz0, h0⟩ := Lib.ownsRow_kind HI1.out.out g hg
        obtain ⟨c1, fz1, h1⟩ := hu
        rw [e1, h0] at h1; injection h1 with h1; injection h1 with _ h1 _; exact absurd h1 (by decide)
      have hX3 : ∀ g, X g → w3.heap[g]? = wr.heap[g]? := fun g hg => by
        obtain ⟨a1, a2, a3, a4, a5⟩ := HI1.out.low g hg
        have e2 := hkk2 g a1 a4
        exact (Hk3.out.block g (by rw [hsz2]; omega) (fun h => h.elim a3 a4) (fun h => a5 (h.of_heap e2.symm))).trans e2
      have hX5 : ∀ g, X g → w5.heap[g]? = wr.heap[g]? := fun g hg => by
        have a1 := (HI1.out.low g hg).1
        exact (h35 g (by omega) (fun e => (HI1.out.apart g e).1 hg)).trans (hX3 g hg)
      have hE3 : ∀ g, (Value.slice ea3 on ec3).ownBlock = some g → g < w3.heap.size ∧ w.heap.size ≤ g ∧ p'.own (w.heap.size + 1) g := fun g hg => ⟨(Hoe3.out.lt g hg).2, (Hoe3.out.lt g hg).1, Or.inr ((HEe3.out g).2 (Or.inr hg))⟩
      have hsix : [Value.slice ea3 on ec3, .slice la ll lc, .int .i64 nn, .bool rf, .int .i64 rc, .int .i64 ri] = (ansCells (.slice ea3 on ec3) (.slice la ll lc) nn r.2).toList := by rw [Hrf.out, Hrc.out, Hri.out]; rfl
      have hlive : Live w.heap.size w5 (w.heap.size + 1) (implEm w.heap.size w.heap.size) r.1.st r.2.out p' := by
        have h := Hl3.out
        rw [List.nil_append] at h
        exact h.frame fun g hg => h35 g (h.own_lt hg) (fun e => (hogA g e).2 hg)
      refine ⟨⟨k + 1, r.1, az ++ [r.2], vs ++ [.slice ea3 on ec3, .slice la ll lc, .int .i64 nn, .bool rf, .int .i64 rc, .int .i64 ri], r.2.out, p', fun g => X g ∨ (Value.slice ea3 on ec3).ownBlock = some g ∨ (wr.heap.size + 1 ≤ g ∧ g < w3.heap.size ∧ ¬ p'.own (w.heap.size + 1) g ∧ ¬ IsU8 w3 g), hlt, by go_num, ?_, ?_, ?_, hlive, ?_, Hown5.out, ?_, ?_, ?_, ?_, ?_⟩, by simp [intOf]; omega⟩
      · rw [HI1.out.res, Hdrop.out, HD.drun, ← Hr.out]; simp
      · rw [Hr.out]; exact Hok2.out
      · simp [HI1.out.len]
      · exact Hs3.out.kept rfl rfl rfl fun g hg => h35 g (Hs3.out.u8 hg).lt (fun e => hogU g e (Hs3.out.u8 hg))
      · intro i a ha
        rcases Nat.lt_or_ge i az.length with hi | hi
        · rw [List.getElem?_append_left hi] at ha
          exact (HI1.out.at_ i a ha).move hX5 (fun g hg => Or.inl hg) _
        · have hi0 : i = az.length := by
            have := (List.getElem?_eq_some_iff.1 ha).1
            simp at this; omega
          subst hi0
          rw [List.getElem?_append_right (Nat.le_refl _), Nat.sub_self] at ha
          obtain rfl : r.2 = a := by simpa using ha
          rw [hsix]
          have hvl : vs.length = az.length * 6 := by rw [HI1.out.len]; exact HI1.out.out.1
          refine AnsAt.last hvl (FRow.of_own (B := w.heap.size) (e := 30) ?_ fun g hg => Or.inr (Or.inl hg)) (Hfr.out.move (fun g hg => h35 g hg.2.1 (fun e => by have := (hogA g e).1; have := hg.1; rw [hsz2] at this; omega)) (fun g hg => Or.inr (Or.inr (by rw [← hsz2]; exact hg))))
          rw [← Hon.out]
          exact ownsRow_of_heap Hoe3.out fun g hg => h35 g (hE3 g hg).1 (fun e => (hogA g e).2 (hE3 g hg).2.2)
      · rintro g (hg | hg | ⟨hg1, hg2, hg3, hg4⟩)
        · obtain ⟨a1, a2, a3, a4, a5⟩ := HI1.out.low g hg
          refine ⟨by omega, a2, fun h => ?_, a4, fun h => a5 (h.of_heap (hX5 g hg).symm)⟩
          rcases Ho3.out g (Or.inl h) with h' | h'
          · rcases h' with h' | h'
            · exact a3 h'
            · exact a4 h'
          · rw [hsz2] at h'; omega
        · obtain ⟨a1, a2, a3⟩ := hE3 g hg
          have hne : g ≠ w.heap.size := fun e => Hne3.out (by rw [hg, e])
          exact ⟨by omega, a2, fun h => Hl3.out.apart g h ((HEe3.out g).2 (Or.inr hg)), hne, fun hu => hlive.kind hu a3⟩
        · have hne : g ≠ w.heap.size := by omega
          have e5 := h35 g hg2 (fun e => by have := (hogA g e).1; omega)
          exact ⟨by omega, by omega, fun h => hg3 (Or.inl h), hne, fun hu => hg4 (hu.of_heap e5.symm)⟩
      · intro g hg
        rcases Hob5.out with h | h
        · rw [h] at hg
          obtain ⟨a1, a2⟩ := hogA g hg
          refine ⟨?_, a2⟩
          rintro (h' | h' | ⟨h', -⟩)
          · exact (HI1.out.apart g hg).1 h'
          · exact a2 (hE3 g h').2.2
          · omega
        · rw [h] at hg
          obtain rfl := Option.some.inj hg
          rw [Hs4.out]
          refine ⟨?_, fun h' => ?_⟩
          · rintro (h' | h' | ⟨-, h', -⟩)
            · have := (HI1.out.low _ h').1; omega
            · have := (hE3 _ h').1; omega
            · omega
          · have := Hl3.out.own_lt h'; omega
      · have h1 : Below w.heap.size w w3 := Hb2.out.trans Hk3.out.below
        have h2 : Below w.heap.size w W4 := h1.trans (Hb4.out.mono h1.size)
        exact h2.grown Hgrow5.out hB4 (fun g hg => (HI1.out.out.lt g hg).1)
      · have h1 := Hn3.out
        have h2 := Hnum.out
        have h3 : ({ p with E := fun k => k = w.heap.size } : DP).cnt = p.cnt := rfl
        omega
    · obtain rfl : k = n := Nat.le_antisymm hk hge
      have HI1 := Lib.hid hI1
      clear hI1
      go_wp2_with fail
      go_ret
      have hAz : A = az := by rw [HI1.out.res, List.drop_of_length_le (Nat.le_of_eq Hnn.out)]; simp [HD.drun]
      refine ⟨u7, vs, X, rfl, ?_, by rw [hAz]; exact HI1.out.at_, fun g h => ⟨(HI1.out.low g h).1, (HI1.out.low g h).2.1, (HI1.out.low g h).2.2.2.2⟩, fun g h => (HI1.out.apart g h).1, HI1.out.below⟩
      rw [hAz, HI1.out.len]
      exact HI1.out.out
theorem run_any (w : World) (size : Nat) (aI aN aL : Addr) (gs os cap : Nat) (cs : List HD.Cmd) (bs : List Value) (hs : size ≤ 2 ^ 31)
    (hE : Env w.heap.size w aI aN aL) (hm : StepsMem w gs os cs bs) (_hcap : cap ≤ maxLen) (hn : cs.length ≤ cap) (hn40 : cs.length ≤ 2 ^ 30)
    (hok : RunOk w.heap.size (w.heap.size + 1) (implEm w.heap.size w.heap.size) aI aN aL ⟨⟨[], size, size, true, true⟩, []⟩ cs) (hT : lens cs ≤ 2 ^ 40) :
    Calls Tryd.prog 10 #[.int .i64 (size : Nat), .slice (some ⟨gs, os, none⟩) cs.length cap] w (RunEnds w (HD.drun ⟨⟨[], size, size, true, true⟩, []⟩ cs)) :=
  runO_any w size aI aN aL gs os cap cs bs hs hE.1 hm _hcap hn hn40 hok hT
end Go.Proofs.YtmlnmllnlekcgaaDoor
/-
  PLAIN: the bytes of an integer, and that they are read back; what reading a size update tells. No program in sight.
-/
namespace Go.Proofs.YtmlnmllnlekcgaaDoor.HD

/-- The bytes of a number behind its prefix. -/
def digs (n : Nat) : Bs := if h : 128 ≤ n then UInt8.ofNat (n % 128 + 128) :: digs (n / 128) else [UInt8.ofNat n]
termination_by n
decreasing_by omega
def intg (above bits n : Nat) : Bs := if n < 2 ^ bits - 1 then [UInt8.ofNat (above + n)] else UInt8.ofNat (above + (2 ^ bits - 1)) :: digs (n - (2 ^ bits - 1))

theorem toNat_of {n : Nat} (h : n < 256) : (UInt8.ofNat n).toNat = n := by
  rw [UInt8.toNat_ofNat', Nat.mod_eq_of_lt (by simpa using h)]

theorem vcont_digs : ∀ (n i k : Nat) (r : Bs), n < 2 ^ (7 * (9 - k)) → k ≤ 8 → vcont (digs n ++ r) i (7 * k) = .ok (i + n * 2 ^ (7 * k)) r := by
  intro n
  induction n using Nat.strongRecOn with
  | ind n ih =>
    intro i k r hn hk
    rw [digs]
    split
    · rename_i h
      have hk7 : k ≤ 7 := by
        rcases Nat.lt_or_ge 7 k with h8 | h8
        · obtain rfl : k = 8 := by omega
          simp at hn; omega
        · exact h8
      rw [List.cons_append, vcont, toNat_of (by omega), if_neg (by omega), if_neg (by omega)]
      have e1 : (n % 128 + 128) % 128 = n % 128 := by omega
      have e2 : 7 * k + 7 = 7 * (k + 1) := by omega
      rw [e1, e2, ih (n / 128) (by omega) _ (k + 1) r ?_ (by omega)]
      · have e3 : 2 ^ (7 * (k + 1)) = 128 * 2 ^ (7 * k) := by rw [Nat.mul_add, Nat.pow_add, Nat.mul_comm]
        rw [e3, Nat.add_assoc, ← Nat.mul_assoc, ← Nat.add_mul, Nat.mul_comm (n / 128) 128, Nat.add_comm (n % 128), Nat.div_add_mod]
      · have e4 : 2 ^ (7 * (9 - k)) = 128 * 2 ^ (7 * (9 - (k + 1))) := by
          rw [show 7 * (9 - k) = 7 * (9 - (k + 1)) + 7 by omega, Nat.pow_add, Nat.mul_comm]
        omega
    · rw [List.cons_append, vcont, toNat_of (by omega), if_pos (by omega), Nat.mod_eq_of_lt (by omega)]
      rfl
theorem rvi_intg {above bits n : Nat} {r : Bs} (ha : above + 2 ^ bits ≤ 256) (hm : above % 2 ^ bits = 0) (hn : n < 2 ^ 63) : rvi bits (intg above bits n ++ r) = .ok n r := by
  have hp : 0 < 2 ^ bits := Nat.two_pow_pos bits
  unfold intg
  split
  · rename_i h
    rw [List.cons_append, rvi, toNat_of (by omega), Nat.add_mod, hm, Nat.zero_add, Nat.mod_mod, Nat.mod_eq_of_lt (by omega), if_pos h]
    rfl
  · rename_i h
    rw [List.cons_append, rvi, toNat_of (by omega), Nat.add_mod, hm, Nat.zero_add, Nat.mod_mod, Nat.mod_eq_of_lt (by omega), if_neg (by omega), vcont_digs _ _ 0 _ (by simp; omega) (by omega)]
    congr 1
    simp; omega
theorem intg_head (above bits n : Nat) : ∃ x p, x ≤ 2 ^ bits - 1 ∧ intg above bits n = UInt8.ofNat (above + x) :: p := by
  unfold intg
  split
  · exact ⟨n, [], by omega, rfl⟩
  · exact ⟨_, _, Nat.le_refl _, rfl⟩
theorem digs_len : ∀ (n k : Nat), n < 2 ^ (7 * k) → (digs n).length ≤ k + 1 := by
  intro n
  induction n using Nat.strongRecOn with
  | ind n ih =>
    intro k hn
    rw [digs]
    split
    · cases k with
      | zero => simp at hn; omega
      | succ k =>
        have e4 : 2 ^ (7 * (k + 1)) = 128 * 2 ^ (7 * k) := by rw [Nat.mul_add, Nat.pow_add, Nat.mul_comm]
        have := ih (n / 128) (by omega) k (by omega)
        simp; omega
    · simp

/-- Reading a size update. -/
theorem pRepr_upd {s : St} {n : Nat} (hn : n < 2 ^ 63) (hf : s.first = true) (r : Bs) : pRepr s (intg 32 5 n ++ r) = if s.allowed < n then .bad .coding else .ok (evict n s.ents) n none r := by
  have h := rvi_intg (above := 32) (bits := 5) (n := n) (r := r) (by decide) (by decide) hn
  obtain ⟨x, p, hx, e⟩ := intg_head 32 5 n
  rw [e, List.cons_append] at h ⊢
  rw [pRepr, toNat_of (by simp at hx; omega), if_neg (by simp at hx; omega), if_neg (by simp at hx; omega), if_neg (by omega), if_neg (by omega), pUpd, h, hf]
  simp
theorem intg_ne (above bits n : Nat) : intg above bits n ≠ [] := by
  obtain ⟨x, p, -, e⟩ := intg_head above bits n
  rw [e]; simp

def tooCmds (a n : Nat) : List Cmd := [.allow a, .write (intg 32 5 n), .close]
theorem wr_nil : ∀ (k : Nat) (s : St) (out : List Fld), wr k s out [] = ⟨s, out, [], none⟩
  | 0, _, _ => rfl
  | _ + 1, _, _ => rfl
theorem tooLarge_rd (size a n : Nat) (hn : n < 2 ^ 63) : rd [] (drun ⟨⟨[], size, size, true, true⟩, []⟩ (tooCmds a n)) = ([], if a < n then some .coding else none) := by
  have h := pRepr_upd (s := ⟨[], size, a, true, true⟩) hn rfl []
  rw [List.append_nil] at h
  obtain ⟨x, p, -, e⟩ := intg_head 32 5 n
  have hw : write ⟨[], size, a, true, true⟩ [] (intg 32 5 n) = if a < n then ⟨⟨[], size, a, true, false⟩, [], [], some .coding⟩ else ⟨⟨[], n, a, true, false⟩, [], [], none⟩ := by
    rw [write, if_neg (intg_ne _ _ _), List.nil_append]
    rw [e] at h ⊢
    rw [List.length_cons, wr, h]
    by_cases hc : a < n
    · simp only [hc, if_true]
    · simp only [hc, if_false, wr_nil, evict]; rfl
  simp only [tooCmds, drun, dstep, hw, rd]
  by_cases hc : a < n
  · simp [hc]
  · simp [hc, close]
end Go.Proofs.YtmlnmllnlekcgaaDoor.HD
/-
  PLAIN: what is read of a block does not hang on what stands behind it: cuts; a decoder that must not emit. No program in sight.
-/
namespace Go.Proofs.YtmlnmllnlekcgaaDoor.HD

def VI.ext (x : Bs) : VI → VI
  | .ok i r => .ok i (r ++ x)
  | o => o
def RS.ext (x : Bs) : RS → RS
  | .ok h b r => .ok h b (r ++ x)
  | o => o
def P1.ext (x : Bs) : P1 → P1
  | .ok e m o r => .ok e m o (r ++ x)
  | o => o
theorem vcont_ext (x : Bs) : ∀ (p : Bs) (i m : Nat), vcont p i m ≠ .more → vcont (p ++ x) i m = (vcont p i m).ext x
  | [], _, _, h => absurd rfl h
  | b :: p, i, m, h => by
    rw [vcont] at h
    rw [List.cons_append, vcont, vcont]
    split
    · rfl
    · split
      · rfl
      · rename_i h1 h2
        rw [if_neg h1, if_neg h2] at h
        exact vcont_ext x p _ _ h
theorem rvi_ext (x : Bs) (n : Nat) (p : Bs) (h : rvi n p ≠ .more) : rvi n (p ++ x) = (rvi n p).ext x := by
  cases p with
  | nil => exact absurd rfl h
  | cons b p =>
    rw [rvi] at h
    rw [List.cons_append, rvi, rvi]
    split
    · rfl
    · rename_i h1
      rw [if_neg h1] at h
      exact vcont_ext x p _ _ h
theorem rstr_ext (x v : Bs) (h : rstr v ≠ .more) : rstr (v ++ x) = (rstr v).ext x := by
  cases v with
  | nil => exact absurd rfl h
  | cons c p =>
    rw [rstr] at h
    rw [List.cons_append, rstr, ← List.cons_append]
    cases hr : rvi 7 (c :: p) with
    | more => rw [hr] at h; exact absurd rfl h
    | over =>
      rw [rvi_ext x 7 _ (by rw [hr]; simp), hr, rstr, hr]; rfl
    | ok n rest =>
      rw [hr] at h
      dsimp only at h
      by_cases hn : rest.length < n
      · rw [if_pos hn] at h; exact absurd rfl h
      · rw [rvi_ext x 7 _ (by rw [hr]; simp), hr, rstr, hr]
        simp only [VI.ext]
        rw [if_neg (by simp; omega), if_neg hn, List.take_append_of_le_length (by omega), List.drop_append_of_le_length (by omega)]
        rfl
theorem pVal_ext (x : Bs) (s : St) (idx sens : Bool) (nm : Sum Bs (Bool × Bs)) (v : Bs) (h : pVal s idx sens nm v ≠ .more) : pVal s idx sens nm (v ++ x) = (pVal s idx sens nm v).ext x := by
  unfold pVal at h ⊢
  cases hr : rstr v with
  | more => rw [hr] at h; exact absurd rfl h
  | over => rw [rstr_ext x v (by rw [hr]; simp), hr]; rfl
  | ok hh b rest =>
    rw [rstr_ext x v (by rw [hr]; simp), hr]
    simp only [RS.ext]
    split
    · split
      · rfl
      · split <;> rfl
    · rfl
theorem pLit_ext (x : Bs) (s : St) (n : Nat) (idx sens : Bool) (v : Bs) (h : pLit s n idx sens v ≠ .more) : pLit s n idx sens (v ++ x) = (pLit s n idx sens v).ext x := by
  unfold pLit at h ⊢
  cases hr : rvi n v with
  | more => rw [hr] at h; exact absurd rfl h
  | over => rw [rvi_ext x n v (by rw [hr]; simp), hr]; rfl
  | ok i rest =>
    rw [rvi_ext x n v (by rw [hr]; simp), hr]
    rw [hr] at h
    simp only [VI.ext]
    dsimp only at h
    by_cases hi : 0 < i
    · rw [if_pos hi] at h
      rw [if_pos hi, if_pos hi]
      cases he : entAt s.ents i with
      | none => rfl
      | some e =>
        rw [he] at h
        exact pVal_ext x s idx sens _ rest h
    · rw [if_neg hi] at h
      rw [if_neg hi, if_neg hi]
      cases hs : rstr rest with
      | more => rw [hs] at h; exact absurd rfl h
      | over => rw [rstr_ext x rest (by rw [hs]; simp), hs]; rfl
      | ok hh b rest2 =>
        rw [hs] at h
        rw [rstr_ext x rest (by rw [hs]; simp), hs]
        exact pVal_ext x s idx sens _ rest2 h
theorem pIdx_ext (x : Bs) (s : St) (v : Bs) (h : pIdx s v ≠ .more) : pIdx s (v ++ x) = (pIdx s v).ext x := by
  unfold pIdx at h ⊢
  cases hr : rvi 7 v with
  | more => rw [hr] at h; exact absurd rfl h
  | over => rw [rvi_ext x 7 v (by rw [hr]; simp), hr]; rfl
  | ok i rest =>
    rw [rvi_ext x 7 v (by rw [hr]; simp), hr]
    simp only [VI.ext]
    cases entAt s.ents i <;> rfl
theorem pUpd_ext (x : Bs) (s : St) (v : Bs) (h : pUpd s v ≠ .more) : pUpd s (v ++ x) = (pUpd s v).ext x := by
  unfold pUpd at h ⊢
  by_cases hc : s.first = false ∧ 0 < tsize s.ents
  · rw [if_pos hc, if_pos hc]; rfl
  · rw [if_neg hc] at h
    rw [if_neg hc, if_neg hc]
    cases hr : rvi 5 v with
    | more => rw [hr] at h; exact absurd rfl h
    | over => rw [rvi_ext x 5 v (by rw [hr]; simp), hr]; rfl
    | ok i rest =>
      rw [rvi_ext x 5 v (by rw [hr]; simp), hr]
      simp only [VI.ext]
      split <;> rfl
theorem pRepr_ext (x : Bs) (s : St) (v : Bs) (h : pRepr s v ≠ .more) : pRepr s (v ++ x) = (pRepr s v).ext x := by
  cases v with
  | nil => exact absurd rfl h
  | cons b p =>
    rw [pRepr] at h
    rw [List.cons_append, pRepr, pRepr, ← List.cons_append]
    split
    · rename_i h1; rw [if_pos h1] at h; exact pIdx_ext x s _ h
    · rename_i h1
      rw [if_neg h1] at h
      split
      · rename_i h2; rw [if_pos h2] at h; exact pLit_ext x s _ _ _ _ h
      · rename_i h2
        rw [if_neg h2] at h
        split
        · rename_i h3; rw [if_pos h3] at h; exact pLit_ext x s _ _ _ _ h
        · rename_i h3
          rw [if_neg h3] at h
          split
          · rename_i h4; rw [if_pos h4] at h; exact pLit_ext x s _ _ _ _ h
          · rename_i h4; rw [if_neg h4] at h; exact pUpd_ext x s _ h

theorem wr_fuel : ∀ (n m : Nat) (s : St) (out : List Fld) (v : Bs), v.length ≤ n → v.length ≤ m → wr n s out v = wr m s out v
  | n, m, s, out, [], _, _ => by rw [wr_nil, wr_nil]
  | 0, _, _, _, _ :: _, h, _ => by simp at h
  | _ + 1, 0, _, _, _ :: _, _, h => by simp at h
  | n + 1, m + 1, s, out, b :: v, hn, hm => by
    rw [wr, wr]
    cases hr : pRepr s (b :: v) with
    | more => rfl
    | bad e => rfl
    | ok ents max o rest =>
      have := pRepr_len hr
      exact wr_fuel n m _ _ rest (by simp at *; omega) (by simp at *; omega)
/-- Reading bytes, representation by representation. -/
def W (s : St) (out : List Fld) (v : Bs) : WR := wr v.length s out v
theorem W_nil (s : St) (out : List Fld) : W s out [] = ⟨s, out, [], none⟩ := rfl
theorem W_cons (s : St) (out : List Fld) (b : UInt8) (v : Bs) : W s out (b :: v) = match pRepr s (b :: v) with
    | .more => ⟨s, out, b :: v, none⟩
    | .bad e => ⟨{ s with first := false }, out, [], some e⟩
    | .ok ents max o rest => W { s with ents := ents, max := max, first := false } (out ++ o.toList) rest := by
  unfold W
  rw [List.length_cons, wr]
  cases hr : pRepr s (b :: v) with
  | more => rfl
  | bad e => rfl
  | ok ents max o rest =>
    have := pRepr_len hr
    exact wr_fuel _ _ _ _ rest (by simp at *; omega) (Nat.le_refl _)
theorem write_eq {s : St} {save p : Bs} (h : W s [] save = ⟨s, [], save, none⟩) : write s save p = W s [] (save ++ p) := by
  unfold write
  split
  · rename_i hp
    rw [hp, List.append_nil, h]
  · rfl

theorem W_out : ∀ (n : Nat) (s : St) (out : List Fld) (v : Bs), v.length ≤ n → W s out v = { W s [] v with out := out ++ (W s [] v).out }
  | n, s, out, [], _ => by simp [W_nil]
  | 0, _, _, _ :: _, h => by simp at h
  | n + 1, s, out, b :: v, h => by
    rw [W_cons, W_cons]
    cases hr : pRepr s (b :: v) with
    | more => simp
    | bad e => simp
    | ok ents max o rest =>
      have hl := pRepr_len hr
      have hl' : rest.length ≤ n := by simp at *; omega
      dsimp only
      rw [W_out n _ (out ++ o.toList) rest hl', W_out n _ ([] ++ o.toList) rest hl']
      simp
theorem W_ext (x : Bs) : ∀ (n : Nat) (s : St) (out : List Fld) (v : Bs), v.length ≤ n →
    W s out (v ++ x) = match (W s out v).err with
      | some _ => W s out v
      | none => W (W s out v).st (W s out v).out ((W s out v).save ++ x)
  | n, s, out, [], _ => by simp [W_nil]
  | 0, _, _, _ :: _, h => by simp at h
  | n + 1, s, out, b :: v, h => by
    have hc : W s out (b :: v ++ x) = _ := W_cons s out b (v ++ x)
    rw [hc, W_cons s out b v]
    cases hr : pRepr s (b :: v) with
    | more =>
      dsimp only
      rw [← hc]
    | bad e =>
      rw [← List.cons_append, pRepr_ext x s (b :: v) (by rw [hr]; simp), hr]
      rfl
    | ok ents max o rest =>
      have hl := pRepr_len hr
      rw [← List.cons_append, pRepr_ext x s (b :: v) (by rw [hr]; simp), hr]
      exact W_ext x n _ _ rest (by simp at *; omega)
/-- What is kept waits for more. -/
theorem W_save : ∀ (n : Nat) (s : St) (out : List Fld) (v : Bs), v.length ≤ n → (W s out v).err = none → W (W s out v).st [] (W s out v).save = ⟨(W s out v).st, [], (W s out v).save, none⟩
  | n, s, out, [], _, _ => by simp [W_nil]
  | 0, _, _, _ :: _, h, _ => by simp at h
  | n + 1, s, out, b :: v, h, he => by
    rw [W_cons] at he ⊢
    cases hr : pRepr s (b :: v) with
    | more =>
      dsimp only
      rw [W_cons, hr]
    | bad e => rw [hr] at he; cases he
    | ok ents max o rest =>
      have hl := pRepr_len hr
      rw [hr] at he
      exact W_save n _ _ rest (by simp at *; omega) he

/-- A block may be cut into calls of Write. -/
theorem cuts_rd (q : Bs) : ∀ (ps : List Bs) (acc : List Fld) (σ : DS), W σ.st [] σ.save = ⟨σ.st, [], σ.save, none⟩ →
    rd acc (drun σ (ps.map Cmd.write ++ [.write q, .close])) = rd acc (drun σ [.write (ps.flatten ++ q), .close])
  | [], acc, σ, _ => rfl
  | p :: ps, acc, σ, h => by
    have e1 := write_eq (p := p) h
    have e2 : write σ.st σ.save (p ++ (ps.flatten ++ q)) = W σ.st [] (σ.save ++ p ++ (ps.flatten ++ q)) := by
      rw [List.append_assoc]; exact write_eq h
    have hx := W_ext (ps.flatten ++ q) _ σ.st [] (σ.save ++ p) (Nat.le_refl _)
    rw [List.map_cons, List.cons_append, List.flatten_cons, List.append_assoc]
    obtain ⟨r, hr⟩ : ∃ r, r = W σ.st [] (σ.save ++ p) := ⟨_, rfl⟩
    rw [← hr] at e1 hx
    rw [hx] at e2
    cases he : r.err with
    | some e =>
      rw [he] at e2
      simp only [drun, dstep, e1, e2, rd, he]
    | none =>
      rw [he] at e2
      have hs : W r.st [] r.save = ⟨r.st, [], r.save, none⟩ := by
        rw [hr]; exact W_save _ _ _ _ (Nat.le_refl _) (by rw [← hr]; exact he)
      have ih := cuts_rd q ps (acc ++ r.out) ⟨r.st, r.save⟩ hs
      have e3 := write_eq (p := ps.flatten ++ q) hs
      have e4 := W_out _ r.st r.out (r.save ++ (ps.flatten ++ q)) (Nat.le_refl _)
      dsimp only at e2
      rw [e4] at e2
      obtain ⟨r2, hr2⟩ : ∃ r2, r2 = W r.st [] (r.save ++ (ps.flatten ++ q)) := ⟨_, rfl⟩
      rw [← hr2] at e2 e3
      have l : rd acc (drun σ (.write p :: (ps.map Cmd.write ++ [.write q, .close]))) = rd (acc ++ r.out) (drun ⟨r.st, r.save⟩ (ps.map Cmd.write ++ [.write q, .close])) := by
        rw [drun]
        simp only [dstep, e1, rd, he]
      rw [l, ih]
      simp only [drun, dstep, e2, e3, rd, List.append_assoc]

/-! ### A decoder that must not emit -/
def St.quiet (s : St) : St := { s with on := false }
def P1.quiet : P1 → P1
  | .ok e m _ r => .ok e m none r
  | o => o
theorem pVal_quiet (s : St) (hs : s.on = true) (idx sens : Bool) (nm : Sum Bs (Bool × Bs)) (v : Bs) (h : ∀ e, pVal s idx sens nm v ≠ .bad e) : pVal s.quiet idx sens nm v = (pVal s idx sens nm v).quiet := by
  unfold pVal at h ⊢
  cases hr : rstr v with
  | more => rfl
  | over => rfl
  | ok hh b rest =>
    rw [hr] at h
    simp only [St.quiet, hs, Bool.true_or, if_true, Bool.false_or] at h ⊢
    cases nm with
    | inl n =>
      dsimp only at h ⊢
      cases h2 : dstr hh b with
      | none => rw [h2] at h; exact absurd rfl (h .huff)
      | some y => cases idx <;> simp [pEnd, tell, P1.quiet]
    | inr q =>
      obtain ⟨h0, b0⟩ := q
      dsimp only at h ⊢
      cases h1 : dstr h0 b0 with
      | none => rw [h1] at h; exact absurd rfl (h .huff)
      | some n =>
        rw [h1] at h
        dsimp only at h ⊢
        cases h2 : dstr hh b with
        | none => rw [h2] at h; exact absurd rfl (h .huff)
        | some y => cases idx <;> simp [pEnd, tell, P1.quiet]
theorem pLit_quiet (s : St) (hs : s.on = true) (n : Nat) (idx sens : Bool) (v : Bs) (h : ∀ e, pLit s n idx sens v ≠ .bad e) : pLit s.quiet n idx sens v = (pLit s n idx sens v).quiet := by
  unfold pLit at h ⊢
  cases hr : rvi n v with
  | more => rfl
  | over => rfl
  | ok i rest =>
    rw [hr] at h
    dsimp only at h ⊢
    by_cases hi : 0 < i
    · rw [if_pos hi] at h
      rw [if_pos hi, if_pos hi]
      show (match entAt s.ents i with | none => _ | some e => _) = _
      cases he : entAt s.ents i with
      | none => rfl
      | some e =>
        rw [he] at h
        exact pVal_quiet s hs idx sens _ rest h
    · rw [if_neg hi] at h
      rw [if_neg hi, if_neg hi]
      cases hr2 : rstr rest with
      | more => rfl
      | over => rfl
      | ok hh b rest2 =>
        rw [hr2] at h
        exact pVal_quiet s hs idx sens _ rest2 h
theorem pIdx_quiet (s : St) (v : Bs) : pIdx s.quiet v = (pIdx s v).quiet := by
  unfold pIdx
  cases hr : rvi 7 v with
  | more => rfl
  | over => rfl
  | ok i rest =>
    show (match entAt s.ents i with | none => _ | some e => _) = _
    dsimp only
    cases he : entAt s.ents i <;> rfl
theorem pUpd_quiet (s : St) (v : Bs) : pUpd s.quiet v = (pUpd s v).quiet := by
  unfold pUpd
  show (if s.first = false ∧ 0 < tsize s.ents then _ else _) = _
  split
  · rfl
  · cases hr : rvi 5 v with
    | more => rfl
    | over => rfl
    | ok i rest =>
      show (if s.allowed < i then _ else _) = _
      dsimp only
      split <;> rfl
theorem pRepr_quiet (s : St) (hs : s.on = true) (v : Bs) (h : ∀ e, pRepr s v ≠ .bad e) : pRepr s.quiet v = (pRepr s v).quiet := by
  cases v with
  | nil => rfl
  | cons b p =>
    rw [pRepr] at h ⊢
    rw [pRepr]
    split
    · exact pIdx_quiet s _
    · rename_i h1
      rw [if_neg h1] at h
      split
      · rename_i h2; rw [if_pos h2] at h; exact pLit_quiet s hs _ _ _ _ h
      · rename_i h2
        rw [if_neg h2] at h
        split
        · rename_i h3; rw [if_pos h3] at h; exact pLit_quiet s hs _ _ _ _ h
        · rename_i h3
          rw [if_neg h3] at h
          split
          · rename_i h4; rw [if_pos h4] at h; exact pLit_quiet s hs _ _ _ _ h
          · exact pUpd_quiet s _
theorem W_quiet : ∀ (n : Nat) (s : St) (out : List Fld) (v : Bs), v.length ≤ n → s.on = true → (W s out v).err = none →
    W s.quiet [] v = ⟨(W s out v).st.quiet, [], (W s out v).save, none⟩ ∧ (W s out v).st.on = true
  | n, s, out, [], _, hs, _ => ⟨by simp [W_nil], hs⟩
  | 0, _, _, _ :: _, h, _, _ => by simp at h
  | n + 1, s, out, b :: v, h, hs, he => by
    rw [W_cons] at he ⊢
    cases hr : pRepr s (b :: v) with
    | more =>
      rw [W_cons, pRepr_quiet s hs _ (by rw [hr]; simp), hr]
      exact ⟨rfl, hs⟩
    | bad e => rw [hr] at he; cases he
    | ok ents max o rest =>
      have hl := pRepr_len hr
      rw [hr] at he
      rw [W_cons, pRepr_quiet s hs _ (by rw [hr]; simp), hr]
      exact W_quiet n { s with ents := ents, max := max, first := false } _ rest (by simp at *; omega) hs he
end Go.Proofs.YtmlnmllnlekcgaaDoor.HD
