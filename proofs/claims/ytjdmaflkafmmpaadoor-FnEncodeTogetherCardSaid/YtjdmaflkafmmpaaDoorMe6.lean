/-
  Texts of this seat, one behind the other: EWrite, ESet, Init0, ENew. What each one shows stands at its head. No condition.
-/
import Derived.Test.YtjdmaflkafmmpaaDoorMe5
import Derived.Deep.Cut
/-
  The contract of WriteField.
-/
namespace Go.Proofs.YtjdmaflkafmmpaaDoor
open Go.ChangeShapes Go.WideShapes Go.ChangeAt Go.RowKit

theorem own_reset0 {w : World} {B n cap : Nat} {a : Option Addr} {xs : List Value} (h : w.ownsRow B 5 1 (.slice a n cap) n xs) : w.ownsRow B 5 1 (.slice a 0 cap) 0 [] := by
  rcases h.2 with ⟨e, h0⟩ | ⟨g', cap', cur, e, hB, hg, h1, h2, h3, h4⟩
  · injection e with e1 e2 e3
    subst e1; subst e3
    exact World.ownsRow_nil _ _ _ _
  · injection e with e1 e2 e3
    subst e1; subst e3
    exact ⟨rfl, Or.inr ⟨g', cap, cur, rfl, hB, hg, Nat.zero_le _, h2, h3, by simp⟩⟩
theorem EMid.start {B : Nat} {w : World} {d sk : Nat} {fl : HD.Fld} {s : HD.ES} {p : EP} {a : Option Addr} {n cap : Nat} {xs : List Value} (h : EncAt B w d sk s p) (hb : w.ownsRow B 5 1 (p.f 12) n xs) (hv : p.f 12 = .slice a n cap) :
    EMid B w ((w.alloc (.cells #[.string ⟨fl.name.toArray⟩, .string ⟨fl.value.toArray⟩, .bool fl.sens] 57)).setCell ⟨d, 12, none⟩ (.slice a 0 cap)) d sk fl s p { p with f := putF p.f 12 (.slice a 0 cap) } [] := by
  have hb0 : Below w.heap.size w (w.alloc (.cells #[.string ⟨fl.name.toArray⟩, .string ⟨fl.value.toArray⟩, .bool fl.sens] 57)) := (Below.refl _ w).alloc (Nat.le_refl _) _
  have hE := h.frame (w' := w.alloc (.cells #[.string ⟨fl.name.toArray⟩, .string ⟨fl.value.toArray⟩, .bool fl.sens] 57)) fun k hk => hb0.block k (h.tab.own_lt hk)
  have hr := hE.tab.row.set 12 (.slice a 0 cap)
  have hf : ∀ i, i < 12 → putF p.f 12 (.slice a 0 cap) i = p.f i := fun i hi => by simp only [putF]; rw [if_neg (by omega)]
  have hT := hE.tab.write (cnt' := p.cnt) hr (fun i _ hi => other_set hi) ((hf 0 (by decide)).trans h.tab.c0) ((hf 1 (by decide)).trans h.tab.c1) ((hf 2 (by decide)).trans h.tab.c2) ((hf 3 (by decide)).trans h.tab.c3) ((hf 4 (by decide)).trans h.tab.c4)
  have hdl := h.tab.row.lt
  have hdn : d ≠ w.heap.size := Nat.ne_of_lt hdl
  have hbx := boxS.new w fl
  have h12 : putF p.f 12 (.slice a 0 cap) 12 = .slice a 0 cap := by simp [putF]
  have hob : ∀ k, (p.f 12).ownBlock = some k ↔ (Value.slice a 0 cap).ownBlock = some k := fun k => by rw [hv]; cases a <;> rfl
  have hnd : ∀ k, (p.f 12).ownBlock = some k → k ≠ d := fun k hk e => by
    obtain ⟨c, fz, hkk⟩ := Lib.ownsRow_kind hb k hk
    exact tab_not_u8 h.tab hkk (Or.inl e)
  rw [hv] at hb
  have hb1 := own_reset0 (ownsRow_of_heap (w' := w.alloc (.cells #[.string ⟨fl.name.toArray⟩, .string ⟨fl.value.toArray⟩, .bool fl.sens] 57)) hb fun g hg => hb0.block g (hb.lt g hg).2)
  refine ⟨⟨hT, ⟨(hf 5 (by decide)).trans h.sized.size, (hf 6 (by decide)).trans h.sized.max⟩, (hf 8 (by decide)).trans h.min, (hf 9 (by decide)).trans h.limit, (hf 10 (by decide)).trans h.upd, (hf 11 (by decide)).trans h.out, h.maps⟩, ?_, ?_, Nat.le_trans h.tab.lo.1 (Nat.le_of_lt hdl), ?_, ?_, rfl, rfl⟩
  · show World.ownsRow _ _ _ _ (putF p.f 12 (.slice a 0 cap) 12) _ _
    rw [h12]
    exact ownsRow_of_heap hb1 fun g hg => other_set (fun e => hnd g ((hob g).2 hg) e.symm)
  · exact ⟨(cell_other hdn).trans hbx.1, (cell_other hdn).trans hbx.2.1, (cell_other hdn).trans hbx.2.2⟩
  · exact ((Upd.refl (fun k => p.own d k) w).alloc _).setCell (Or.inl (Or.inl (Or.inl rfl))) _
  · intro k hk
    have hk' : p.own d k := hk.imp id fun e => (hob k).2 (by rw [← h12]; exact e)
    have hlt : k < w.heap.size := by
      rcases hk' with hk' | hk'
      · exact h.tab.own_lt hk'
      · rw [hv] at hk'; exact (hb.lt k hk').2
    exact ⟨Or.inl hk', Nat.ne_of_lt hlt, by rw [World.size_setCell]; simp; omega⟩

theorem EMid.size {B : Nat} {w w1 : World} {d sk : Nat} {fl : HD.Fld} {s : HD.ES} {p p' : EP} {t : HD.Bs} (h : EMid B w w1 d sk fl s p p' t) : B ≤ w1.heap.size := Nat.le_trans h.lo h.upd.size
theorem EMid.call {B : Nat} {w w1 W : World} {d sk : Nat} {fl : HD.Fld} {s : HD.ES} {p p' : EP} {t T : HD.Bs} {F : FuncId} {args : Array Value} (hM : EMid B w w1 d sk fl s p p' t) (hb : Below w1.heap.size w1 W)
    (h : EMid B w W d sk fl s p p' t → Calls Tryd.prog F args W (App B t.length (Lib.byteCells t) (p'.f 12) W T)) :
    Calls Tryd.prog F args W fun e w2 => ∃ a2 N2 c2, e = .returned (.slice a2 N2 c2) ∧ N2 = (t ++ T).length ∧ Row w2 d 13 p'.f ∧ EMid B w (w2.setCell ⟨d, 12, none⟩ (.slice a2 N2 c2)) d sk fl s p { p' with f := putF p'.f 12 (.slice a2 N2 c2) } (t ++ T) := by
  have hM' := hM.move hb
  refine (h hM').mono ?_
  rintro e w2 ⟨v2, rfl, hown, hg⟩
  obtain ⟨a2, c2, rfl⟩ := own_form hown
  refine ⟨a2, _, c2, rfl, by rw [List.length_append], ?_, hM'.app hown hg⟩
  exact hM'.enc.tab.row.of_heap (hg.grown.block d hM'.dlt (fun e => hM'.nbuf e.symm (Or.inl rfl)))

theorem tsz_ge (l : List (HD.Bs × HD.Bs)) : 32 * l.length ≤ HD.tsize l := by
  induction l with
  | nil => simp
  | cons e l ih => rw [HD.tsize_cons]; simp [HD.esize]; omega
theorem eupd_le (s : HD.ES) (h : HD.ESOk s) : (HD.eupd s).length ≤ 22 := by
  have h1 := HD.intg_le (above := 32) (bits := 5) (n := s.min) (by have := h.min; omega)
  have h2 := HD.intg_le (above := 32) (bits := 5) (n := s.max) (by have := h.max; omega)
  unfold HD.eupd
  split
  · split <;> simp <;> omega
  · simp
theorem eupd_part (s : HD.ES) (h : s.min < 2 ^ 32) : ([] ++ HD.intg 32 5 s.min).length ≤ 2 ^ 40 ∧ ([] : HD.Bs).length ≤ 2 ^ 40 := by
  have := HD.intg_le (above := 32) (bits := 5) (n := s.min) (by omega)
  rw [List.nil_append]
  exact ⟨by omega, by simp⟩

theorem EMid.added {B : Nat} {w w1 w2 : World} {d sk q : Nat} {fl : HD.Fld} {s : HD.ES} {p p' : EP} {t : HD.Bs} {ev' : Value} {f' : Nat → Value} (h : EMid B w w1 d sk fl s p p' t) (e : HD.Bs × HD.Bs) (he : HD.evict s.max (s.ents ++ [e]) = (s.ents ++ [e]).drop q)
    (hev : ev'.ownBlock = p'.ev.ownBlock ∨ ∃ g, ev'.ownBlock = some g ∧ w1.heap.size ≤ g) (hf : ∀ i, 6 ≤ i → f' i = p'.f i) (hS : Sized f' (HD.evict s.max (s.ents ++ [e])) s.max)
    (hT : TabMem B w2 d 13 f' (HD.evict s.max (s.ents ++ [e])) (p'.cnt + q) ev' p'.m1 p'.m2 (delS (p'.cnt + 1) ((s.ents ++ [e]).take q) (mput p'.l1 e.1 (s.ents.length + p'.cnt + 1))) (delP (p'.cnt + 1) ((s.ents ++ [e]).take q) (mput p'.l2 e (s.ents.length + p'.cnt + 1))))
    (hu : Upd (tabOwn d p'.ev p'.m1 p'.m2) w1 w2) :
    EMid B w w2 d sk fl { s with ents := HD.evict s.max (s.ents ++ [e]) } p ⟨f', p'.cnt + q, ev', p'.m1, p'.m2, delS (p'.cnt + 1) ((s.ents ++ [e]).take q) (mput p'.l1 e.1 (s.ents.length + p'.cnt + 1)), delP (p'.cnt + 1) ((s.ents ++ [e]).take q) (mput p'.l2 e (s.ents.length + p'.cnt + 1))⟩ t := by
  have hbl : w.heap.size < w1.heap.size := World.block_lt_of_cell? w1 _ h.box.1
  have hnb : ¬ tabOwn d p'.ev p'.m1 p'.m2 w.heap.size := fun hb => (h.own _ (Or.inl hb)).2.1 rfl
  have hbx := hu.block w.heap.size hbl hnb
  have key : ∀ i, w2.cell? ⟨w.heap.size, i, none⟩ = w1.cell? ⟨w.heap.size, i, none⟩ := fun i => World.cell?_of_block (a := ⟨w.heap.size, i, none⟩) hbx
  refine ⟨⟨hT, hS, (hf 8 (by decide)).trans h.enc.min, (hf 9 (by decide)).trans h.enc.limit, (hf 10 (by decide)).trans h.enc.upd, (hf 11 (by decide)).trans h.enc.out, ?_⟩, ?_, ⟨(key 0).trans h.box.1, (key 1).trans h.box.2.1, (key 2).trans h.box.2.2⟩, h.lo, ?_, ?_, h.m⟩
  · show MOk _ (HD.evict s.max (s.ents ++ [e])) _ _
    rw [he]
    exact (h.enc.maps.add e).drop q
  · show World.ownsRow _ _ _ _ (f' 12) _ _
    rw [hf 12 (by decide)]
    exact ownsRow_of_heap h.buf fun g hg => hu.block g (h.buf.lt g hg).2 (h.nbuf hg)
  · exact h.upd.trans hu fun i hi ho => by
      rcases (h.own i (Or.inl ho)).1 with h1 | h1
      · exact h1
      · omega
  · intro k hk
    rcases hk with hk | hk
    · rcases hk with rfl | hk | rfl | rfl
      · have := h.own k (Or.inl (Or.inl rfl)); exact ⟨this.1, this.2.1, Nat.lt_of_lt_of_le this.2.2 hu.size⟩
      · have hlt := (hT.own.lt k hk).2
        rcases hev with e2 | ⟨g, e2, hg⟩
        · have := h.own k (Or.inl (Or.inr (Or.inl (by rw [← e2]; exact hk)))); exact ⟨this.1, this.2.1, hlt⟩
        · rw [e2] at hk
          obtain rfl := Option.some.inj hk
          exact ⟨Or.inr (by omega), by omega, hlt⟩
      · have := h.own p'.m1 (Or.inl (Or.inr (Or.inr (Or.inl rfl)))); exact ⟨this.1, this.2.1, Nat.lt_of_lt_of_le this.2.2 hu.size⟩
      · have := h.own p'.m2 (Or.inl (Or.inr (Or.inr (Or.inr rfl)))); exact ⟨this.1, this.2.1, Nat.lt_of_lt_of_le this.2.2 hu.size⟩
    · have hk' : (p'.f 12).ownBlock = some k := by rw [← hf 12 (by decide)]; exact hk
      have := h.own k (Or.inr hk'); exact ⟨this.1, this.2.1, Nat.lt_of_lt_of_le this.2.2 hu.size⟩

theorem method_writeE (a : Addr) (w : World) : (method 274 48 (.pointer (some a)) "Write").run Tryd.prog w = .ok (104, .pointer (some a)) w := by kernel_rfl
theorem own_base {w : World} {B B' e size n : Nat} {v : Value} {xs : List Value} (h : w.ownsRow B e size v n xs) (hB : B' ≤ B) : w.ownsRow B' e size v n xs :=
  ⟨h.1, h.2.imp id fun ⟨g, cap, cur, e1, hg, r⟩ => ⟨g, cap, cur, e1, Nat.le_trans hB hg, r⟩⟩
theorem own_not_sink {B : Nat} {w : World} {d sk : Nat} {s : HD.ES} {p : EP} {n : Nat} {xs cs : List Value} {fz : Nat × Nat} (hE : EncAt B w d sk s p) (hb : w.ownsRow B 5 1 (p.f 12) n xs) (hsk : w.heap[sk]? = some (.cells cs.toArray 50 fz)) (hsd : sk ≠ d) : ¬ p.own d sk := by
  rintro ((h | h | h | h) | h)
  · exact hsd h
  · obtain ⟨c, fz', hk⟩ := Lib.ownsRow_kind hE.tab.own sk h
    rw [hsk] at hk; injection hk with hk; injection hk with _ hk _; exact absurd hk (by decide)
  · obtain ⟨_, es, c, hm, -⟩ := hE.tab.map1
    rw [← h, hsk] at hm; injection hm with hm; cases hm
  · obtain ⟨_, es, c, hm, -⟩ := hE.tab.map2
    rw [← h, hsk] at hm; injection hm with hm; cases hm
  · obtain ⟨c, fz', hk⟩ := Lib.ownsRow_kind hb sk h
    rw [hsk] at hk; injection hk with hk; injection hk with _ hk _; exact absurd hk (by decide)
/-- What the sink has taken: the bytes t, by one call. -/
def SinkHas (n0 : Nat) (w : World) (sk : Nat) (t : HD.Bs) (X : Nat → Prop) : Prop :=
  ∃ a cap, w.heap[sk]? = some (.cells #[.slice a t.length cap, .int .i64 1] 50 (0, 0)) ∧ w.ownsRow n0 5 1 (.slice a t.length cap) t.length (Lib.byteCells t) ∧ ∀ g, (Value.slice a t.length cap).ownBlock = some g → ¬ X g
/-- How WriteField ends. -/
def WFEnds (B : Nat) (w : World) (d sk : Nat) (fl : HD.Fld) (s : HD.ES) (p : EP) (e : Ending) (w' : World) : Prop :=
  e = .returned .nilIface ∧ ∃ (m : Bool) (i : Nat) (p' : EP), HD.Found s.ents fl m i ∧ EncAt B w' d sk (HD.efs s fl m) p' ∧ (∃ n xs, w'.ownsRow B 5 1 (p'.f 12) n xs) ∧
    SinkHas w.heap.size w' sk (HD.eupd s ++ HD.efld m i (HD.eidx s fl) fl) (fun k => p'.own d k) ∧ Upd (fun k => p.own d k ∨ k = sk) w w' ∧ (∀ k, p'.own d k → (p.own d k ∨ w.heap.size ≤ k) ∧ k < w'.heap.size) ∧
    p'.cnt + (HD.efs s fl m).ents.length ≤ p.cnt + s.ents.length + 1

set_option maxHeartbeats 4000000 in
set_option maxRecDepth 100000 in
theorem writeField_any (B : Nat) (w : World) (d sk : Nat) (fl : HD.Fld) (s : HD.ES) (p : EP) (hE : EncAt B w d sk s p) (hbuf : ∃ n xs, w.ownsRow B 5 1 (p.f 12) n xs) (hok : HD.ESOk s) (hcnt : p.cnt + s.ents.length + 1 < 2 ^ 62)
    (hsk : w.heap[sk]? = some (.cells #[.slice none 0 0, .int .i64 0] 50 (0, 0))) (hsd : sk ≠ d) (hG : 5 < B ∧ 6 < B) (ht : LenTab w) (hc : CodeTab w) (hfl : fl.name.length + fl.value.length ≤ 1048576) :
    Calls Tryd.prog 26 #[.pointer (some ⟨d, 0, none⟩), .agg #[.string ⟨fl.name.toArray⟩, .string ⟨fl.value.toArray⟩, .bool fl.sens]] w (WFEnds B w d sk fl s p) := by
  obtain ⟨n0, xs0, hb0⟩ := hbuf
  obtain ⟨a0, c0, hv0⟩ := own_form hb0
  have hM := EMid.start (fl := fl) hE hb0 hv0
  have c12 := hE.tab.row.cell' (i := 12) (by decide) hv0
  have fz := fun i => hE.tab.row.unfrozen i none
  have hdl := hE.tab.row.lt
  have hcap : n0 ≤ c0 ∧ c0 ≤ maxLen := by
    rw [hv0] at hb0
    rcases hb0.2 with ⟨e, h0⟩ | ⟨g', cap', cur, e, hB, hg, h1, h2, h3, h4⟩
    · injection e with _ _ e3; subst e3; exact ⟨by omega, Nat.zero_le _⟩
    · injection e with _ _ e3; subst e3; exact ⟨h1, h2⟩
  have hnil : a0 = none → n0 = 0 ∧ c0 = 0 := fun e => by
    rw [hv0] at hb0
    rcases hb0.2 with ⟨e1, h0⟩ | ⟨g', cap', cur, e1, -⟩
    · injection e1 with _ e2 e3; exact ⟨e2, e3⟩
    · injection e1 with e1; rw [e] at e1; cases e1
  have hge : ∀ k, p.own d k → B ≤ k := fun k hk => hk.elim hE.tab.own_ge fun e => (hb0.lt k e).1
  have Hge := Lib.hid hge
  have Hns := Lib.hid (own_not_sink (cs := [.slice none 0 0, .int .i64 0]) hE hb0 hsk hsd)
  have HM := Lib.hid hM
  have HE := Lib.hid hE
  have Hsk := Lib.hid hsk
  have HG := Lib.hid hG
  have Ht := Lib.hid ht
  have Hc := Lib.hid hc
  have Hok := Lib.hid hok
  have Hnil := Lib.hid hnil
  clear hb0 hv0 hM hE hsk hG ht hc hok hnil hge
  go_enter Tryd.func26, Tryd.ntmps26
  go_upto_region 1 with (fail)
  obtain ⟨W0, hW0⟩ : ∃ W0, W0 = w.alloc (.cells #[.string ⟨fl.name.toArray⟩, .string ⟨fl.value.toArray⟩, .bool fl.sens] 57) := ⟨_, rfl⟩
  have hbw : Below w.heap.size w W0 := by rw [hW0]; exact (Below.refl _ w).alloc (Nat.le_refl _) _
  rw [← hW0] at HM ⊢
  have c12 := (hbw.cell (p := ⟨d, 12, none⟩) hdl).trans c12
  have fz := fun i => (hbw.frozen (p := ⟨d, i, none⟩) hdl).trans (fz i)
  clear hW0 hbw
  go_cut [4] from 10 (fun v4 wx => v4 = .nilIface ∧ ∃ p', EMid B w wx d sk fl s p p' [] ∧ p'.cnt = p.cnt)
  case first =>
    cases a0 with
    | none =>
      obtain ⟨rfl, rfl⟩ := Hnil.out rfl
      go_wp2_with fail
      go_meet
      exact ⟨rfl, _, HM.out, rfl⟩
    | some ad =>
      go_wp2_with fail
      go_meet
      exact ⟨rfl, _, HM.out, rfl⟩
  case rest =>
    obtain ⟨rfl, p1, hM1, hp1⟩ := hcut
    obtain ⟨N1, hN1⟩ : ∃ N, N = ([] : HD.Bs).length := ⟨_, rfl⟩
    obtain ⟨va1, vc1, hv1⟩ := own_form hM1.buf
    rw [← hN1] at hv1
    have q6 := hM1.enc.tab.row.cell' (i := 6) (by decide) hM1.enc.sized.max
    have q8 := hM1.enc.tab.row.cell' (i := 8) (by decide) hM1.enc.min
    have q10 := hM1.enc.tab.row.cell' (i := 10) (by decide) hM1.enc.upd
    have q12 := hM1.enc.tab.row.cell' (i := 12) (by decide) hv1
    have qf := fun i => hM1.enc.tab.row.unfrozen i none
    have HN1 := Lib.hid hN1
    have Hv1 := Lib.hid hv1
    clear hN1 hv1
    have HM1 := Lib.hid hM1
    have Hp1 := Lib.hid hp1
    clear hM1 hp1
    obtain ⟨up, hup⟩ : ∃ b, b = s.upd := ⟨_, rfl⟩
    rw [← hup] at q10
    have Hup := Lib.hid hup
    clear hup
    go_upto_if 21 with (fail)
    go_cut [4] from 22 (fun v4 wx => v4 = .nilIface ∧ ∃ p', EMid B w wx d sk fl (HD.esent s) p p' (HD.eupd s) ∧ p'.cnt = p.cnt)
    case first =>
      cases up with
      | false =>
        go_wp2_with fail
        go_meet
        have h0 : s.upd = false := Hup.out.symm
        have e1 : HD.esent s = s := by unfold HD.esent; rw [h0]; cases s; simp_all
        have e2 : HD.eupd s = [] := by unfold HD.eupd; rw [h0]; rfl
        rw [e1, e2]
        exact ⟨rfl, p1, HM1.out, Hp1.out⟩
      | true =>
        go_upto_region 4 with (fail)
        have hM3 := HM1.out.put (s' := { s with upd := false }) 10 (.bool false) (by decide) rfl rfl (by simp [putF, HM1.out.enc.min]) (by simp [putF, HM1.out.enc.limit]) (by simp [putF]) (by simp [putF])
        generalize wc.setCell ⟨d, 10, none⟩ (.bool false) = W3 at hM3 ⊢
        clear q6 q8 q10 q12 qf
        obtain ⟨N3, hN3⟩ : ∃ N, N = ([] : HD.Bs).length := ⟨_, rfl⟩
        obtain ⟨va3, vc3, hv3⟩ := own_form hM3.buf
        rw [← hN3] at hv3
        have q6 := hM3.enc.tab.row.cell' (i := 6) (by decide) hM3.enc.sized.max
        have q8 := hM3.enc.tab.row.cell' (i := 8) (by decide) hM3.enc.min
        have q10 := hM3.enc.tab.row.cell' (i := 10) (by decide) hM3.enc.upd
        have q12 := hM3.enc.tab.row.cell' (i := 12) (by decide) hv3
        have qf := fun i => hM3.enc.tab.row.unfrozen i none
        have HN3 := Lib.hid hN3
        have Hv3 := Lib.hid hv3
        clear hN3 hv3
        have HM3 := Lib.hid hM3
        clear hM3
        have hmx := Hok.out.max
        have hmi := Hok.out.min
        by_cases hmn : s.min < s.max
        · have hmnI : (s.min : Int) < (s.max : Int) := by omega
          go_quiet (fail)
          go_wp2_with fail
          refine wp_region_held_drew (S := (fun w' => w'.cell? ⟨d, 8, none⟩ = some (.int .u32 (s.min : Nat)))) (by kernel_rfl) ((by exact q8)) (fun hHeld => ?_)
          refine takeH 0 (v := ?_) rfl rfl (by kernel_rfl) (by kernel_rfl) (by kernel_rfl) (fun _ _ _ h => h) (Or.inl ⟨by rfl, ?_⟩) (by assumption) ?_
          rotate_left
          · (intro w hSw; (try dsimp only at hSw); go_simp <;> with_reducible rfl)
          simp only [List.setIfInBounds_toArray, List.set_cons_zero, List.set_cons_succ]
          refine takeH 1 (v := ?_) rfl rfl (by kernel_rfl) (by kernel_rfl) (by kernel_rfl) (fun _ _ _ h => h) (Or.inl ⟨by rfl, ?_⟩) (by assumption) ?_
          rotate_left
          · (intro w hSw; (try dsimp only at hSw); go_simp <;> with_reducible rfl)
          simp only [List.setIfInBounds_toArray, List.set_cons_zero, List.set_cons_succ]
          refine takeH 2 (v := ?_) rfl rfl (by kernel_rfl) (by kernel_rfl) (by kernel_rfl) (fun _ _ _ h => h) (Or.inl ⟨by rfl, ?_⟩) (by assumption) ?_
          rotate_left
          · (intro w hSw; (try dsimp only at hSw); go_simp <;> with_reducible rfl)
          simp only [List.setIfInBounds_toArray, List.set_cons_zero, List.set_cons_succ]
          refine takeH 3 (v := ?_) rfl rfl (by kernel_rfl) (by kernel_rfl) (by kernel_rfl) (fun _ _ _ h => h) (Or.inl ⟨by rfl, ?_⟩) (by assumption) ?_
          rotate_left
          · (intro w hSw; (try dsimp only at hSw); go_simp <;> with_reducible rfl)
          simp only [List.setIfInBounds_toArray, List.set_cons_zero, List.set_cons_succ]
          refine takeH 5 (v := ?_) rfl rfl (by kernel_rfl) (by kernel_rfl) (by kernel_rfl) (fun _ _ _ h => h) (Or.inl ⟨by rfl, ?_⟩) (by assumption) ?_
          rotate_left
          · (intro w hSw; (try dsimp only at hSw); go_simp <;> with_reducible rfl)
          simp only [List.setIfInBounds_toArray, List.set_cons_zero, List.set_cons_succ]
          refine takeH 6 (v := ?_) rfl rfl (by kernel_rfl) (by kernel_rfl) (by kernel_rfl) (fun _ _ _ h => h) (Or.inl ⟨by rfl, ?_⟩) (by assumption) ?_
          rotate_left
          · (intro w hSw; (try dsimp only at hSw); go_simp <;> with_reducible rfl)
          simp only [List.setIfInBounds_toArray, List.set_cons_zero, List.set_cons_succ]
          refine takeH 7 (v := ?_) rfl rfl (by kernel_rfl) (by kernel_rfl) (by kernel_rfl) (fun _ _ _ h => h) (Or.inl ⟨by rfl, ?_⟩) (by assumption) ?_
          rotate_left
          · (intro w hSw; (try dsimp only at hSw); go_simp <;> with_reducible rfl)
          simp only [List.setIfInBounds_toArray, List.set_cons_zero, List.set_cons_succ]
          refine takeH 8 (v := ?_) rfl rfl (by kernel_rfl) (by kernel_rfl) (by kernel_rfl) (fun _ _ _ h => h) (Or.inl ⟨by rfl, ?_⟩) (by assumption) ?_
          rotate_left
          · (intro w hSw; (try dsimp only at hSw); go_simp <;> with_reducible rfl)
          simp only [List.setIfInBounds_toArray, List.set_cons_zero, List.set_cons_succ]
          refine wpAnyH_ready (rs := [4]) (by kernel_rfl) (by simp) ?_
          refine AllReadyH.cons rfl (fun K hK => ?_) AllReadyH.nil
          go_simp
          refine hK.out _ _ (by exact q8) (fun hHeld => ?_)
          clear hK K
          refine wpAnyH_ready (rs := [9]) (by kernel_rfl) (by simp) ?_
          refine AllReadyH.cons rfl (fun K hK => ?_) AllReadyH.nil
          go_simp
          refine (HM3.out.call (by exact ⟨rfl, rfl, rfl, Nat.le_refl _, fun _ _ => rfl⟩) (fun hM' => by rw [show Value.slice va3 N3 vc3 = _ from Hv3.out.symm]; exact tabSize_any B _ _ _ s.min _ hM'.buf hM'.size (by simp) (hmi))).mono ?_
          rintro e w4 ⟨a4, N4, c4, rfl, hN4, hr4, hM4⟩
          have fz4 := fun i => hr4.unfrozen i none
          have e12 := hr4.cell' (i := 12) (by decide) Hv3.out
          have HM4 := Lib.hid hM4
          have HN4 := Lib.hid hN4
          clear hM4 hN4
          have e8 := hr4.cell' (i := 8) (by decide) HM3.out.enc.min
          clear hr4
          refine hK.out _ _ (by exact e8) (fun hHeld => ?_)
          clear hK K
          refine takeH 10 (v := ?_) rfl rfl (by kernel_rfl) (by kernel_rfl) (by kernel_rfl) (fun _ _ _ h => h) (Or.inl ⟨by rfl, ?_⟩) (by assumption) ?_
          rotate_left
          · (intro w hSw; (try dsimp only at hSw); go_simp <;> with_reducible rfl)
          simp only [List.setIfInBounds_toArray, List.set_cons_zero, List.set_cons_succ]
          refine takeH 11 (v := ?_) rfl rfl (by kernel_rfl) (by kernel_rfl) (by kernel_rfl) (fun _ _ _ h => h) (Or.inl ⟨by rfl, ?_⟩) (by assumption) ?_
          rotate_left
          · (intro w hSw; (try dsimp only at hSw); go_simp <;> with_reducible rfl)
          simp only [List.setIfInBounds_toArray, List.set_cons_zero, List.set_cons_succ]
          refine wpAnyH_ready (rs := [12]) (by kernel_rfl) (by simp) ?_
          refine AllReadyH.cons rfl (fun K hK => ?_) AllReadyH.nil
          go_simp
          refine hK.out _ _ (by exact (cell_in (by decide)).trans e8) (fun hHeld => ?_)
          clear hK K
          refine wpAnyH_done (by kernel_rfl) ?_ _
          clear hHeld
          go_upto_region 6 with (fail)
          have hM5 := HM4.out
          generalize w4.setCell ⟨d, 12, none⟩ (.slice a4 N4 c4) = W5 at hM5 ⊢
          clear q6 q8 q10 q12 qf
          obtain ⟨N5, hN5⟩ : ∃ N, N = (([] ++ HD.intg 32 5 s.min) : HD.Bs).length := ⟨_, rfl⟩
          obtain ⟨va5, vc5, hv5⟩ := own_form hM5.buf
          rw [← hN5] at hv5
          have q6 := hM5.enc.tab.row.cell' (i := 6) (by decide) hM5.enc.sized.max
          have q8 := hM5.enc.tab.row.cell' (i := 8) (by decide) hM5.enc.min
          have q10 := hM5.enc.tab.row.cell' (i := 10) (by decide) hM5.enc.upd
          have q12 := hM5.enc.tab.row.cell' (i := 12) (by decide) hv5
          have qf := fun i => hM5.enc.tab.row.unfrozen i none
          have HN5 := Lib.hid hN5
          have Hv5 := Lib.hid hv5
          clear hN5 hv5
          have HM5 := Lib.hid hM5
          clear hM5
          go_upto_region 7 with (fail)
          have hM6 := HM5.out.put (s' := { s with upd := false, min := 4294967295 }) 8 (.int .u32 4294967295) (by decide) rfl rfl (by simp [putF]) (by have := HM5.out.enc.limit; simpa [putF] using this) (by have := HM5.out.enc.upd; first | (simp [putF]; done) | (simp [putF, this]; done)) (by simp [putF])
          generalize W5.setCell ⟨d, 8, none⟩ (.int .u32 4294967295) = W6 at hM6 ⊢
          clear q6 q8 q10 q12 qf
          obtain ⟨N6, hN6⟩ : ∃ N, N = (([] ++ HD.intg 32 5 s.min) : HD.Bs).length := ⟨_, rfl⟩
          obtain ⟨va6, vc6, hv6⟩ := own_form hM6.buf
          rw [← hN6] at hv6
          have q6 := hM6.enc.tab.row.cell' (i := 6) (by decide) hM6.enc.sized.max
          have q8 := hM6.enc.tab.row.cell' (i := 8) (by decide) hM6.enc.min
          have q10 := hM6.enc.tab.row.cell' (i := 10) (by decide) hM6.enc.upd
          have q12 := hM6.enc.tab.row.cell' (i := 12) (by decide) hv6
          have qf := fun i => hM6.enc.tab.row.unfrozen i none
          have HN6 := Lib.hid hN6
          have Hv6 := Lib.hid hv6
          clear hN6 hv6
          have HM6 := Lib.hid hM6
          clear hM6
          have hN6 : N6 ≤ 2 ^ 40 := by rw [HN6.out]; first | exact (eupd_part s hmi).1 | exact (eupd_part s hmi).2
          refine wp_region_held_drew (S := (fun w' => w'.cell? ⟨d, 6, none⟩ = some (.int .u32 (s.max : Nat)))) (by kernel_rfl) ((by exact q6)) (fun hHeld => ?_)
          refine takeH 0 (v := ?_) rfl rfl (by kernel_rfl) (by kernel_rfl) (by kernel_rfl) (fun _ _ _ h => h) (Or.inl ⟨by rfl, ?_⟩) (by assumption) ?_
          rotate_left
          · (intro w hSw; (try dsimp only at hSw); go_simp <;> with_reducible rfl)
          simp only [List.setIfInBounds_toArray, List.set_cons_zero, List.set_cons_succ]
          refine takeH 1 (v := ?_) rfl rfl (by kernel_rfl) (by kernel_rfl) (by kernel_rfl) (fun _ _ _ h => h) (Or.inl ⟨by rfl, ?_⟩) (by assumption) ?_
          rotate_left
          · (intro w hSw; (try dsimp only at hSw); go_simp <;> with_reducible rfl)
          simp only [List.setIfInBounds_toArray, List.set_cons_zero, List.set_cons_succ]
          refine takeH 2 (v := ?_) rfl rfl (by kernel_rfl) (by kernel_rfl) (by kernel_rfl) (fun _ _ _ h => h) (Or.inl ⟨by rfl, ?_⟩) (by assumption) ?_
          rotate_left
          · (intro w hSw; (try dsimp only at hSw); go_simp <;> with_reducible rfl)
          simp only [List.setIfInBounds_toArray, List.set_cons_zero, List.set_cons_succ]
          refine takeH 3 (v := ?_) rfl rfl (by kernel_rfl) (by kernel_rfl) (by kernel_rfl) (fun _ _ _ h => h) (Or.inl ⟨by rfl, ?_⟩) (by assumption) ?_
          rotate_left
          · (intro w hSw; (try dsimp only at hSw); go_simp <;> with_reducible rfl)
          simp only [List.setIfInBounds_toArray, List.set_cons_zero, List.set_cons_succ]
          refine takeH 5 (v := ?_) rfl rfl (by kernel_rfl) (by kernel_rfl) (by kernel_rfl) (fun _ _ _ h => h) (Or.inl ⟨by rfl, ?_⟩) (by assumption) ?_
          rotate_left
          · (intro w hSw; (try dsimp only at hSw); go_simp <;> with_reducible rfl)
          simp only [List.setIfInBounds_toArray, List.set_cons_zero, List.set_cons_succ]
          refine takeH 6 (v := ?_) rfl rfl (by kernel_rfl) (by kernel_rfl) (by kernel_rfl) (fun _ _ _ h => h) (Or.inl ⟨by rfl, ?_⟩) (by assumption) ?_
          rotate_left
          · (intro w hSw; (try dsimp only at hSw); go_simp <;> with_reducible rfl)
          simp only [List.setIfInBounds_toArray, List.set_cons_zero, List.set_cons_succ]
          refine takeH 7 (v := ?_) rfl rfl (by kernel_rfl) (by kernel_rfl) (by kernel_rfl) (fun _ _ _ h => h) (Or.inl ⟨by rfl, ?_⟩) (by assumption) ?_
          rotate_left
          · (intro w hSw; (try dsimp only at hSw); go_simp <;> with_reducible rfl)
          simp only [List.setIfInBounds_toArray, List.set_cons_zero, List.set_cons_succ]
          refine takeH 8 (v := ?_) rfl rfl (by kernel_rfl) (by kernel_rfl) (by kernel_rfl) (fun _ _ _ h => h) (Or.inl ⟨by rfl, ?_⟩) (by assumption) ?_
          rotate_left
          · (intro w hSw; (try dsimp only at hSw); go_simp <;> with_reducible rfl)
          simp only [List.setIfInBounds_toArray, List.set_cons_zero, List.set_cons_succ]
          refine takeH 9 (v := ?_) rfl rfl (by kernel_rfl) (by kernel_rfl) (by kernel_rfl) (fun _ _ _ h => h) (Or.inl ⟨by rfl, ?_⟩) (by assumption) ?_
          rotate_left
          · (intro w hSw; (try dsimp only at hSw); go_simp <;> with_reducible rfl)
          simp only [List.setIfInBounds_toArray, List.set_cons_zero, List.set_cons_succ]
          refine wpAnyH_ready (rs := [4]) (by kernel_rfl) (by simp) ?_
          refine AllReadyH.cons rfl (fun K hK => ?_) AllReadyH.nil
          go_simp
          refine hK.out _ _ (by exact q6) (fun hHeld => ?_)
          clear hK K
          refine wpAnyH_ready (rs := [10]) (by kernel_rfl) (by simp) ?_
          refine AllReadyH.cons rfl (fun K hK => ?_) AllReadyH.nil
          go_simp
          refine (HM6.out.call (by exact ⟨rfl, rfl, rfl, Nat.le_refl _, fun _ _ => rfl⟩) (fun hM' => by rw [show Value.slice va6 N6 vc6 = _ from Hv6.out.symm]; exact tabSize_any B _ _ _ s.max _ hM'.buf hM'.size (by rw [← HN6.out]; omega) (by omega))).mono ?_
          rintro e w7 ⟨a7, N7, c7, rfl, hN7, hr7, hM7⟩
          have fz7 := fun i => hr7.unfrozen i none
          have e12 := hr7.cell' (i := 12) (by decide) Hv6.out
          have HM7 := Lib.hid hM7
          have HN7 := Lib.hid hN7
          clear hM7 hN7
          have e6 := hr7.cell' (i := 6) (by decide) HM6.out.enc.sized.max
          clear hr7
          refine hK.out _ _ (by exact e6) (fun hHeld => ?_)
          clear hK K
          refine takeH 11 (v := ?_) rfl rfl (by kernel_rfl) (by kernel_rfl) (by kernel_rfl) (fun _ _ _ h => h) (Or.inl ⟨by rfl, ?_⟩) (by assumption) ?_
          rotate_left
          · (intro w hSw; (try dsimp only at hSw); go_simp <;> with_reducible rfl)
          simp only [List.setIfInBounds_toArray, List.set_cons_zero, List.set_cons_succ]
          refine takeH 12 (v := ?_) rfl rfl (by kernel_rfl) (by kernel_rfl) (by kernel_rfl) (fun _ _ _ h => h) (Or.inl ⟨by rfl, ?_⟩) (by assumption) ?_
          rotate_left
          · (intro w hSw; (try dsimp only at hSw); go_simp <;> with_reducible rfl)
          simp only [List.setIfInBounds_toArray, List.set_cons_zero, List.set_cons_succ]
          refine wpAnyH_ready (rs := [13]) (by kernel_rfl) (by simp) ?_
          refine AllReadyH.cons rfl (fun K hK => ?_) AllReadyH.nil
          go_simp
          refine hK.out _ _ (by exact (cell_in (by decide)).trans e6) (fun hHeld => ?_)
          clear hK K
          refine wpAnyH_done (by kernel_rfl) ?_ _
          clear hHeld
          go_wp2_with fail
          go_meet
          have h0 : s.upd = true := Hup.out.symm
          have e1 : HD.esent s = { s with upd := false, min := 4294967295 } := by unfold HD.esent; rw [h0]; rfl
          have h7 := HM7.out
          rw [show ([] ++ HD.intg 32 5 s.min) ++ HD.intg 32 5 s.max = HD.eupd s by rw [HD.eupd, h0, if_pos rfl, if_pos hmn]; try rfl, ← e1] at h7
          exact ⟨rfl, _, h7, Hp1.out⟩
        · have hmnI : ¬ (s.min : Int) < (s.max : Int) := by omega
          have hd0 : decide ((s.min : Int) < (s.max : Int)) = false := decide_eq_false hmnI
          go_quiet (fail)
          go_upto_region 6 with (fail)
          have hM5 := HM3.out.move (w2 := W3.drewN nq) ⟨rfl, rfl, rfl, Nat.le_refl _, fun _ _ => rfl⟩
          generalize W3.drewN nq = W5 at hM5 ⊢
          clear q6 q8 q10 q12 qf
          obtain ⟨N5, hN5⟩ : ∃ N, N = ([] : HD.Bs).length := ⟨_, rfl⟩
          obtain ⟨va5, vc5, hv5⟩ := own_form hM5.buf
          rw [← hN5] at hv5
          have q6 := hM5.enc.tab.row.cell' (i := 6) (by decide) hM5.enc.sized.max
          have q8 := hM5.enc.tab.row.cell' (i := 8) (by decide) hM5.enc.min
          have q10 := hM5.enc.tab.row.cell' (i := 10) (by decide) hM5.enc.upd
          have q12 := hM5.enc.tab.row.cell' (i := 12) (by decide) hv5
          have qf := fun i => hM5.enc.tab.row.unfrozen i none
          have HN5 := Lib.hid hN5
          have Hv5 := Lib.hid hv5
          clear hN5 hv5
          have HM5 := Lib.hid hM5
          clear hM5
          go_upto_region 7 with (fail)
          have hM6 := HM5.out.put (s' := { s with upd := false, min := 4294967295 }) 8 (.int .u32 4294967295) (by decide) rfl rfl (by simp [putF]) (by have := HM5.out.enc.limit; simpa [putF] using this) (by have := HM5.out.enc.upd; first | (simp [putF]; done) | (simp [putF, this]; done)) (by simp [putF])
          generalize W5.setCell ⟨d, 8, none⟩ (.int .u32 4294967295) = W6 at hM6 ⊢
          clear q6 q8 q10 q12 qf
          obtain ⟨N6, hN6⟩ : ∃ N, N = ([] : HD.Bs).length := ⟨_, rfl⟩
          obtain ⟨va6, vc6, hv6⟩ := own_form hM6.buf
          rw [← hN6] at hv6
          have q6 := hM6.enc.tab.row.cell' (i := 6) (by decide) hM6.enc.sized.max
          have q8 := hM6.enc.tab.row.cell' (i := 8) (by decide) hM6.enc.min
          have q10 := hM6.enc.tab.row.cell' (i := 10) (by decide) hM6.enc.upd
          have q12 := hM6.enc.tab.row.cell' (i := 12) (by decide) hv6
          have qf := fun i => hM6.enc.tab.row.unfrozen i none
          have HN6 := Lib.hid hN6
          have Hv6 := Lib.hid hv6
          clear hN6 hv6
          have HM6 := Lib.hid hM6
          clear hM6
          have hN6 : N6 ≤ 2 ^ 40 := by rw [HN6.out]; first | exact (eupd_part s hmi).1 | exact (eupd_part s hmi).2
          refine wp_region_held_drew (S := (fun w' => w'.cell? ⟨d, 6, none⟩ = some (.int .u32 (s.max : Nat)))) (by kernel_rfl) ((by exact q6)) (fun hHeld => ?_)
          refine takeH 0 (v := ?_) rfl rfl (by kernel_rfl) (by kernel_rfl) (by kernel_rfl) (fun _ _ _ h => h) (Or.inl ⟨by rfl, ?_⟩) (by assumption) ?_
          rotate_left
          · (intro w hSw; (try dsimp only at hSw); go_simp <;> with_reducible rfl)
          simp only [List.setIfInBounds_toArray, List.set_cons_zero, List.set_cons_succ]
          refine takeH 1 (v := ?_) rfl rfl (by kernel_rfl) (by kernel_rfl) (by kernel_rfl) (fun _ _ _ h => h) (Or.inl ⟨by rfl, ?_⟩) (by assumption) ?_
          rotate_left
          · (intro w hSw; (try dsimp only at hSw); go_simp <;> with_reducible rfl)
          simp only [List.setIfInBounds_toArray, List.set_cons_zero, List.set_cons_succ]
          refine takeH 2 (v := ?_) rfl rfl (by kernel_rfl) (by kernel_rfl) (by kernel_rfl) (fun _ _ _ h => h) (Or.inl ⟨by rfl, ?_⟩) (by assumption) ?_
          rotate_left
          · (intro w hSw; (try dsimp only at hSw); go_simp <;> with_reducible rfl)
          simp only [List.setIfInBounds_toArray, List.set_cons_zero, List.set_cons_succ]
          refine takeH 3 (v := ?_) rfl rfl (by kernel_rfl) (by kernel_rfl) (by kernel_rfl) (fun _ _ _ h => h) (Or.inl ⟨by rfl, ?_⟩) (by assumption) ?_
          rotate_left
          · (intro w hSw; (try dsimp only at hSw); go_simp <;> with_reducible rfl)
          simp only [List.setIfInBounds_toArray, List.set_cons_zero, List.set_cons_succ]
          refine takeH 5 (v := ?_) rfl rfl (by kernel_rfl) (by kernel_rfl) (by kernel_rfl) (fun _ _ _ h => h) (Or.inl ⟨by rfl, ?_⟩) (by assumption) ?_
          rotate_left
          · (intro w hSw; (try dsimp only at hSw); go_simp <;> with_reducible rfl)
          simp only [List.setIfInBounds_toArray, List.set_cons_zero, List.set_cons_succ]
          refine takeH 6 (v := ?_) rfl rfl (by kernel_rfl) (by kernel_rfl) (by kernel_rfl) (fun _ _ _ h => h) (Or.inl ⟨by rfl, ?_⟩) (by assumption) ?_
          rotate_left
          · (intro w hSw; (try dsimp only at hSw); go_simp <;> with_reducible rfl)
          simp only [List.setIfInBounds_toArray, List.set_cons_zero, List.set_cons_succ]
          refine takeH 7 (v := ?_) rfl rfl (by kernel_rfl) (by kernel_rfl) (by kernel_rfl) (fun _ _ _ h => h) (Or.inl ⟨by rfl, ?_⟩) (by assumption) ?_
          rotate_left
          · (intro w hSw; (try dsimp only at hSw); go_simp <;> with_reducible rfl)
          simp only [List.setIfInBounds_toArray, List.set_cons_zero, List.set_cons_succ]
          refine takeH 8 (v := ?_) rfl rfl (by kernel_rfl) (by kernel_rfl) (by kernel_rfl) (fun _ _ _ h => h) (Or.inl ⟨by rfl, ?_⟩) (by assumption) ?_
          rotate_left
          · (intro w hSw; (try dsimp only at hSw); go_simp <;> with_reducible rfl)
          simp only [List.setIfInBounds_toArray, List.set_cons_zero, List.set_cons_succ]
          refine takeH 9 (v := ?_) rfl rfl (by kernel_rfl) (by kernel_rfl) (by kernel_rfl) (fun _ _ _ h => h) (Or.inl ⟨by rfl, ?_⟩) (by assumption) ?_
          rotate_left
          · (intro w hSw; (try dsimp only at hSw); go_simp <;> with_reducible rfl)
          simp only [List.setIfInBounds_toArray, List.set_cons_zero, List.set_cons_succ]
          refine wpAnyH_ready (rs := [4]) (by kernel_rfl) (by simp) ?_
          refine AllReadyH.cons rfl (fun K hK => ?_) AllReadyH.nil
          go_simp
          refine hK.out _ _ (by exact q6) (fun hHeld => ?_)
          clear hK K
          refine wpAnyH_ready (rs := [10]) (by kernel_rfl) (by simp) ?_
          refine AllReadyH.cons rfl (fun K hK => ?_) AllReadyH.nil
          go_simp
          refine (HM6.out.call (by exact ⟨rfl, rfl, rfl, Nat.le_refl _, fun _ _ => rfl⟩) (fun hM' => by rw [show Value.slice va6 N6 vc6 = _ from Hv6.out.symm]; exact tabSize_any B _ _ _ s.max _ hM'.buf hM'.size (by rw [← HN6.out]; omega) (by omega))).mono ?_
          rintro e w7 ⟨a7, N7, c7, rfl, hN7, hr7, hM7⟩
          have fz7 := fun i => hr7.unfrozen i none
          have e12 := hr7.cell' (i := 12) (by decide) Hv6.out
          have HM7 := Lib.hid hM7
          have HN7 := Lib.hid hN7
          clear hM7 hN7
          have e6 := hr7.cell' (i := 6) (by decide) HM6.out.enc.sized.max
          clear hr7
          refine hK.out _ _ (by exact e6) (fun hHeld => ?_)
          clear hK K
          refine takeH 11 (v := ?_) rfl rfl (by kernel_rfl) (by kernel_rfl) (by kernel_rfl) (fun _ _ _ h => h) (Or.inl ⟨by rfl, ?_⟩) (by assumption) ?_
          rotate_left
          · (intro w hSw; (try dsimp only at hSw); go_simp <;> with_reducible rfl)
          simp only [List.setIfInBounds_toArray, List.set_cons_zero, List.set_cons_succ]
          refine takeH 12 (v := ?_) rfl rfl (by kernel_rfl) (by kernel_rfl) (by kernel_rfl) (fun _ _ _ h => h) (Or.inl ⟨by rfl, ?_⟩) (by assumption) ?_
          rotate_left
          · (intro w hSw; (try dsimp only at hSw); go_simp <;> with_reducible rfl)
          simp only [List.setIfInBounds_toArray, List.set_cons_zero, List.set_cons_succ]
          refine wpAnyH_ready (rs := [13]) (by kernel_rfl) (by simp) ?_
          refine AllReadyH.cons rfl (fun K hK => ?_) AllReadyH.nil
          go_simp
          refine hK.out _ _ (by exact (cell_in (by decide)).trans e6) (fun hHeld => ?_)
          clear hK K
          refine wpAnyH_done (by kernel_rfl) ?_ _
          clear hHeld
          go_wp2_with fail
          go_meet
          have h0 : s.upd = true := Hup.out.symm
          have e1 : HD.esent s = { s with upd := false, min := 4294967295 } := by unfold HD.esent; rw [h0]; rfl
          have h7 := HM7.out
          rw [show [] ++ HD.intg 32 5 s.max = HD.eupd s by rw [HD.eupd, h0, if_pos rfl, if_neg hmn]; try rfl, ← e1] at h7
          exact ⟨rfl, _, h7, Hp1.out⟩
    case rest =>
      obtain ⟨rfl, p2, hM2, hp2⟩ := hcut
      have hlen : s.ents.length ≤ 2 ^ 40 := by
        have h1 := tsz_ge s.ents
        have h2 := Hok.out.size
        have h3 := Hok.out.max
        omega
      obtain ⟨b0, b1, b2⟩ := hM2.box
      have HM2 := Lib.hid hM2
      have Hp2 := Lib.hid hp2
      clear hM2 hp2 c12 fz
      go_wp2_with fail
      refine (searchTable_any B _ d 13 p2.f s.ents p2.cnt p2.ev p2.m1 p2.m2 p2.l1 p2.l2 fl (by exact HM2.out.enc.tab) HM2.out.enc.maps hlen (by rw [Hp2.out]; omega)).mono ?_
      rintro e w3 ⟨⟨m, i, rfl, hF⟩, hb3⟩
      have HM3 := Lib.hid (HM2.out.move hb3)
      have HF := Lib.hid hF
      clear hb3 hF b0 b1 b2
      go_upto_if 69 with (fail)
      go_cut [4] from 70 (fun v4 wx => v4 = .nilIface ∧ ∃ p', EMid B w wx d sk fl (HD.efs s fl m) p p' (HD.eupd s ++ HD.efld m i (HD.eidx s fl) fl) ∧ p'.cnt + (HD.efs s fl m).ents.length ≤ p.cnt + s.ents.length + 1)
      case first =>
        cases m with
        | true =>
          obtain ⟨N3, hN3⟩ : ∃ N, N = (HD.eupd s).length := ⟨_, rfl⟩
          obtain ⟨va3, vc3, hv3⟩ := own_form HM3.out.buf
          rw [← hN3] at hv3
          have q12 := HM3.out.enc.tab.row.cell' (i := 12) (by decide) hv3
          have Hv3 := Lib.hid hv3
          have hN3b : N3 ≤ 22 := by rw [hN3]; exact eupd_le s Hok.out
          have HN3 := Lib.hid hN3
          clear hv3 hN3
          go_wp2_with fail
          refine (HM3.out.call (by exact ⟨rfl, rfl, rfl, Nat.le_refl _, fun _ _ => rfl⟩) (fun hM' => by rw [show Value.slice va3 N3 vc3 = _ from Hv3.out.symm]; exact indexed_any B _ _ _ i _ hM'.buf hM'.size (by rw [← HN3.out]; omega) (by have := HF.out.1; omega))).mono ?_
          rintro e w4 ⟨a4, N4, c4, rfl, hN4, hr4, hM4⟩
          have fz4 := fun i => hr4.unfrozen i none
          have e12 := hr4.cell' (i := 12) (by decide) Hv3.out
          have HM4 := Lib.hid hM4
          clear hM4 hr4 hN4
          go_wp2_with fail
          go_meet
          have e1 : HD.efs s fl true = HD.esent s := by unfold HD.efs HD.esent; simp
          have e2 : HD.efld true i (HD.eidx s fl) fl = HD.intg 128 7 i := by simp [HD.efld]
          rw [e1, e2]
          refine ⟨rfl, _, HM4.out, ?_⟩
          show p2.cnt + s.ents.length ≤ _
          rw [Hp2.out]; omega
        | false =>
          have q6 := HM3.out.enc.tab.row.cell' (i := 6) (by decide) HM3.out.enc.sized.max
          obtain ⟨b0, b1, b2⟩ := HM3.out.box
          go_wp2_with fail
          refine (should_any d s.max fl _ (by exact q6) (by omega)).mono ?_
          rintro e w4 ⟨rfl, hb4⟩
          obtain ⟨ix, hix⟩ : ∃ b, b = HD.eidx s fl := ⟨_, rfl⟩
          rw [show (!fl.sens && decide (fl.name.length + fl.value.length + 32 ≤ s.max)) = ix from hix.symm]
          have HM4 := Lib.hid (HM3.out.move hb4)
          have Hix := Lib.hid hix
          clear hb4 hix q6 b0 b1 b2
          go_upto_if 82 with (fail)
          go_cut [4] from 83 (fun v4 wx => v4 = .nilIface ∧ ∃ p', EMid B w wx d sk fl (HD.efs s fl false) p p' (HD.eupd s) ∧ p'.cnt + (HD.efs s fl false).ents.length ≤ p.cnt + s.ents.length + 1)
          case first =>
            cases ix with
            | false =>
              go_wp2_with fail
              go_meet
              have e1 : HD.efs s fl false = HD.esent s := by unfold HD.efs HD.esent; simp [Hix.out.symm]
              rw [e1]
              refine ⟨rfl, _, HM4.out, ?_⟩
              show p2.cnt + s.ents.length ≤ _
              rw [Hp2.out]; omega
            | true =>
              have hsens : fl.sens = false := by have := Hix.out.symm; unfold HD.eidx at this; simp at this; exact this.1
              have Hsens := Lib.hid hsens
              clear hsens
              go_upto_region 13 with (fail)
              refine wp_region_held_drew (S := (fun w' => w'.cell? ⟨w.heap.size, 0, none⟩ = some (.string ⟨fl.name.toArray⟩) ∧ w'.cell? ⟨w.heap.size, 1, none⟩ = some (.string ⟨fl.value.toArray⟩) ∧ w'.cell? ⟨w.heap.size, 2, none⟩ = some (.bool fl.sens))) (by kernel_rfl) ((by exact HM4.out.box)) (fun hHeld => ?_)
              refine takeH 0 (v := ?_) rfl rfl (by kernel_rfl) (by kernel_rfl) (by kernel_rfl) (fun _ _ _ h => h) (Or.inl ⟨by rfl, ?_⟩) (by assumption) ?_
              rotate_left
              · (intro w hSw; (try dsimp only at hSw); go_simp <;> with_reducible rfl)
              simp only [List.setIfInBounds_toArray, List.set_cons_zero, List.set_cons_succ]
              refine takeH 1 (v := ?_) rfl rfl (by kernel_rfl) (by kernel_rfl) (by kernel_rfl) (fun _ _ _ h => h) (Or.inl ⟨by rfl, ?_⟩) (by assumption) ?_
              rotate_left
              · (intro w hSw; (try dsimp only at hSw); go_simp <;> with_reducible rfl)
              simp only [List.setIfInBounds_toArray, List.set_cons_zero, List.set_cons_succ]
              refine takeH 2 (v := ?_) rfl rfl (by kernel_rfl) (by kernel_rfl) (by kernel_rfl) (fun _ _ _ h => h) (Or.inl ⟨by rfl, ?_⟩) (by assumption) ?_
              rotate_left
              · (intro w hSw; (try dsimp only at hSw); go_simp <;> with_reducible rfl)
              simp only [List.setIfInBounds_toArray, List.set_cons_zero, List.set_cons_succ]
              refine takeH 3 (v := ?_) rfl rfl (by kernel_rfl) (by kernel_rfl) (by kernel_rfl) (fun _ _ _ h => h) (Or.inl ⟨by rfl, ?_⟩) (by assumption) ?_
              rotate_left
              · (intro w hSw; (try dsimp only at hSw); go_simp <;> with_reducible rfl)
              simp only [List.setIfInBounds_toArray, List.set_cons_zero, List.set_cons_succ]
              refine wpAnyH_ready (rs := [4]) (by kernel_rfl) (by simp) ?_
              refine AllReadyH.cons rfl (fun K hK => ?_) AllReadyH.nil
              go_simp
              have hsz := Hok.out.size
              have hmx := Hok.out.max
              refine Calls.mono (show Calls Tryd.prog 45 #[.pointer (some ⟨d, 0, none⟩), .agg #[.string ⟨fl.name.toArray⟩, .string ⟨fl.value.toArray⟩, .bool fl.sens]] _ _ by rw [Hsens.out]; exact add_any B _ d 13 p2.f s.ents p2.cnt s.max p2.ev p2.m1 p2.m2 p2.l1 p2.l2 (fl.name, fl.value) (by exact HM4.out.drew.enc.tab) HM4.out.enc.sized HM4.out.drew.size (by rw [Hp2.out]; omega) hlen (by omega) (by simp only [HD.esize]; omega)) ?_
              rintro e w5 ⟨rfl, q, ev', f', hq, hev2, hob, hf, hS, hT, hu⟩
              have hM5 := HM4.out.drew.added (fl.name, fl.value) hev2 hob hf hS hT hu
              have hl5 : (p2.cnt + q) + (HD.evict s.max (s.ents ++ [(fl.name, fl.value)])).length ≤ p.cnt + s.ents.length + 1 := by
                rw [hev2, List.length_drop, List.length_append, List.length_singleton, Hp2.out]; omega
              have HM5 := Lib.hid hM5
              have Hl5 := Lib.hid hl5
              clear hq hev2 hob hf hS hT hu hM5 hl5
              refine hK.out _ _ (by exact HM5.out.box) (fun hHeld => ?_)
              clear hK K
              refine wpAnyH_done (by kernel_rfl) ?_ _
              clear hHeld
              go_wp2_with fail
              go_meet
              have e1 : HD.efs s fl false = { HD.esent s with ents := HD.evict s.max (s.ents ++ [(fl.name, fl.value)]) } := by unfold HD.efs; rw [← Hix.out]; simp [HD.esent]
              rw [e1]
              exact ⟨rfl, _, HM5.out, Hl5.out⟩
          case rest =>
            obtain ⟨rfl, p5, hM5, hp5⟩ := hcut
            have HM5 := Lib.hid hM5
            have Hp5 := Lib.hid hp5
            clear hM5 hp5
            obtain ⟨N5, hN5⟩ : ∃ N, N = (HD.eupd s).length := ⟨_, rfl⟩
            obtain ⟨va5, vc5, hv5⟩ := own_form HM5.out.buf
            rw [← hN5] at hv5
            have q12 := HM5.out.enc.tab.row.cell' (i := 12) (by decide) hv5
            have Hv5 := Lib.hid hv5
            have hN5b : N5 ≤ 22 := by rw [hN5]; exact eupd_le s Hok.out
            have HN5 := Lib.hid hN5
            clear hv5 hN5
            rcases Nat.eq_zero_or_pos i with rfl | hpos
            · go_upto_region 15 with (fail)
              refine wp_region_held_drew (S := (fun w' => w'.cell? ⟨w.heap.size, 0, none⟩ = some (.string ⟨fl.name.toArray⟩) ∧ w'.cell? ⟨w.heap.size, 1, none⟩ = some (.string ⟨fl.value.toArray⟩) ∧ w'.cell? ⟨w.heap.size, 2, none⟩ = some (.bool fl.sens))) (by kernel_rfl) ((by exact HM5.out.box)) (fun hHeld => ?_)
              refine takeH 0 (v := ?_) rfl rfl (by kernel_rfl) (by kernel_rfl) (by kernel_rfl) (fun _ _ _ h => h) (Or.inl ⟨by rfl, ?_⟩) (by assumption) ?_
              rotate_left
              · (intro w hSw; (try dsimp only at hSw); go_simp <;> with_reducible rfl)
              simp only [List.setIfInBounds_toArray, List.set_cons_zero, List.set_cons_succ]
              refine takeH 1 (v := ?_) rfl rfl (by kernel_rfl) (by kernel_rfl) (by kernel_rfl) (fun _ _ _ h => h) (Or.inl ⟨by rfl, ?_⟩) (by assumption) ?_
              rotate_left
              · (intro w hSw; (try dsimp only at hSw); go_simp <;> with_reducible rfl)
              simp only [List.setIfInBounds_toArray, List.set_cons_zero, List.set_cons_succ]
              refine takeH 2 (v := ?_) rfl rfl (by kernel_rfl) (by kernel_rfl) (by kernel_rfl) (fun _ _ _ h => h) (Or.inl ⟨by rfl, ?_⟩) (by assumption) ?_
              rotate_left
              · (intro w hSw; (try dsimp only at hSw); go_simp <;> with_reducible rfl)
              simp only [List.setIfInBounds_toArray, List.set_cons_zero, List.set_cons_succ]
              refine takeH 3 (v := ?_) rfl rfl (by kernel_rfl) (by kernel_rfl) (by kernel_rfl) (fun _ _ _ h => h) (Or.inl ⟨by rfl, ?_⟩) (by assumption) ?_
              rotate_left
              · (intro w hSw; (try dsimp only at hSw); go_simp <;> with_reducible rfl)
              simp only [List.setIfInBounds_toArray, List.set_cons_zero, List.set_cons_succ]
              refine takeH 5 (v := ?_) rfl rfl (by kernel_rfl) (by kernel_rfl) (by kernel_rfl) (fun _ _ _ h => h) (Or.inl ⟨by rfl, ?_⟩) (by assumption) ?_
              rotate_left
              · (intro w hSw; (try dsimp only at hSw); go_simp <;> with_reducible rfl)
              simp only [List.setIfInBounds_toArray, List.set_cons_zero, List.set_cons_succ]
              refine takeH 6 (v := ?_) rfl rfl (by kernel_rfl) (by kernel_rfl) (by kernel_rfl) (fun _ _ _ h => h) (Or.inl ⟨by rfl, ?_⟩) (by assumption) ?_
              rotate_left
              · (intro w hSw; (try dsimp only at hSw); go_simp <;> with_reducible rfl)
              simp only [List.setIfInBounds_toArray, List.set_cons_zero, List.set_cons_succ]
              refine wpAnyH_ready (rs := [4]) (by kernel_rfl) (by simp) ?_
              refine AllReadyH.cons rfl (fun K hK => ?_) AllReadyH.nil
              go_simp
              refine hK.out _ _ (by exact HM5.out.box) (fun hHeld => ?_)
              clear hK K
              refine wpAnyH_ready (rs := [7]) (by kernel_rfl) (by simp) ?_
              refine AllReadyH.cons rfl (fun K hK => ?_) AllReadyH.nil
              go_simp
              refine (HM5.out.call (by exact ⟨rfl, rfl, rfl, Nat.le_refl _, fun _ _ => rfl⟩) (fun hM' => by rw [show Value.slice va5 N5 vc5 = _ from Hv5.out.symm]; exact newName_any B _ _ _ fl ix _ hM'.buf hM'.size HG.out (by omega) (by omega) (by rw [← HN5.out]; omega) (Ht.out.below (hM'.upd.below hM'.lo Hge.out) HG.out.1) (Hc.out.below (hM'.upd.below hM'.lo Hge.out) HG.out.2))).mono ?_
              rintro e w6 ⟨a6, N6, c6, rfl, hN6, hr6, hM6⟩
              have fz6 := fun i => hr6.unfrozen i none
              have e12 := hr6.cell' (i := 12) (by decide) Hv5.out
              have hbx6 : boxS w fl w6 := ⟨(cell_other HM5.out.d_ne).symm.trans hM6.box.1, (cell_other HM5.out.d_ne).symm.trans hM6.box.2.1, (cell_other HM5.out.d_ne).symm.trans hM6.box.2.2⟩
              have HM6 := Lib.hid hM6
              have Hbx6 := Lib.hid hbx6
              clear hM6 hr6 hN6 hbx6
              refine hK.out _ _ (by exact Hbx6.out) (fun hHeld => ?_)
              clear hK K
              refine takeH 8 (v := ?_) rfl rfl (by kernel_rfl) (by kernel_rfl) (by kernel_rfl) (fun _ _ _ h => h) (Or.inl ⟨by rfl, ?_⟩) (by assumption) ?_
              rotate_left
              · (intro w hSw; (try dsimp only at hSw); go_simp <;> with_reducible rfl)
              simp only [List.setIfInBounds_toArray, List.set_cons_zero, List.set_cons_succ]
              refine takeH 9 (v := ?_) rfl rfl (by kernel_rfl) (by kernel_rfl) (by kernel_rfl) (fun _ _ _ h => h) (Or.inl ⟨by rfl, ?_⟩) (by assumption) ?_
              rotate_left
              · (intro w hSw; (try dsimp only at hSw); go_simp <;> with_reducible rfl)
              simp only [List.setIfInBounds_toArray, List.set_cons_zero, List.set_cons_succ]
              refine wpAnyH_ready (rs := [10]) (by kernel_rfl) (by simp) ?_
              refine AllReadyH.cons rfl (fun K hK => ?_) AllReadyH.nil
              go_simp
              refine hK.out _ _ (by exact HM6.out.box) (fun hHeld => ?_)
              clear hK K
              refine wpAnyH_done (by kernel_rfl) ?_ _
              clear hHeld
              go_wp2_with fail
              go_meet
              have h6 := HM6.out
              rw [Hix.out] at h6
              exact ⟨rfl, _, h6, Hp5.out⟩
            · have hne : i ≠ 0 := by omega
              have hneI : (i : Int) ≠ 0 := by omega
              have hd0 : decide ((i : Int) = 0) = false := decide_eq_false hneI
              go_upto_region 16 with (fail)
              refine wp_region_held_drew (S := (fun w' => w'.cell? ⟨w.heap.size, 0, none⟩ = some (.string ⟨fl.name.toArray⟩) ∧ w'.cell? ⟨w.heap.size, 1, none⟩ = some (.string ⟨fl.value.toArray⟩) ∧ w'.cell? ⟨w.heap.size, 2, none⟩ = some (.bool fl.sens))) (by kernel_rfl) ((by exact HM5.out.box)) (fun hHeld => ?_)
              refine takeH 0 (v := ?_) rfl rfl (by kernel_rfl) (by kernel_rfl) (by kernel_rfl) (fun _ _ _ h => h) (Or.inl ⟨by rfl, ?_⟩) (by assumption) ?_
              rotate_left
              · (intro w hSw; (try dsimp only at hSw); go_simp <;> with_reducible rfl)
              simp only [List.setIfInBounds_toArray, List.set_cons_zero, List.set_cons_succ]
              refine takeH 1 (v := ?_) rfl rfl (by kernel_rfl) (by kernel_rfl) (by kernel_rfl) (fun _ _ _ h => h) (Or.inl ⟨by rfl, ?_⟩) (by assumption) ?_
              rotate_left
              · (intro w hSw; (try dsimp only at hSw); go_simp <;> with_reducible rfl)
              simp only [List.setIfInBounds_toArray, List.set_cons_zero, List.set_cons_succ]
              refine takeH 2 (v := ?_) rfl rfl (by kernel_rfl) (by kernel_rfl) (by kernel_rfl) (fun _ _ _ h => h) (Or.inl ⟨by rfl, ?_⟩) (by assumption) ?_
              rotate_left
              · (intro w hSw; (try dsimp only at hSw); go_simp <;> with_reducible rfl)
              simp only [List.setIfInBounds_toArray, List.set_cons_zero, List.set_cons_succ]
              refine takeH 3 (v := ?_) rfl rfl (by kernel_rfl) (by kernel_rfl) (by kernel_rfl) (fun _ _ _ h => h) (Or.inl ⟨by rfl, ?_⟩) (by assumption) ?_
              rotate_left
              · (intro w hSw; (try dsimp only at hSw); go_simp <;> with_reducible rfl)
              simp only [List.setIfInBounds_toArray, List.set_cons_zero, List.set_cons_succ]
              refine takeH 5 (v := ?_) rfl rfl (by kernel_rfl) (by kernel_rfl) (by kernel_rfl) (fun _ _ _ h => h) (Or.inl ⟨by rfl, ?_⟩) (by assumption) ?_
              rotate_left
              · (intro w hSw; (try dsimp only at hSw); go_simp <;> with_reducible rfl)
              simp only [List.setIfInBounds_toArray, List.set_cons_zero, List.set_cons_succ]
              refine takeH 6 (v := ?_) rfl rfl (by kernel_rfl) (by kernel_rfl) (by kernel_rfl) (fun _ _ _ h => h) (Or.inl ⟨by rfl, ?_⟩) (by assumption) ?_
              rotate_left
              · (intro w hSw; (try dsimp only at hSw); go_simp <;> with_reducible rfl)
              simp only [List.setIfInBounds_toArray, List.set_cons_zero, List.set_cons_succ]
              refine takeH 7 (v := ?_) rfl rfl (by kernel_rfl) (by kernel_rfl) (by kernel_rfl) (fun _ _ _ h => h) (Or.inl ⟨by rfl, ?_⟩) (by assumption) ?_
              rotate_left
              · (intro w hSw; (try dsimp only at hSw); go_simp <;> with_reducible rfl)
              simp only [List.setIfInBounds_toArray, List.set_cons_zero, List.set_cons_succ]
              refine wpAnyH_ready (rs := [4]) (by kernel_rfl) (by simp) ?_
              refine AllReadyH.cons rfl (fun K hK => ?_) AllReadyH.nil
              go_simp
              refine hK.out _ _ (by exact HM5.out.box) (fun hHeld => ?_)
              clear hK K
              refine wpAnyH_ready (rs := [8]) (by kernel_rfl) (by simp) ?_
              refine AllReadyH.cons rfl (fun K hK => ?_) AllReadyH.nil
              go_simp
              refine (HM5.out.call (by exact ⟨rfl, rfl, rfl, Nat.le_refl _, fun _ _ => rfl⟩) (fun hM' => by rw [show Value.slice va5 N5 vc5 = _ from Hv5.out.symm]; exact idxName_any B _ _ _ fl i ix _ hM'.buf hM'.size HG.out (by omega) (by rw [← HN5.out]; omega) (Ht.out.below (hM'.upd.below hM'.lo Hge.out) HG.out.1) (Hc.out.below (hM'.upd.below hM'.lo Hge.out) HG.out.2) HF.out.1 hne (fun h => by have := Hix.out.symm; rw [h] at this; unfold HD.eidx at this; simp at this; exact this.1))).mono ?_
              rintro e w6 ⟨a6, N6, c6, rfl, hN6, hr6, hM6⟩
              have fz6 := fun i => hr6.unfrozen i none
              have e12 := hr6.cell' (i := 12) (by decide) Hv5.out
              have hbx6 : boxS w fl w6 := ⟨(cell_other HM5.out.d_ne).symm.trans hM6.box.1, (cell_other HM5.out.d_ne).symm.trans hM6.box.2.1, (cell_other HM5.out.d_ne).symm.trans hM6.box.2.2⟩
              have HM6 := Lib.hid hM6
              have Hbx6 := Lib.hid hbx6
              clear hM6 hr6 hN6 hbx6
              refine hK.out _ _ (by exact Hbx6.out) (fun hHeld => ?_)
              clear hK K
              refine takeH 9 (v := ?_) rfl rfl (by kernel_rfl) (by kernel_rfl) (by kernel_rfl) (fun _ _ _ h => h) (Or.inl ⟨by rfl, ?_⟩) (by assumption) ?_
              rotate_left
              · (intro w hSw; (try dsimp only at hSw); go_simp <;> with_reducible rfl)
              simp only [List.setIfInBounds_toArray, List.set_cons_zero, List.set_cons_succ]
              refine takeH 10 (v := ?_) rfl rfl (by kernel_rfl) (by kernel_rfl) (by kernel_rfl) (fun _ _ _ h => h) (Or.inl ⟨by rfl, ?_⟩) (by assumption) ?_
              rotate_left
              · (intro w hSw; (try dsimp only at hSw); go_simp <;> with_reducible rfl)
              simp only [List.setIfInBounds_toArray, List.set_cons_zero, List.set_cons_succ]
              refine wpAnyH_ready (rs := [11]) (by kernel_rfl) (by simp) ?_
              refine AllReadyH.cons rfl (fun K hK => ?_) AllReadyH.nil
              go_simp
              refine hK.out _ _ (by exact HM6.out.box) (fun hHeld => ?_)
              clear hK K
              refine wpAnyH_done (by kernel_rfl) ?_ _
              clear hHeld
              go_wp2_with fail
              go_meet
              have h6 := HM6.out
              rw [Hix.out] at h6
              exact ⟨rfl, _, h6, Hp5.out⟩
      case rest =>
        obtain ⟨rfl, p3, hM4, hp3⟩ := hcut
        obtain ⟨T, hT⟩ : ∃ T, T = HD.eupd s ++ HD.efld m i (HD.eidx s fl) fl := ⟨_, rfl⟩
        rw [← hT] at hM4
        obtain ⟨N4, hN4⟩ : ∃ N, N = T.length := ⟨_, rfl⟩
        obtain ⟨va4, vc4, hv4⟩ := own_form hM4.buf
        rw [← hN4] at hv4
        have q11 := hM4.enc.tab.row.cell' (i := 11) (by decide) hM4.enc.out
        have q12 := hM4.enc.tab.row.cell' (i := 12) (by decide) hv4
        have HM4 := Lib.hid hM4
        have Hp3 := Lib.hid hp3
        have HT := Lib.hid hT
        have HN4 := Lib.hid hN4
        have Hv4 := Lib.hid hv4
        clear hM4 hp3 hT hN4 hv4
        go_upto_region 17 with (fail)
        refine wp_region_held_drew (S := (fun w' => w'.cell? ⟨d, 11, none⟩ = some (.iface 48 (.pointer (some ⟨sk, 0, none⟩))) ∧ w'.cell? ⟨d, 12, none⟩ = some (.slice va4 N4 vc4))) (by kernel_rfl) ((by exact ⟨q11, q12⟩)) (fun hHeld => ?_)
        refine takeH 0 (v := ?_) rfl rfl (by kernel_rfl) (by kernel_rfl) (by kernel_rfl) (fun _ _ _ h => h) (Or.inl ⟨by rfl, ?_⟩) (by assumption) ?_
        rotate_left
        · (intro w hSw; (try dsimp only at hSw); go_simp <;> with_reducible rfl)
        simp only [List.setIfInBounds_toArray, List.set_cons_zero, List.set_cons_succ]
        refine takeH 1 (v := ?_) rfl rfl (by kernel_rfl) (by kernel_rfl) (by kernel_rfl) (fun _ _ _ h => h) (Or.inl ⟨by rfl, ?_⟩) (by assumption) ?_
        rotate_left
        · (intro w hSw; (try dsimp only at hSw); go_simp <;> with_reducible rfl)
        simp only [List.setIfInBounds_toArray, List.set_cons_zero, List.set_cons_succ]
        refine takeH 2 (v := ?_) rfl rfl (by kernel_rfl) (by kernel_rfl) (by kernel_rfl) (fun _ _ _ h => h) (Or.inl ⟨by rfl, ?_⟩) (by assumption) ?_
        rotate_left
        · (intro w hSw; (try dsimp only at hSw); go_simp <;> with_reducible rfl)
        simp only [List.setIfInBounds_toArray, List.set_cons_zero, List.set_cons_succ]
        refine takeH 3 (v := ?_) rfl rfl (by kernel_rfl) (by kernel_rfl) (by kernel_rfl) (fun _ _ _ h => h) (Or.inl ⟨by rfl, ?_⟩) (by assumption) ?_
        rotate_left
        · (intro w hSw; (try dsimp only at hSw); go_simp <;> with_reducible rfl)
        simp only [List.setIfInBounds_toArray, List.set_cons_zero, List.set_cons_succ]
        refine takeH 4 (v := ?_) rfl rfl (by kernel_rfl) (by kernel_rfl) (by kernel_rfl) (fun _ _ _ h => h) (Or.inl ⟨by rfl, ?_⟩) (by assumption) ?_
        rotate_left
        · (intro w hSw; (try dsimp only at hSw); go_simp <;> with_reducible rfl)
        simp only [List.setIfInBounds_toArray, List.set_cons_zero, List.set_cons_succ]
        refine takeH 5 (v := ?_) rfl rfl (by kernel_rfl) (by kernel_rfl) (by kernel_rfl) (fun _ _ _ h => h) (Or.inl ⟨by rfl, ?_⟩) (by assumption) ?_
        rotate_left
        · (intro w hSw; (try dsimp only at hSw); go_simp <;> with_reducible rfl)
        simp only [List.setIfInBounds_toArray, List.set_cons_zero, List.set_cons_succ]
        refine takeH 6 (v := ?_) rfl rfl (by kernel_rfl) (by kernel_rfl) (by kernel_rfl) (fun _ _ _ h => h) (Or.inl ⟨by rfl, ?_⟩) (by assumption) ?_
        rotate_left
        · (intro w hSw; (try dsimp only at hSw); go_simp <;> with_reducible rfl)
        simp only [List.setIfInBounds_toArray, List.set_cons_zero, List.set_cons_succ]
        refine takeH 7 (v := ?_) rfl rfl (by kernel_rfl) (by kernel_rfl) (by kernel_rfl) (fun _ _ _ h => h) (Or.inl ⟨by rfl, ?_⟩) (by assumption) ?_
        rotate_left
        · (intro w hSw; (try dsimp only at hSw); go_simp <;> with_reducible rfl)
        simp only [List.setIfInBounds_toArray, List.set_cons_zero, List.set_cons_succ]
        refine takeH 8 (v := ?_) rfl rfl (by kernel_rfl) (by kernel_rfl) (by kernel_rfl) (fun _ _ _ h => h) (Or.inl ⟨by rfl, ?_⟩) (by assumption) ?_
        rotate_left
        · (intro w hSw; (try dsimp only at hSw); go_simp <;> with_reducible rfl)
        simp only [List.setIfInBounds_toArray, List.set_cons_zero, List.set_cons_succ]
        refine takeH 9 (v := ?_) rfl rfl (by kernel_rfl) (by kernel_rfl) (by kernel_rfl) (fun _ _ _ h => h) (Or.inl ⟨by rfl, ?_⟩) (by assumption) ?_
        rotate_left
        · (intro w hSw; (try dsimp only at hSw); go_simp <;> with_reducible rfl)
        simp only [List.setIfInBounds_toArray, List.set_cons_zero, List.set_cons_succ]
        have nm := method_writeE
        refine wpAnyH_ready (rs := [10]) (by kernel_rfl) (by simp) ?_
        refine AllReadyH.cons rfl (fun K hK => ?_) AllReadyH.nil
        go_simp
        have hskw : wc.heap[sk]? = some (.cells #[.slice none 0 0, .int .i64 0] 50 (0, 0)) := (HM4.out.upd.block sk (Lib.lt_of_heap Hsk.out) Hns.out).trans Hsk.out
        have hTne : T ≠ [] := by rw [HT.out]; exact fun h => HD.efld_ne _ _ _ _ (List.append_eq_nil_iff.1 h).2
        have hTl : T.length ≤ 2 ^ 40 := by
          have h1 := eupd_le s Hok.out
          have h2 := HD.efld_le (idx := HD.eidx s fl) HF.out (by omega)
          rw [HT.out, List.length_append]; omega
        have hown4 := HM4.out.buf
        rw [Hv4.out, HN4.out] at hown4
        refine Calls.mono (show Calls Tryd.prog 104 #[_, .slice va4 N4 vc4] _ _ by rw [HN4.out]; exact sinkW_any B sk va4 vc4 T _ (by exact hskw) (by exact ownsRow_of_heap hown4 fun _ _ => rfl) hTne hTl) ?_
        rintro e w7 ⟨rfl, a7, c7, h7, hown7, hu7⟩
        rw [← HN4.out]
        have hsl := Lib.lt_of_heap Hsk.out
        have hns3 : ¬ p3.own d sk := fun h => by
          rcases (HM4.out.own sk h).1 with h1 | h1
          · exact Hns.out h1
          · omega
        have hkeep : ∀ k, p3.own d k → w7.heap[k]? = wc.heap[k]? := fun k hk => hu7.block k (HM4.out.own k hk).2.2 (fun e => hns3 (e ▸ hk))
        have hd7 := hkeep d (Or.inl (Or.inl rfl))
        have e11 := (World.cell?_of_block (a := ⟨d, 11, none⟩) hd7).trans q11
        have e12 := (World.cell?_of_block (a := ⟨d, 12, none⟩) hd7).trans q12
        have H7 := Lib.hid h7
        have Hown7 := Lib.hid hown7
        have Hu7 := Lib.hid hu7
        have Hkeep := Lib.hid hkeep
        have Hns3 := Lib.hid hns3
        clear hskw hTne hTl hown4 h7 hown7 hu7 hsl hns3 hkeep hd7 q11 q12
        dsimp only
        refine hK.out _ _ (by exact ⟨e11, e12⟩) (fun hHeld => ?_)
        clear hK K
        refine takeH 11 (v := ?_) rfl rfl (by kernel_rfl) (by kernel_rfl) (by kernel_rfl) (fun _ _ _ h => h) (Or.inl ⟨by rfl, ?_⟩) (by assumption) ?_
        rotate_left
        · (intro w hSw; (try dsimp only at hSw); go_simp <;> with_reducible rfl)
        simp only [List.setIfInBounds_toArray, List.set_cons_zero, List.set_cons_succ]
        refine takeH 12 (v := ?_) rfl rfl (by kernel_rfl) (by kernel_rfl) (by kernel_rfl) (fun _ _ _ h => h) (Or.inl ⟨by rfl, ?_⟩) (by assumption) ?_
        rotate_left
        · (intro w hSw; (try dsimp only at hSw); go_simp <;> with_reducible rfl)
        simp only [List.setIfInBounds_toArray, List.set_cons_zero, List.set_cons_succ]
        refine takeH 13 (v := ?_) rfl rfl (by kernel_rfl) (by kernel_rfl) (by kernel_rfl) (fun _ _ _ h => h) (Or.inl ⟨by rfl, ?_⟩) (by assumption) ?_
        rotate_left
        · (intro w hSw; (try dsimp only at hSw); go_simp <;> with_reducible rfl)
        simp only [List.setIfInBounds_toArray, List.set_cons_zero, List.set_cons_succ]
        refine takeH 14 (v := ?_) rfl rfl (by kernel_rfl) (by kernel_rfl) (by kernel_rfl) (fun _ _ _ h => h) (Or.inl ⟨by rfl, ?_⟩) (by assumption) ?_
        rotate_left
        · (intro w hSw; (try dsimp only at hSw); go_simp <;> with_reducible rfl)
        simp only [List.setIfInBounds_toArray, List.set_cons_zero, List.set_cons_succ]
        refine takeH 15 (v := ?_) rfl rfl (by kernel_rfl) (by kernel_rfl) (by kernel_rfl) (fun _ _ _ h => h) (Or.inl ⟨by rfl, ?_⟩) (by assumption) ?_
        rotate_left
        · (intro w hSw; (try dsimp only at hSw); go_simp <;> with_reducible rfl)
        simp only [List.setIfInBounds_toArray, List.set_cons_zero, List.set_cons_succ]
        refine wpAnyH_done (by kernel_rfl) ?_ _
        clear hHeld
        go_wp2_with fail
        go_ret
        have hcs : w.heap.size ≤ wc.heap.size := HM4.out.upd.size
        refine ⟨rfl, m, i, p3, HF.out, HM4.out.enc.frame fun k hk => Hkeep.out k (Or.inl hk), ⟨_, _, ownsRow_of_heap HM4.out.buf fun g hg => Hkeep.out g (Or.inr hg)⟩, ⟨a7, c7, ?_, ?_, ?_⟩, ?_, ?_, Hp3.out⟩
        · rw [← HT.out]; exact H7.out
        · rw [← HT.out]; exact own_base Hown7.out hcs
        · intro g hg ho
          rw [← HT.out] at hg
          have h1 := (Hown7.out.lt g hg).1
          have h2 := (HM4.out.own g ho).2.2
          have h3 : wc.drew.heap.size = wc.heap.size := rfl
          omega
        · exact (HM4.out.upd.drew.mono fun i hi => Or.inl hi).step (Hu7.out.mono fun i hi => Or.inr hi)
        · intro k hk
          exact ⟨(HM4.out.own k hk).1, Nat.lt_of_lt_of_le (HM4.out.own k hk).2.2 Hu7.out.size⟩
end Go.Proofs.YtjdmaflkafmmpaaDoor
/-
  Contracts of SetMaxDynamicTableSize, SetMaxDynamicTableSizeLimit, MaxDynamicTableSize.
-/
namespace Go.Proofs.YtjdmaflkafmmpaaDoor
open Go.ChangeShapes Go.WideShapes Go.ChangeAt Go.RowKit

/-- A cell behind the table is written. -/
theorem EncAt.put {B : Nat} {w : World} {d sk : Nat} {s s' : HD.ES} {p : EP} (h : EncAt B w d sk s p) (j : Nat) (v : Value) (hj : 7 ≤ j ∧ j ≠ 12) (he : s'.ents = s.ents) (hx : s'.max = s.max) (h8 : putF p.f j v 8 = .int .u32 (s'.min : Nat)) (h9 : putF p.f j v 9 = .int .u32 (s'.limit : Nat)) (h10 : putF p.f j v 10 = .bool s'.upd) (h11 : putF p.f j v 11 = p.f 11) :
    EncAt B (w.setCell ⟨d, j, none⟩ v) d sk s' { p with f := putF p.f j v } := by
  have hr := h.tab.row.set j v
  have hf : ∀ i, i < 7 → putF p.f j v i = p.f i := fun i hi => by simp only [putF]; rw [if_neg (by omega)]
  have hT := h.tab.write (cnt' := p.cnt) hr (fun i _ hi => other_set hi) ((hf 0 (by decide)).trans h.tab.c0) ((hf 1 (by decide)).trans h.tab.c1) ((hf 2 (by decide)).trans h.tab.c2) ((hf 3 (by decide)).trans h.tab.c3) ((hf 4 (by decide)).trans h.tab.c4)
  refine ⟨?_, ⟨?_, ?_⟩, h8, h9, h10, h11.trans h.out, ?_⟩
  · rw [he]; exact hT
  · rw [he]; exact (hf 5 (by decide)).trans h.sized.size
  · rw [hx]; exact (hf 6 (by decide)).trans h.sized.max
  · rw [he]; exact h.maps
theorem maxSize_any (d max : Nat) (w : World) (h : w.cell? ⟨d, 6, none⟩ = some (.int .u32 (max : Nat))) :
    Calls Tryd.prog 30 #[.pointer (some ⟨d, 0, none⟩)] w fun e w' => e = .returned (.int .u32 (max : Nat)) ∧ w = w' := by
  go_enter Tryd.func30, Tryd.ntmps30
  go_wp2
  go_ret
  exact ⟨rfl, rfl⟩
/-- How a setter ends. -/
def SetEnds (B : Nat) (w : World) (d sk : Nat) (s s' : HD.ES) (p : EP) (e : Ending) (w' : World) : Prop :=
  e = .returned (.tuple #[]) ∧ ∃ p' : EP, EncAt B w' d sk s' p' ∧ p'.f 12 = p.f 12 ∧ Upd (tabOwn d p.ev p.m1 p.m2) w w' ∧ p'.ev.ownBlock = p.ev.ownBlock ∧ p'.m1 = p.m1 ∧ p'.m2 = p.m2 ∧ p'.cnt + s'.ents.length ≤ p.cnt + s.ents.length
/-- The table's size is set. -/
theorem EncAt.sized_to {B : Nat} {w w' : World} {d sk q v : Nat} {s : HD.ES} {p : EP} {ev' : Value} {f' : Nat → Value} (h : EncAt B w d sk s p) (he : HD.evict v s.ents = s.ents.drop q) (hf : ∀ i, 7 ≤ i → f' i = p.f i) (hS : Sized f' (HD.evict v s.ents) v)
    (hT : TabMem B w' d 13 f' (HD.evict v s.ents) (p.cnt + q) ev' p.m1 p.m2 (delS (p.cnt + 1) (s.ents.take q) p.l1) (delP (p.cnt + 1) (s.ents.take q) p.l2)) :
    EncAt B w' d sk { s with ents := HD.evict v s.ents, max := v } ⟨f', p.cnt + q, ev', p.m1, p.m2, delS (p.cnt + 1) (s.ents.take q) p.l1, delP (p.cnt + 1) (s.ents.take q) p.l2⟩ := by
  refine ⟨hT, hS, (hf 8 (by decide)).trans h.min, (hf 9 (by decide)).trans h.limit, (hf 10 (by decide)).trans h.upd, (hf 11 (by decide)).trans h.out, ?_⟩
  show MOk _ (HD.evict v s.ents) _ _
  rw [he]
  exact h.maps.drop q

set_option maxHeartbeats 1000000 in
set_option maxRecDepth 100000 in
theorem setSize_any (B : Nat) (w : World) (d sk n : Nat) (s : HD.ES) (p : EP) (hE : EncAt B w d sk s p) (hok : HD.ESOk s) (hcnt : p.cnt + s.ents.length + 1 < 2 ^ 62) (hn : n < 2 ^ 32) :
    Calls Tryd.prog 28 #[.pointer (some ⟨d, 0, none⟩), .int .u32 (n : Nat)] w (SetEnds B w d sk s (HD.setSize s n) p) := by
  have q8 := hE.tab.row.cell' (i := 8) (by decide) hE.min
  have q9 := hE.tab.row.cell' (i := 9) (by decide) hE.limit
  have q10 := hE.tab.row.cell' (i := 10) (by decide) hE.upd
  have qf := fun i => hE.tab.row.unfrozen i none
  have hsz := hok.size
  have hmx := hok.max
  have hli := hok.limit
  obtain ⟨m, hm⟩ : ∃ m, m = Nat.min n s.limit := ⟨_, rfl⟩
  have hml : m ≤ 2 ^ 31 := by rw [hm]; exact Nat.le_trans (Nat.min_le_right _ _) hli
  have hs' : HD.setSize s n = { s with ents := HD.evict m s.ents, max := m, min := Nat.min s.min m, upd := true } := by rw [hm]; rfl
  rw [hs']
  have hmI : m = if s.limit < n then s.limit else n := by rw [hm]; simp only [Nat.min_def]; split <;> split <;> omega
  have HmI := Lib.hid hmI
  have HE := Lib.hid hE
  clear hE hok hs' hm hmI
  obtain ⟨mn, hmn⟩ : ∃ mn, mn = Nat.min s.min m := ⟨_, rfl⟩
  rw [← hmn]
  have hmnI : mn = if m < s.min then m else s.min := by rw [hmn]; simp only [Nat.min_def]; split <;> split <;> omega
  have Hmn := Lib.hid hmnI
  clear hmn hmnI
  by_cases hln : s.limit < n
  · have hlnI : (s.limit : Int) < (n : Int) := by omega
    have d0 : decide ((s.limit : Int) < (n : Int)) = true := decide_eq_true hlnI
    obtain rfl : s.limit = m := by have := HmI.out; rw [if_pos hln] at this; exact this.symm
    by_cases hlm : s.limit < s.min
    · have hlmI : (s.limit : Int) < (s.min : Int) := by omega
      have d1 : decide ((s.limit : Int) < (s.min : Int)) = true := decide_eq_true hlmI
      obtain rfl : s.limit = mn := by have := Hmn.out; rw [if_pos hlm] at this; exact this.symm
      have HE9 := Lib.hid ((HE.out.put (s' := { s with min := s.limit }) 8 (.int .u32 (s.limit : Nat)) (by decide) rfl rfl (by simp [putF]) (by simp [putF, HE.out.limit]) (by simp [putF, HE.out.upd]) (by simp [putF])).put (s' := { s with min := s.limit, upd := true }) 10 (.bool true) (by decide) rfl rfl (by simp [putF]) (by simp [putF, HE.out.limit]) (by simp [putF]) (by simp [putF]))
      have Hu9 : Hid (Upd (tabOwn d p.ev p.m1 p.m2) w ((w.setCell ⟨d, 8, none⟩ (.int .u32 (s.limit : Nat))).setCell ⟨d, 10, none⟩ (.bool true))) := Lib.hid (((Upd.refl _ w).setCell (Or.inl (Or.inl rfl)) _).setCell (Or.inl (Or.inl rfl)) _)
      clear Hmn HmI
      go_enter Tryd.func28, Tryd.ntmps28
      go_wp2_with fail
      refine (setMax_any B _ d 13 _ s.ents p.cnt s.max s.limit p.ev p.m1 p.m2 p.l1 p.l2 (by exact HE9.out.tab) (by exact HE9.out.sized) (by omega) (by omega) (by omega)).mono ?_
      rintro e w5 ⟨rfl, q, ev', f', hq, he, hev, hf, hS, hT, hu⟩
      have hE5 := HE9.out.sized_to he hf hS hT
      have hl5 : (p.cnt + q) + (HD.evict s.limit s.ents).length ≤ p.cnt + s.ents.length := by rw [he, List.length_drop]; omega
      have h12 : f' 12 = p.f 12 := (hf 12 (by decide)).trans (by simp [putF])
      have HE5 := Lib.hid hE5
      have Hl5 := Lib.hid hl5
      have H12 := Lib.hid h12
      have Hu := Lib.hid (Hu9.out.step hu)
      have Hev := Lib.hid hev
      clear hE5 hl5 h12 hu hev hq he hf hS hT
      go_wp2_with fail
      go_end0
      exact ⟨rfl, _, HE5.out, H12.out, Hu.out, Hev.out, rfl, rfl, Hl5.out⟩
    · have hlmI : ¬ (s.limit : Int) < (s.min : Int) := by omega
      have d1 : decide ((s.limit : Int) < (s.min : Int)) = false := decide_eq_false hlmI
      obtain rfl : s.min = mn := by have := Hmn.out; rw [if_neg hlm] at this; exact this.symm
      have HE9 := Lib.hid (HE.out.put (s' := { s with upd := true }) 10 (.bool true) (by decide) rfl rfl (by simp [putF, HE.out.min]) (by simp [putF, HE.out.limit]) (by simp [putF]) (by simp [putF]))
      have Hu9 : Hid (Upd (tabOwn d p.ev p.m1 p.m2) w (w.setCell ⟨d, 10, none⟩ (.bool true))) := Lib.hid ((Upd.refl _ w).setCell (Or.inl (Or.inl rfl)) _)
      clear Hmn HmI
      go_enter Tryd.func28, Tryd.ntmps28
      go_wp2_with fail
      refine (setMax_any B _ d 13 _ s.ents p.cnt s.max s.limit p.ev p.m1 p.m2 p.l1 p.l2 (by exact HE9.out.tab) (by exact HE9.out.sized) (by omega) (by omega) (by omega)).mono ?_
      rintro e w5 ⟨rfl, q, ev', f', hq, he, hev, hf, hS, hT, hu⟩
      have hE5 := HE9.out.sized_to he hf hS hT
      have hl5 : (p.cnt + q) + (HD.evict s.limit s.ents).length ≤ p.cnt + s.ents.length := by rw [he, List.length_drop]; omega
      have h12 : f' 12 = p.f 12 := (hf 12 (by decide)).trans (by simp [putF])
      have HE5 := Lib.hid hE5
      have Hl5 := Lib.hid hl5
      have H12 := Lib.hid h12
      have Hu := Lib.hid (Hu9.out.step hu)
      have Hev := Lib.hid hev
      clear hE5 hl5 h12 hu hev hq he hf hS hT
      go_wp2_with fail
      go_end0
      exact ⟨rfl, _, HE5.out, H12.out, Hu.out, Hev.out, rfl, rfl, Hl5.out⟩
  · have hlnI : ¬ (s.limit : Int) < (n : Int) := by omega
    have d0 : decide ((s.limit : Int) < (n : Int)) = false := decide_eq_false hlnI
    obtain rfl : n = m := by have := HmI.out; rw [if_neg hln] at this; exact this.symm
    by_cases hlm : n < s.min
    · have hlmI : (n : Int) < (s.min : Int) := by omega
      have d1 : decide ((n : Int) < (s.min : Int)) = true := decide_eq_true hlmI
      obtain rfl : n = mn := by have := Hmn.out; rw [if_pos hlm] at this; exact this.symm
      have HE9 := Lib.hid ((HE.out.put (s' := { s with min := n }) 8 (.int .u32 (n : Nat)) (by decide) rfl rfl (by simp [putF]) (by simp [putF, HE.out.limit]) (by simp [putF, HE.out.upd]) (by simp [putF])).put (s' := { s with min := n, upd := true }) 10 (.bool true) (by decide) rfl rfl (by simp [putF]) (by simp [putF, HE.out.limit]) (by simp [putF]) (by simp [putF]))
      have Hu9 : Hid (Upd (tabOwn d p.ev p.m1 p.m2) w ((w.setCell ⟨d, 8, none⟩ (.int .u32 (n : Nat))).setCell ⟨d, 10, none⟩ (.bool true))) := Lib.hid (((Upd.refl _ w).setCell (Or.inl (Or.inl rfl)) _).setCell (Or.inl (Or.inl rfl)) _)
      clear Hmn HmI
      go_enter Tryd.func28, Tryd.ntmps28
      go_wp2_with fail
      refine (setMax_any B _ d 13 _ s.ents p.cnt s.max n p.ev p.m1 p.m2 p.l1 p.l2 (by exact HE9.out.tab) (by exact HE9.out.sized) (by omega) (by omega) (by omega)).mono ?_
      rintro e w5 ⟨rfl, q, ev', f', hq, he, hev, hf, hS, hT, hu⟩
      have hE5 := HE9.out.sized_to he hf hS hT
      have hl5 : (p.cnt + q) + (HD.evict n s.ents).length ≤ p.cnt + s.ents.length := by rw [he, List.length_drop]; omega
      have h12 : f' 12 = p.f 12 := (hf 12 (by decide)).trans (by simp [putF])
      have HE5 := Lib.hid hE5
      have Hl5 := Lib.hid hl5
      have H12 := Lib.hid h12
      have Hu := Lib.hid (Hu9.out.step hu)
      have Hev := Lib.hid hev
      clear hE5 hl5 h12 hu hev hq he hf hS hT
      go_wp2_with fail
      go_end0
      exact ⟨rfl, _, HE5.out, H12.out, Hu.out, Hev.out, rfl, rfl, Hl5.out⟩
    · have hlmI : ¬ (n : Int) < (s.min : Int) := by omega
      have d1 : decide ((n : Int) < (s.min : Int)) = false := decide_eq_false hlmI
      obtain rfl : s.min = mn := by have := Hmn.out; rw [if_neg hlm] at this; exact this.symm
      have HE9 := Lib.hid (HE.out.put (s' := { s with upd := true }) 10 (.bool true) (by decide) rfl rfl (by simp [putF, HE.out.min]) (by simp [putF, HE.out.limit]) (by simp [putF]) (by simp [putF]))
      have Hu9 : Hid (Upd (tabOwn d p.ev p.m1 p.m2) w (w.setCell ⟨d, 10, none⟩ (.bool true))) := Lib.hid ((Upd.refl _ w).setCell (Or.inl (Or.inl rfl)) _)
      clear Hmn HmI
      go_enter Tryd.func28, Tryd.ntmps28
      go_wp2_with fail
      refine (setMax_any B _ d 13 _ s.ents p.cnt s.max n p.ev p.m1 p.m2 p.l1 p.l2 (by exact HE9.out.tab) (by exact HE9.out.sized) (by omega) (by omega) (by omega)).mono ?_
      rintro e w5 ⟨rfl, q, ev', f', hq, he, hev, hf, hS, hT, hu⟩
      have hE5 := HE9.out.sized_to he hf hS hT
      have hl5 : (p.cnt + q) + (HD.evict n s.ents).length ≤ p.cnt + s.ents.length := by rw [he, List.length_drop]; omega
      have h12 : f' 12 = p.f 12 := (hf 12 (by decide)).trans (by simp [putF])
      have HE5 := Lib.hid hE5
      have Hl5 := Lib.hid hl5
      have H12 := Lib.hid h12
      have Hu := Lib.hid (Hu9.out.step hu)
      have Hev := Lib.hid hev
      clear hE5 hl5 h12 hu hev hq he hf hS hT
      go_wp2_with fail
      go_end0
      exact ⟨rfl, _, HE5.out, H12.out, Hu.out, Hev.out, rfl, rfl, Hl5.out⟩

set_option maxHeartbeats 1000000 in
set_option maxRecDepth 100000 in
theorem setLimit_any (B : Nat) (w : World) (d sk n : Nat) (s : HD.ES) (p : EP) (hE : EncAt B w d sk s p) (hok : HD.ESOk s) (hcnt : p.cnt + s.ents.length + 1 < 2 ^ 62) (hn : n < 2 ^ 32) :
    Calls Tryd.prog 29 #[.pointer (some ⟨d, 0, none⟩), .int .u32 (n : Nat)] w (SetEnds B w d sk s (HD.setLimit s n) p) := by
  have q6 := hE.tab.row.cell' (i := 6) (by decide) hE.sized.max
  have q9 := hE.tab.row.cell' (i := 9) (by decide) hE.limit
  have q10 := hE.tab.row.cell' (i := 10) (by decide) hE.upd
  have qf := fun i => hE.tab.row.unfrozen i none
  have hsz := hok.size
  have hmx := hok.max
  have HE := Lib.hid hE
  clear hE hok
  by_cases hlm : n < s.max
  · have hlmI : (n : Int) < (s.max : Int) := by omega
    have d1 : decide ((n : Int) < (s.max : Int)) = true := decide_eq_true hlmI
    rw [show HD.setLimit s n = { s with limit := n, upd := true, ents := HD.evict n s.ents, max := n } by unfold HD.setLimit; rw [if_pos hlm]]
    have HE9 := Lib.hid ((HE.out.put (s' := { s with limit := n }) 9 (.int .u32 (n : Nat)) (by decide) rfl rfl (by simp [putF, HE.out.min]) (by simp [putF]) (by simp [putF, HE.out.upd]) (by simp [putF])).put (s' := { s with limit := n, upd := true }) 10 (.bool true) (by decide) rfl rfl (by simp [putF, HE.out.min]) (by simp [putF]) (by simp [putF]) (by simp [putF]))
    have Hu9 : Hid (Upd (tabOwn d p.ev p.m1 p.m2) w ((w.setCell ⟨d, 9, none⟩ (.int .u32 (n : Nat))).setCell ⟨d, 10, none⟩ (.bool true))) := Lib.hid (((Upd.refl _ w).setCell (Or.inl (Or.inl rfl)) _).setCell (Or.inl (Or.inl rfl)) _)
    go_enter Tryd.func29, Tryd.ntmps29
    go_wp2_with fail
    refine (setMax_any B _ d 13 _ s.ents p.cnt s.max n p.ev p.m1 p.m2 p.l1 p.l2 (by exact HE9.out.tab) (by exact HE9.out.sized) (by omega) (by omega) (by omega)).mono ?_
    rintro e w5 ⟨rfl, q, ev', f', hq, he, hev, hf, hS, hT, hu⟩
    have hE5 := HE9.out.sized_to he hf hS hT
    have hl5 : (p.cnt + q) + (HD.evict n s.ents).length ≤ p.cnt + s.ents.length := by rw [he, List.length_drop]; omega
    have h12 : f' 12 = p.f 12 := (hf 12 (by decide)).trans (by simp [putF])
    have HE5 := Lib.hid hE5
    have Hl5 := Lib.hid hl5
    have H12 := Lib.hid h12
    have Hu := Lib.hid (Hu9.out.step hu)
    have Hev := Lib.hid hev
    clear hE5 hl5 h12 hu hev hq he hf hS hT
    go_wp2_with fail
    go_end0
    exact ⟨rfl, _, HE5.out, H12.out, Hu.out, Hev.out, rfl, rfl, Hl5.out⟩
  · have hlmI : ¬ (n : Int) < (s.max : Int) := by omega
    have d1 : decide ((n : Int) < (s.max : Int)) = false := decide_eq_false hlmI
    rw [show HD.setLimit s n = { s with limit := n } by unfold HD.setLimit; rw [if_neg hlm]]
    have HE9 := Lib.hid (HE.out.put (s' := { s with limit := n }) 9 (.int .u32 (n : Nat)) (by decide) rfl rfl (by simp [putF, HE.out.min]) (by simp [putF]) (by simp [putF, HE.out.upd]) (by simp [putF]))
    have Hu9 : Hid (Upd (tabOwn d p.ev p.m1 p.m2) w (w.setCell ⟨d, 9, none⟩ (.int .u32 (n : Nat)))) := Lib.hid ((Upd.refl _ w).setCell (Or.inl (Or.inl rfl)) _)
    go_enter Tryd.func29, Tryd.ntmps29
    go_wp2_with fail
    go_end0
    exact ⟨rfl, _, HE9.out, by simp [putF], Hu9.out, rfl, rfl, rfl, Nat.le_refl _⟩
end Go.Proofs.YtjdmaflkafmmpaaDoor
/-
  The contract of (*headerFieldTable).init: two new maps.
-/
namespace Go.Proofs.YtjdmaflkafmmpaaDoor
open Go.ChangeShapes Go.WideShapes Go.ChangeAt Go.RowKit

theorem init_any (b n : Nat) (f : Nat → Value) (w : World) (hr : Row w b n f) (hn : 8 ≤ n) (h3 : f 3 = .map none) (h4 : f 4 = .map none) :
    Calls Tryd.prog 23 #[.pointer (some ⟨b, 0, none⟩)] w fun e w' => e = .returned (.tuple #[]) ∧ ∃ m1 m2, w.heap.size ≤ m1 ∧ w.heap.size ≤ m2 ∧ m1 ≠ m2 ∧ MapMem encS w' m1 [] ∧ MapMem encP w' m2 [] ∧
      Row w' b n (putF (putF f 3 (.map (some m1))) 4 (.map (some m2))) ∧ Upd (fun i => i = b) w w' := by
  have c3 := hr.cell' (i := 3) (by omega) h3
  have c4 := hr.cell' (i := 4) (by omega) h4
  have fz := fun i => hr.unfrozen i none
  have Hr := Lib.hid hr
  have H3 := Lib.hid h3
  have H4 := Lib.hid h4
  clear hr h3 h4 c3 c4 fz
  go_enter Tryd.func23, Tryd.ntmps23
  go_wp2
  simp only [run_makeMap, Result.andThen_ok, Oper.upon]
  have fz1 : (w.alloc (.map #[] 0)).frozen? ⟨b, 3, none⟩ = false := (Hr.out.alloc _).unfrozen 3 none
  have c31 : (w.alloc (.map #[] 0)).cell? ⟨b, 3, none⟩ = some (.map none) := (Hr.out.alloc _).cell' (i := 3) (by omega) H3.out
  go_wp2
  have hr1 : Row ((w.alloc (.map #[] 0)).setCell ⟨b, 3, none⟩ (.map (some w.heap.size))) b n (putF f 3 (.map (some w.heap.size))) := (Hr.out.alloc _).set 3 _
  have hu1 : Upd (fun i => i = b) w ((w.alloc (.map #[] 0)).setCell ⟨b, 3, none⟩ (.map (some w.heap.size))) := ((Upd.refl (fun i => i = b) w).alloc _).setCell (a := ⟨b, 3, none⟩) (Or.inl rfl) _
  have hm1 : MapMem encS ((w.alloc (.map #[] 0)).setCell ⟨b, 3, none⟩ (.map (some w.heap.size))) w.heap.size ([] : List (HD.Bs × Nat)) := (mapMem_mk w).of_heap (Below.heap_setCell _ _ _ _ (Nat.ne_of_gt Hr.out.lt))
  have hs1 : ((w.alloc (.map #[] 0)).setCell ⟨b, 3, none⟩ (.map (some w.heap.size))).heap.size = w.heap.size + 1 := by simp
  generalize hw1 : (w.alloc (.map #[] 0)).setCell ⟨b, 3, none⟩ (.map (some w.heap.size)) = w1 at hr1 hu1 hm1 hs1 ⊢
  clear hw1 fz1 c31
  have Hr1 := Lib.hid hr1
  have Hu1 := Lib.hid hu1
  have Hm1 := Lib.hid hm1
  have Hs1 := Lib.hid hs1
  clear hr1 hu1 hm1 hs1
  simp only [run_makeMap, Result.andThen_ok, Oper.upon]
  have fz1 : (w1.alloc (.map #[] 0)).frozen? ⟨b, 4, none⟩ = false := (Hr1.out.alloc _).unfrozen 4 none
  have c41 : (w1.alloc (.map #[] 0)).cell? ⟨b, 4, none⟩ = some (.map none) := (Hr1.out.alloc _).cell' (i := 4) (by omega) (by simp [putF, H4.out])
  go_wp2
  go_end0
  have hb : b < w.heap.size := Hr.out.lt
  have hb1 : b ≠ w1.heap.size := by have := Hs1.out; omega
  refine ⟨rfl, w.heap.size, w1.heap.size, Nat.le_refl _, by have := Hs1.out; omega, by have := Hs1.out; omega, ?_, ?_, ?_, ?_⟩
  · exact (Hm1.out.of_heap (Below.heap_alloc _ _ _ (by have := Hs1.out; omega))).of_heap (Below.heap_setCell _ _ _ _ (Nat.ne_of_gt hb))
  · exact (mapMem_mk w1).of_heap (Below.heap_setCell _ _ _ _ (Ne.symm hb1))
  · exact (Hr1.out.alloc _).set 4 _
  · exact (Hu1.out.alloc _).setCell (a := ⟨b, 4, none⟩) (Or.inl rfl) _
end Go.Proofs.YtjdmaflkafmmpaaDoor
/-
  A new encoder.
-/
namespace Go.Proofs.YtjdmaflkafmmpaaDoor
open Go.ChangeShapes Go.WideShapes Go.ChangeAt Go.RowKit

def enc0 (sv : Value) : Array Value := #[.bool false, .slice none 0 0, .int .u64 0, .map none, .map none, .int .u32 0, .int .u32 0, .int .u32 0, .int .u32 4294967295, .int .u32 4096, .bool false, sv, .slice none 0 0]

set_option maxHeartbeats 4000000 in
set_option maxRecDepth 100000 in
theorem newEncoder_any (B sk : Nat) (w : World) (hB : B ≤ w.heap.size) :
    Calls Tryd.prog 16 #[.iface 48 (.pointer (some ⟨sk, 0, none⟩))] w fun e w' => e = .returned (.pointer (some ⟨w.heap.size, 0, none⟩)) ∧ ∃ p : EP, EncAt B w' w.heap.size sk HD.es0 p ∧ p.f 12 = .slice none 0 0 ∧ p.cnt = 0 ∧ (∀ k, p.own w.heap.size k → w.heap.size ≤ k ∧ k < w'.heap.size) ∧ Below w.heap.size w w' := by
  go_enter Tryd.func16, Tryd.ntmps16
  go_wp2_with fail
  have hr0 : Row (w.alloc (.cells (enc0 (.iface 48 (.pointer (some ⟨sk, 0, none⟩)))) 74)) w.heap.size 13 (fun i => (enc0 (.iface 48 (.pointer (some ⟨sk, 0, none⟩)))).getD i undef) :=
    Row.new w _ (by decide) rfl (fun i hi => by rw [Array.getD_eq_getD_getElem?]; rw [Array.getElem?_eq_getElem (show i < (enc0 (.iface 48 (.pointer (some ⟨sk, 0, none⟩)))).size from hi)]; rfl)
  refine (init_any _ _ _ _ (by exact hr0) (by decide) rfl rfl).mono ?_
  rintro e w1 ⟨rfl, m1, m2, hm1, hm2, hne, hM1, hM2, hr1, hu1⟩
  have hu : Upd (fun _ => False) w w1 := ((Upd.refl (fun _ => False) w).alloc (.cells (enc0 (.iface 48 (.pointer (some ⟨sk, 0, none⟩)))) 74)).trans hu1 (fun i hi e => absurd hi (by subst e; exact Nat.lt_irrefl _))
  have hd : w.heap.size < (w.alloc (.cells (enc0 (.iface 48 (.pointer (some ⟨sk, 0, none⟩)))) 74)).heap.size := by simp
  have hd1 : w.heap.size < m1 := Nat.lt_of_lt_of_le hd hm1
  have hd2 : w.heap.size < m2 := Nat.lt_of_lt_of_le hd hm2
  clear hr0 hu1 hm1 hm2 hd
  have HB := Lib.hid hB
  have Hd1 := Lib.hid hd1
  have Hd2 := Lib.hid hd2
  have Hne := Lib.hid hne
  have Hu := Lib.hid hu
  generalize hdd : w.heap.size = d at *
  have Hdd := Lib.hid hdd
  have hT : TabMem B w1 d 13 _ [] 0 (.slice none 0 0) m1 m2 [] [] := ⟨hr1, by decide, rfl, rfl, rfl, rfl, rfl, World.ownsRow_nil _ _ _ _, by simp [Value.ownBlock], hne, ⟨hB, by omega, by omega⟩, hM1, hM2⟩
  have hS : Sized (putF (putF (fun i => (enc0 (.iface 48 (.pointer (some ⟨sk, 0, none⟩)))).getD i undef) 3 (.map (some m1))) 4 (.map (some m2))) [] 0 := ⟨rfl, rfl⟩
  have HT := Lib.hid hT
  have HS := Lib.hid hS
  clear hB hd1 hd2 hM1 hM2 hne hu hr1 hdd hT hS
  go_wp2_with fail
  refine (setMax_any B w1 d 13 _ [] 0 0 4096 (.slice none 0 0) m1 m2 [] [] HT.out HS.out (by decide) (by decide) (by decide)).mono ?_
  rintro e w3 ⟨rfl, q, ev, f, hq, -, hev, hf, hS3, hT3, hu3⟩
  have hq0 : q = 0 := by simpa using hq
  subst hq0
  have HS3 := Lib.hid hS3
  have HT3 := Lib.hid hT3
  have Hu3 := Lib.hid hu3
  have Hf := Lib.hid hf
  have Hev := Lib.hid hev
  clear hS3 hT3 hu3 hf hev hq
  go_wp2_with fail
  go_ret
  have hf := Hf.out
  have hb : Below d w w3 := by
    have h1 := Hu.out.trans Hu3.out (F := fun _ => False) (fun i hi hF => by
      have := Hdd.out
      have := Hd1.out
      have := Hd2.out
      rcases hF with h | h | h | h
      · omega
      · cases h
      · omega
      · omega)
    exact h1.below (Nat.le_of_eq Hdd.out.symm) (fun k h => h.elim)
  rw [Hdd.out]
  refine ⟨rfl, ⟨f, 0, ev, m1, m2, [], []⟩, ⟨HT3.out, HS3.out, (hf 8 (by decide)).trans rfl, (hf 9 (by decide)).trans rfl, (hf 10 (by decide)).trans rfl, (hf 11 (by decide)).trans rfl, MOk.nil _⟩, (hf 12 (by decide)).trans rfl, rfl, ?_, hb⟩
  rintro k ((rfl | h | rfl | rfl) | h)
  · exact ⟨Nat.le_refl _, HT3.out.row.lt⟩
  · have : ev.ownBlock = some k := h
    rw [Hev.out] at this; cases this
  · exact ⟨Nat.le_of_lt Hd1.out, HT3.out.map1.lt⟩
  · exact ⟨Nat.le_of_lt Hd2.out, HT3.out.map2.lt⟩
  · have h12 : f 12 = .slice none 0 0 := (hf 12 (by decide)).trans rfl
    rw [show (EP.mk f 0 ev m1 m2 [] []).f 12 = f 12 from rfl, h12] at h
    cases h
end Go.Proofs.YtjdmaflkafmmpaaDoor
