/-
  Texts of this seat, one behind the other: TLaw, DecO, SpecAt, STab, STab2, SpecAt2, STab3, SLit. What each one shows stands at its head. No condition.
-/
import Derived.Test.YtmlnmllnlekcgaaDoorMb9
import Derived.Great.BuildSlice
import Derived.Laws.OwnMore
import Derived.Lib.AppendStr
/-
  PLAIN: a block of literals that are added, and behind it an index; the specification's table, the newest entry first. No program in sight.
-/
namespace Go.Proofs.YtmlnmllnlekcgaaDoor.HD

def ptxt (s : Bs) : Bs := intg 0 7 s.length ++ s
/-- A literal with a new name, that is added; no text in codes. -/
def plit (f : Fld) : Bs := 64 :: (ptxt f.name ++ ptxt f.value)
def pent (f : Fld) : Bs × Bs := (f.name, f.value)
def pfl (f : Fld) : Fld := ⟨f.name, f.value, false⟩
def addAll (max : Nat) : List (Bs × Bs) → List Fld → List (Bs × Bs)
  | e, [] => e
  | e, f :: fs => addAll max (evict max (e ++ [pent f])) fs
def lits (fs : List Fld) : Bs := (fs.map plit).flatten

theorem rstr_ptxt (s r : Bs) (hs : s.length < 2 ^ 62) : rstr (ptxt s ++ r) = .ok false s r := by
  have h := rvi_intg (above := 0) (bits := 7) (n := s.length) (r := s ++ r) (by decide) (by decide) (by omega)
  obtain ⟨x, p, hx, e⟩ := intg_head 0 7 s.length
  unfold ptxt
  rw [List.append_assoc]
  rw [e, List.cons_append] at h ⊢
  rw [rstr, h]
  simp only [List.length_append]
  rw [if_neg (by omega), toNat_of (by simp at hx; omega), List.take_left', List.drop_left'] <;> first | rfl | (simp at hx ⊢; omega) | simp
theorem pRepr_plit (s : St) (hs : s.on = true) (f : Fld) (r : Bs) (hn : f.name.length < 2 ^ 62) (hv : f.value.length < 2 ^ 62) :
    pRepr s (plit f ++ r) = .ok (evict s.max (s.ents ++ [pent f])) s.max (some (pfl f)) r := by
  have h1 : rvi 6 (64 :: (ptxt f.name ++ (ptxt f.value ++ r))) = .ok 0 (ptxt f.name ++ (ptxt f.value ++ r)) := by
    rw [rvi, if_pos (by decide)]; rfl
  have e : plit f ++ r = 64 :: (ptxt f.name ++ (ptxt f.value ++ r)) := by simp [plit]
  rw [e, pRepr, if_neg (by decide), if_pos (by decide), pLit, h1]
  simp only [Nat.lt_irrefl, if_false]
  rw [rstr_ptxt _ _ hn]
  simp only [pVal]
  rw [rstr_ptxt _ _ hv]
  simp [hs, dstr, pEnd, tell, pfl, pent]
theorem wr_lits : ∀ (fs : List Fld) (s : St) (out : List Fld) (k : Nat), s.on = true → (∀ f ∈ fs, f.name.length < 2 ^ 62 ∧ f.value.length < 2 ^ 62) → (lits fs).length ≤ k →
    ∃ d, wr k s out (lits fs) = ⟨d, out ++ fs.map pfl, [], none⟩ ∧ d.ents = addAll s.max s.ents fs ∧ d.max = s.max ∧ d.on = true
  | [], s, out, k, hs, _, _ => ⟨s, by rw [show lits [] = [] from rfl, wr_nil]; simp, rfl, rfl, hs⟩
  | f :: fs, s, out, k, hs, hf, hk => by
    have hff := hf f List.mem_cons_self
    have e : lits (f :: fs) = plit f ++ lits fs := rfl
    have hp := pRepr_plit s hs f (lits fs) hff.1 hff.2
    have hc : plit f ++ lits fs = 64 :: (ptxt f.name ++ ptxt f.value ++ lits fs) := by simp [plit]
    rw [e, hc] at hk ⊢
    rw [hc] at hp
    rw [List.length_cons, List.length_append] at hk
    obtain ⟨k, rfl⟩ : ∃ k', k = k' + 1 := ⟨k - 1, by omega⟩
    obtain ⟨d, h1, h2, h3, h4⟩ := wr_lits fs { s with ents := evict s.max (s.ents ++ [pent f]), max := s.max, first := false } (out ++ [pfl f]) k hs (fun g hg => hf g (List.mem_cons_of_mem _ hg)) (by omega)
    refine ⟨d, ?_, h2, h3, h4⟩
    rw [wr, hp]
    simp only [Option.toList_some]
    rw [h1]; simp
theorem write_lits (s : St) (hs : s.on = true) (fs : List Fld) (hf : ∀ f ∈ fs, f.name.length < 2 ^ 62 ∧ f.value.length < 2 ^ 62) :
    ∃ d, write s [] (lits fs) = ⟨d, fs.map pfl, [], none⟩ ∧ d.ents = addAll s.max s.ents fs ∧ d.max = s.max ∧ d.on = true := by
  unfold write
  split
  · rename_i h0
    have : fs = [] := by
      cases fs with
      | nil => rfl
      | cons f fs => exact absurd h0 (by simp [lits, plit])
    subst this
    exact ⟨s, rfl, rfl, rfl, hs⟩
  · rw [List.nil_append]
    have := wr_lits fs s [] _ hs hf (Nat.le_refl _)
    simpa using this
theorem close_nil (s : St) : close s [] = ⟨{ s with first := true }, [], [], none⟩ := by unfold close; rw [if_pos rfl]
theorem pRepr_idx (s : St) (hs : s.on = true) (n : Nat) (hn : n ≤ 2 ^ 31) : pRepr s (intg 128 7 n) = match entAt s.ents n with
    | none => .bad (.index n)
    | some e => .ok s.ents s.max (some ⟨e.1, e.2, false⟩) [] := by
  have h := rvi_intg (above := 128) (bits := 7) (n := n) (r := []) (by decide) (by decide) (by omega)
  rw [List.append_nil] at h
  obtain ⟨x, p, hx, e⟩ := intg_head 128 7 n
  have hx' : x ≤ 127 := by simpa using hx
  rw [e] at h ⊢
  rw [pRepr, if_pos (by rw [toNat_of (by omega)]; omega), pIdx, h]
  show (match entAt s.ents n with | none => P1.bad (.index n) | some e => P1.ok s.ents s.max (tell s ⟨e.1, e.2, false⟩) []) = _
  cases entAt s.ents n with
  | none => rfl
  | some e => simp [tell, hs]
theorem write_idx (s : St) (hs : s.on = true) (n : Nat) (hn : n ≤ 2 ^ 31) : write s [] (intg 128 7 n) = match entAt s.ents n with
    | none => ⟨{ s with first := false }, [], [], some (.index n)⟩
    | some e => ⟨{ s with first := false }, [⟨e.1, e.2, false⟩], [], none⟩ := by
  have hp := pRepr_idx s hs n hn
  obtain ⟨x, p, -, e⟩ := intg_head 128 7 n
  rw [write, if_neg (intg_ne _ _ _), List.nil_append]
  rw [e] at hp ⊢
  rw [List.length_cons, wr, hp]
  cases entAt s.ents n with
  | none => rfl
  | some e => simp only [wr_nil]; rfl
theorem tab_one (size : Nat) (fs : List Fld) (hf : ∀ f ∈ fs, f.name.length < 2 ^ 62 ∧ f.value.length < 2 ^ 62) :
    rd [] (drun ⟨⟨[], size, size, true, true⟩, []⟩ [.write (lits fs), .close]) = (fs.map pfl, none) := by
  obtain ⟨d, hw, -⟩ := write_lits ⟨[], size, size, true, true⟩ rfl fs hf
  simp only [drun, dstep, hw, close_nil, rd, List.nil_append, List.append_nil]
theorem tab_two (size n : Nat) (hn : n ≤ 2 ^ 31) (fs : List Fld) (hf : ∀ f ∈ fs, f.name.length < 2 ^ 62 ∧ f.value.length < 2 ^ 62) :
    rd [] (drun ⟨⟨[], size, size, true, true⟩, []⟩ (loudCmds (lits fs) (intg 128 7 n))) = match entAt (addAll size [] fs) n with
      | none => (fs.map pfl, some (.index n))
      | some e => (fs.map pfl ++ [⟨e.1, e.2, false⟩], none) := by
  obtain ⟨⟨de, dm, da, dn, df⟩, hw, he, hm, ho⟩ := write_lits ⟨[], size, size, true, true⟩ rfl fs hf
  dsimp only at he hm ho
  subst he hm ho
  have hi := write_idx ⟨addAll dm [] fs, dm, da, true, true⟩ rfl n hn
  dsimp only at hi
  simp only [loudCmds, drun, dstep, hw, close_nil, rd, List.nil_append, List.append_nil, hi]
  cases entAt (addAll dm [] fs) n with
  | none => simp
  | some e => simp [close_nil]
theorem tsize_rev (l : List (Bs × Bs)) : tsize l.reverse = tsize l := by
  induction l with
  | nil => rfl
  | cons e l ih => rw [List.reverse_cons, tsize_append, ih, tsize_cons]; simp [tsize]; omega
theorem evict_id {max : Nat} {l : List (Bs × Bs)} (h : tsize l ≤ max) : evict max l = l := by
  cases l with
  | nil => rfl
  | cons e l => rw [evict, if_neg (by omega)]
/-- The specification's table: the newest entry first; the oldest ones go. -/
def sadd (max : Nat) (E : List (Bs × Bs)) (e : Bs × Bs) : List (Bs × Bs) := (evict max (e :: E).reverse).reverse
def saddAll (max : Nat) : List (Bs × Bs) → List Fld → List (Bs × Bs)
  | E, [] => E
  | E, f :: fs => saddAll max (sadd max E (pent f)) fs
theorem saddAll_rev (max : Nat) : ∀ (fs : List Fld) (E : List (Bs × Bs)), (saddAll max E fs).reverse = addAll max E.reverse fs
  | [], _ => rfl
  | f :: fs, E => by
    rw [saddAll, addAll, saddAll_rev max fs]
    simp [sadd]
theorem saddAll_snoc (max : Nat) : ∀ (fs : List Fld) (E : List (Bs × Bs)) (f : Fld), saddAll max E (fs ++ [f]) = sadd max (saddAll max E fs) (pent f)
  | [], _, _ => rfl
  | g :: fs, E, f => by
    rw [List.cons_append, saddAll, saddAll, saddAll_snoc max fs]
theorem sadd_len (max : Nat) (E : List (Bs × Bs)) (e : Bs × Bs) : (sadd max E e).length ≤ E.length + 1 := by
  obtain ⟨n, -, h⟩ := evict_drop max (e :: E).reverse
  rw [sadd, h]; simp
theorem saddAll_len (max : Nat) : ∀ (fs : List Fld) (E : List (Bs × Bs)), (saddAll max E fs).length ≤ E.length + fs.length
  | [], _ => Nat.le_refl _
  | f :: fs, E => by
    have h1 := saddAll_len max fs (sadd max E (pent f))
    have h2 := sadd_len max E (pent f)
    rw [saddAll, List.length_cons]; omega
theorem sadd_sub (max : Nat) (E : List (Bs × Bs)) (e x : Bs × Bs) (h : x ∈ sadd max E e) : x = e ∨ x ∈ E := by
  obtain ⟨n, -, h2⟩ := evict_drop max (e :: E).reverse
  rw [sadd, h2, List.mem_reverse] at h
  have := List.mem_of_mem_drop h
  simpa [or_comm] using this
theorem entAt_top (E : List (Bs × Bs)) (k : Nat) : entAt E.reverse (62 + k) = E[k]? := by
  unfold entAt
  rw [if_neg (by omega), if_neg (by omega), List.length_reverse]
  by_cases h : 62 + k - 61 ≤ E.length
  · rw [if_pos h, List.getElem?_reverse (by omega), show E.length - 1 - (E.length - (62 + k - 61)) = k by omega]
  · rw [if_neg h, List.getElem?_eq_none (by omega)]
theorem tab_law (size k : Nat) (hk : 62 + k ≤ 2 ^ 31) (fs : List Fld) (hf : ∀ f ∈ fs, f.name.length < 2 ^ 62 ∧ f.value.length < 2 ^ 62) :
    rd [] (drun ⟨⟨[], size, size, true, true⟩, []⟩ (loudCmds (lits fs) (intg 128 7 (62 + k)))) = match (saddAll size [] fs)[k]? with
      | none => (fs.map pfl, some (.index (62 + k)))
      | some e => (fs.map pfl ++ [⟨e.1, e.2, false⟩], none) := by
  have h := saddAll_rev size fs []
  rw [List.reverse_nil] at h
  rw [tab_two size _ hk fs hf, ← h, entAt_top]
end Go.Proofs.YtmlnmllnlekcgaaDoor.HD
/-
  The contract of impl.Decode where the tables of the codes are open: blocks of literals with no text in codes, and of one index.
-/
namespace Go.Proofs.YtmlnmllnlekcgaaDoor
open Go.ChangeShapes Go.WideShapes Go.ChangeAt Go.RowKit

def FineF (fs : List HD.Fld) : Prop := ∀ f ∈ fs, f.name.length < 2 ^ 62 ∧ f.value.length < 2 ^ 62
/-- Literals that are added, no text in codes; or one index. -/
def LitG (s : HD.St) (v : HD.Bs) : Prop := v.length ≤ 2 ^ 26 ∧ s.on = true ∧ ((∃ fs, v = HD.lits fs ∧ FineF fs) ∨ ∃ n, n ≤ 2 ^ 31 ∧ v = HD.intg 128 7 n)
theorem rvi_plit (n : Nat) (hn : n = 4 ∨ n = 6) (p : HD.Bs) : HD.rvi n (64 :: p) = .ok 0 p := by
  rcases hn with rfl | rfl
  · rw [HD.rvi, if_pos (by decide)]; rfl
  · rw [HD.rvi, if_pos (by decide)]; rfl
theorem plit_cons (f : HD.Fld) (r : HD.Bs) : HD.plit f ++ r = 64 :: (HD.ptxt f.name ++ (HD.ptxt f.value ++ r)) := by simp [HD.plit]
theorem plainL_lits (aN aL : Addr) (f : HD.Fld) (r : HD.Bs) (hn : f.name.length < 2 ^ 62) (hv : f.value.length < 2 ^ 62) (n : Nat) (h : n = 4 ∨ n = 6) : PlainL aN aL n (HD.plit f ++ r) := by
  refine Or.inr fun i rest e => ?_
  rw [plit_cons, rvi_plit n h] at e
  injection e with e1 e2
  subst e1; subst e2
  refine ⟨fun h => absurd h (Nat.lt_irrefl _), fun _ h b r' e => ?_⟩
  rw [HD.rstr_ptxt _ _ hn] at e
  injection e with e1 e2 e3
  subst e1; subst e3
  refine ⟨rfl, fun h' b' r'' e => ?_⟩
  rw [HD.rstr_ptxt _ _ hv] at e
  injection e with e1 e2 e3
  exact e1.symm
theorem lits_cons (f : HD.Fld) (fs : List HD.Fld) : HD.lits (f :: fs) = HD.plit f ++ HD.lits fs := rfl
theorem stepsLit {B d : Nat} {M : Emitter} {aI aN aL : Addr} (hM : EmOk B M) : Steps B d M aI aN aL LitG where
  ok s v h hne := by
    obtain ⟨h26, hon, ⟨fs, rfl, hf⟩ | ⟨n, hn, rfl⟩⟩ := h
    · refine stepOk_all hM s _ h26 hne fun b u e hb m hm => ?_
      cases fs with
      | nil => exact absurd rfl hne
      | cons f fs =>
        obtain ⟨h1, h2⟩ := hf f List.mem_cons_self
        rw [lits_cons]
        exact plainL_lits _ _ f _ h1 h2 m hm
    · refine stepOk_all hM s _ h26 hne fun b u e hb m hm => ?_
      obtain ⟨x, p, hx, e2⟩ := HD.intg_head 128 7 n
      rw [e2] at e
      injection e with e3 e4
      rw [← e3, HD.toNat_of (by simp at hx; omega)] at hb
      omega
  next s v ents max o rest h hr := by
    have hl := HD.pRepr_len hr
    obtain ⟨h26, hon, ⟨fs, rfl, hf⟩ | ⟨n, hn, rfl⟩⟩ := h
    · cases fs with
      | nil => cases hr
      | cons f fs =>
        obtain ⟨h1, h2⟩ := hf f List.mem_cons_self
        rw [lits_cons, HD.pRepr_plit s hon f _ h1 h2] at hr
        injection hr with e1 e2 e3 e4
        subst e4
        exact ⟨by omega, hon, Or.inl ⟨fs, rfl, fun g hg => hf g (List.mem_cons_of_mem _ hg)⟩⟩
    · rw [HD.pRepr_idx s hon n hn] at hr
      cases he : HD.entAt s.ents n with
      | none => rw [he] at hr; cases hr
      | some x =>
        rw [he] at hr
        injection hr with e1 e2 e3 e4
        subst e4
        exact ⟨by simp, hon, Or.inl ⟨[], rfl, fun f hf => by simp at hf⟩⟩
  bad s v e h hr := by
    obtain ⟨h26, hon, ⟨fs, rfl, hf⟩ | ⟨n, hn, rfl⟩⟩ := h
    · cases fs with
      | nil => cases hr
      | cons f fs =>
        obtain ⟨h1, h2⟩ := hf f List.mem_cons_self
        rw [lits_cons, HD.pRepr_plit s hon f _ h1 h2] at hr
        cases hr
    · rw [HD.pRepr_idx s hon n hn] at hr
      cases he : HD.entAt s.ents n with
      | none =>
        rw [he] at hr
        injection hr with e1
        exact Or.inr ⟨n, e1.symm⟩
      | some x => rw [he] at hr; cases hr
/-- The steps of both calls meet what is asked of them. -/
theorem run_one {B d : Nat} {M : Emitter} {aI aN aL : Addr} (hM : EmOk B M) (size : Nat) (fs : List HD.Fld) (hf : FineF fs) (hl : (HD.lits fs).length ≤ 2 ^ 24) : RunOk B d M aI aN aL (st0 size) (wholeCmds (HD.lits fs)) := by
  obtain ⟨e, hw, -⟩ := HD.write_lits ⟨[], size, size, true, true⟩ rfl fs hf
  have hw : HD.write (st0 size).st (st0 size).save (HD.lits fs) = ⟨e, fs.map HD.pfl, [], none⟩ := hw
  refine ⟨cmdOk_write (stepsLit hM) ⟨by show ([] ++ HD.lits fs).length ≤ _; rw [List.nil_append]; omega, rfl, Or.inl ⟨fs, rfl, hf⟩⟩, cmdOk_close (Or.inr ?_), trivial⟩
  simp only [HD.dstep, hw]
theorem run_two {B d : Nat} {M : Emitter} {aI aN aL : Addr} (hM : EmOk B M) (size n : Nat) (hn : n ≤ 2 ^ 31) (fs : List HD.Fld) (hf : FineF fs) (hl : (HD.lits fs).length ≤ 2 ^ 24) : RunOk B d M aI aN aL (st0 size) (HD.loudCmds (HD.lits fs) (HD.intg 128 7 n)) := by
  obtain ⟨e, hw, -, -, ho⟩ := HD.write_lits ⟨[], size, size, true, true⟩ rfl fs hf
  have hw : HD.write (st0 size).st (st0 size).save (HD.lits fs) = ⟨e, fs.map HD.pfl, [], none⟩ := hw
  have hL := HD.intg_len 128 7 n (by omega)
  have hi := HD.write_idx { e with first := true } ho n hn
  have hs : (HD.write { e with first := true } [] (HD.intg 128 7 n)).save = [] := by
    rw [hi]
    cases HD.entAt ({ e with first := true } : HD.St).ents n <;> rfl
  refine ⟨cmdOk_write (stepsLit hM) ⟨by show ([] ++ HD.lits fs).length ≤ _; rw [List.nil_append]; omega, rfl, Or.inl ⟨fs, rfl, hf⟩⟩, cmdOk_close (Or.inr ?_), cmdOk_write (stepsLit hM) ?_, cmdOk_close (Or.inr ?_), trivial⟩
  · simp only [HD.dstep, hw]
  · simp only [HD.dstep, hw, HD.close_nil, List.nil_append]
    exact ⟨by omega, ho, Or.inr ⟨n, hn, rfl⟩⟩
  · simp only [HD.dstep, hw, HD.close_nil]
    exact hs
theorem decodeO (w : World) (size : Nat) (aN : Addr) (gs cap : Nat) (cs : List HD.Cmd) (bs : List Value) (hs : size ≤ 2 ^ 31) (hE : EnvO w.heap.size w aN aN aN) (hm : StepsMem w gs 0 cs bs) (hcap : cap ≤ maxLen) (hn : cs.length ≤ cap) (hn40 : cs.length ≤ 2 ^ 22) (hpos : 0 < cs.length)
    (hok : RunOk w.heap.size (w.heap.size + 1) (implEm w.heap.size w.heap.size) aN aN aN (st0 size) cs) (hT : (cs.map HD.Cmd.len).sum ≤ 2 ^ 26) :
    Calls Tryd.prog 10 #[.int .i64 (size : Nat), .slice (some ⟨gs, 0, none⟩) cs.length cap] w fun e w' => ∃ g c, e = .returned (.slice (some ⟨g, 0, none⟩) cs.length c) ∧ AnsMem w' g c (HD.drun (st0 size) cs) ∧ Below w.heap.size w w' := by
  refine (runO_any w size aN aN aN gs 0 cap cs bs hs hE hm hcap hn (by omega) hok (by unfold lens; omega)).mono ?_
  intro e w' h
  obtain ⟨g, c, rfl, h1, h2⟩ := ans_of_run h (by rw [HD.drun_len]; exact hpos)
  rw [HD.drun_len]
  exact ⟨g, c, rfl, h1, h2⟩
theorem decode_one (w : World) (size : Nat) (aN : Addr) (gs : Nat) (fs : List HD.Fld) (bs : List Value) (hs : size ≤ 2 ^ 31) (hE : EnvO w.heap.size w aN aN aN) (hm : StepsMem w gs 0 (wholeCmds (HD.lits fs)) bs) (hf : FineF fs) (hl : (HD.lits fs).length ≤ 2 ^ 24) :
    Calls Tryd.prog 10 #[.int .i64 (size : Nat), .slice (some ⟨gs, 0, none⟩) 2 2] w fun e w' => ∃ g c, e = .returned (.slice (some ⟨g, 0, none⟩) 2 c) ∧ AnsMem w' g c (HD.drun (st0 size) (wholeCmds (HD.lits fs))) ∧ Below w.heap.size w w' :=
  decodeO w size aN gs 2 (wholeCmds (HD.lits fs)) bs hs hE hm (by decide) (by show 2 ≤ 2; decide) (by show 2 ≤ 2 ^ 22; decide) (by show 0 < 2; decide) (run_one (emOk_impl _ _ (Nat.le_refl _)) size fs hf hl) (by show (HD.lits fs).length + (0 + 0) ≤ _; omega)
theorem decode_two (w : World) (size n : Nat) (hn : n ≤ 2 ^ 31) (aN : Addr) (gs cap : Nat) (fs : List HD.Fld) (bs : List Value) (hs : size ≤ 2 ^ 31) (hE : EnvO w.heap.size w aN aN aN) (hcap : cap ≤ maxLen) (hc4 : 4 ≤ cap) (hm : StepsMem w gs 0 (HD.loudCmds (HD.lits fs) (HD.intg 128 7 n)) bs) (hf : FineF fs) (hl : (HD.lits fs).length ≤ 2 ^ 24) :
    Calls Tryd.prog 10 #[.int .i64 (size : Nat), .slice (some ⟨gs, 0, none⟩) 4 cap] w fun e w' => ∃ g c, e = .returned (.slice (some ⟨g, 0, none⟩) 4 c) ∧ AnsMem w' g c (HD.drun (st0 size) (HD.loudCmds (HD.lits fs) (HD.intg 128 7 n))) ∧ Below w.heap.size w w' :=
  decodeO w size aN gs cap (HD.loudCmds (HD.lits fs) (HD.intg 128 7 n)) bs hs hE hm hcap hc4 (by show 4 ≤ 2 ^ 22; decide) (by show 0 < 4; decide) (run_two (emOk_impl _ _ (Nat.le_refl _)) size n hn fs hf hl) (by have := HD.intg_len 128 7 n (by omega); show (HD.lits fs).length + (0 + ((HD.intg 128 7 n).length + (0 + 0))) ≤ _; omega)
end Go.Proofs.YtmlnmllnlekcgaaDoor
/-
  The specification's static table, and its entry of an index.
-/
namespace Go.Proofs.YtmlnmllnlekcgaaDoor
open Go.ChangeShapes Go.WideShapes Go.ChangeAt Go.RowKit

def sFld (e : HD.Bs × HD.Bs) : HD.Fld := ⟨e.1, e.2, false⟩
def sCells : Array Value := (flds (HD.static.map sFld)).toArray
set_option maxHeartbeats 4000000 in
set_option maxRecDepth 100000 in
theorem specStatic_any (w : World) : Calls Tryd.prog 23 #[] w fun e w' => e = .returned (.slice (some ⟨w.heap.size, 0, none⟩) 61 61) ∧ w' = w.alloc (.cells sCells 30) := by
  obtain ⟨i0, hi, hz0, hz1, hzb⟩ := info_parts infoFld'
  go_enter Tryd.func23, Tryd.ntmps23
  go_wp2
  refine wp_buildSlice 22 30 61 _ rfl sCells i0 _ Tryd.underlying22 hi hz0 (by rw [hz1]; decide) (by rw [hz1]; decide) ?_ ?_
  · rw [hz1]
    kernel_rfl
  · go_wp2
    go_ret
    exact ⟨rfl, rfl⟩
end Go.Proofs.YtmlnmllnlekcgaaDoor
/-
  The specification's table: how much it has, what goes when it is told a size.
-/
namespace Go.Proofs.YtmlnmllnlekcgaaDoor
open Go.ChangeShapes Go.WideShapes Go.ChangeAt Go.RowKit

/-- The table in memory: the newest entry first. -/
structure TabS (w : World) (p : Nat) (v : Value) (E : List (HD.Bs × HD.Bs)) (max : Nat) : Prop where
  row : Row w p 2 (fun i => if i = 0 then v else .int .i64 (max : Nat))
  fsl : FSl w v (E.map sFld)
  ap : v.ownBlock ≠ some p
  nl : ∀ n c, v = .slice none n c → c = 0
def SmallE (E : List (HD.Bs × HD.Bs)) : Prop := ∀ e ∈ E, e.1.length + e.2.length ≤ 2 ^ 20
theorem tsize_le {l : List (HD.Bs × HD.Bs)} (h : SmallE l) : HD.tsize l ≤ l.length * 1048608 := by
  induction l with
  | nil => simp [HD.tsize]
  | cons e l ih =>
    have h1 := h e List.mem_cons_self
    have h2 := ih fun x hx => h x (List.mem_cons_of_mem _ hx)
    rw [HD.tsize_cons, HD.esize, List.length_cons]; omega
theorem SmallE.take {l : List (HD.Bs × HD.Bs)} (h : SmallE l) (k : Nat) : SmallE (l.take k) := fun e he => h e (List.mem_of_mem_take he)
theorem tsize_snoc (E : List (HD.Bs × HD.Bs)) (k : Nat) (h : k < E.length) : HD.tsize (E.take (k + 1)) = HD.tsize (E.take k) + (E[k].1.length + E[k].2.length + 32) := by
  rw [show E.take (k + 1) = E.take k ++ [E[k]] from (List.take_append_getElem h).symm, HD.tsize_append]
  simp [HD.tsize, HD.esize]
theorem flds_take (l : List HD.Fld) (j q : Nat) (u : Value) (h : (flds (l.take j))[q]? = some u) : (flds l)[q]? = some u := by
  have e : flds l = flds (l.take j) ++ flds (l.drop j) := by
    have : l = l.take j ++ l.drop j := (List.take_append_drop j l).symm
    unfold flds
    rw [← List.flatMap_append, List.take_append_drop]
  rw [e, List.getElem?_append_left (List.getElem?_eq_some_iff.1 h).1]
  exact h
theorem FSl.take {w : World} {a : Option Addr} {n c j : Nat} {l : List HD.Fld} (h : FSl w (.slice a n c) l) (hj : j ≤ l.length) : FSl w (.slice a j c) (l.take j) := by
  obtain ⟨a', c', e, hc, hcl⟩ := h
  injection e with e1 e2 e3
  subst e1; subst e3
  have hlen : (l.take j).length = j := by rw [List.length_take]; omega
  refine ⟨a, c, by rw [hlen], by rw [hlen]; omega, fun hne => ?_⟩
  have hne' : l ≠ [] := fun e => hne (by rw [e]; simp)
  obtain ⟨g, o, ha, hcell⟩ := hcl hne'
  exact ⟨g, o, ha, fun q u hu => hcell q u (flds_take l j q u hu)⟩
theorem fsize_any (f : HD.Fld) (w : World) (hn : f.name.length + f.value.length ≤ 2 ^ 21) : Calls Tryd.prog 40 #[.agg #[.string ⟨f.name.toArray⟩, .string ⟨f.value.toArray⟩, .bool f.sens]] w fun e w' => e = .returned (.int .i64 ((f.name.length + f.value.length + 32 : Nat) : Int)) ∧ Below w.heap.size w w' := by
  obtain ⟨nm, vl, s⟩ := f
  dsimp only at hn ⊢
  obtain ⟨x, hx⟩ : ∃ x, x = nm.length := ⟨_, rfl⟩
  obtain ⟨y, hy⟩ : ∃ x, x = vl.length := ⟨_, rfl⟩
  have hszn : (⟨nm.toArray⟩ : ByteArray).size = x := by rw [hx]; simp [ByteArray.size]
  have hszv : (⟨vl.toArray⟩ : ByteArray).size = y := by rw [hy]; simp [ByteArray.size]
  rw [← hx, ← hy] at hn ⊢
  clear hx hy
  go_enter Tryd.func40, Tryd.ntmps40
  go_wp2_with fail
  go_ret
  exact ⟨by go_num, (Below.refl _ _).alloc (Nat.le_refl _) _⟩
set_option maxHeartbeats 1000000 in
set_option maxRecDepth 100000 in
theorem used_any (w : World) (p : Nat) (v : Value) (E : List (HD.Bs × HD.Bs)) (max : Nat) (h : TabS w p v E max) (hE : E.length ≤ 2 ^ 22) (hs : SmallE E) :
    Calls Tryd.prog 25 #[.pointer (some ⟨p, 0, none⟩)] w fun e w' => e = .returned (.int .i64 (HD.tsize E : Nat)) ∧ Below w.heap.size w w' := by
  obtain ⟨a, c, rfl, hcap, hcell⟩ := h.fsl
  have q0 := h.row.cell' (i := 0) (by decide) rfl
  obtain ⟨n, hn⟩ : ∃ n, n = E.length := ⟨_, rfl⟩
  rw [List.length_map] at hcap q0
  rw [← hn] at hE hcap q0
  have q0 : w.cell? ⟨p, 0, none⟩ = some (.slice a n c) := q0
  have Hn := Lib.hid hn
  have Hs := Lib.hid hs
  have Hcell := Lib.hid hcell
  clear hn hs hcell h
  go_enter Tryd.func25, Tryd.ntmps25
  go_wp2_with fail
  go_loopw [3, 11] (fun nv iv wr => ∃ k : Nat, k ≤ n ∧ iv = .int .i64 (k : Nat) ∧ nv = .int .i64 (HD.tsize (E.take k) : Nat) ∧ Below w.heap.size w wr) (fun _ iv _ => n - (intOf iv).toNat)
  case atStart => exact ⟨0, Nat.zero_le _, rfl, rfl, Below.refl _ _⟩
  case round =>
    obtain ⟨k, hk, rfl, rfl, hb⟩ := hrel
    rcases Nat.lt_or_ge k n with hlt | hge
    · have hkc : k < E.length := by rw [← Hn.out]; exact hlt
      have hkN : decide (k < n) = true := decide_eq_true hlt
      have hkI : (k : Int) < (n : Int) := by omega
      have hkcap : k < c := by omega
      obtain ⟨g, o, rfl, hcl⟩ := Hcell.out (fun h => by rw [List.map_eq_nil_iff.1 h] at hkc; simp at hkc)
      have hf := flds_at (E.map sFld) k (by rw [List.length_map]; exact hkc)
      rw [List.getElem_map] at hf
      have hb1 := tsize_le (Hs.out.take k)
      have hb2 := Hs.out _ (List.getElem_mem hkc)
      have hsn := tsize_snoc E k hkc
      obtain ⟨e, hee⟩ : ∃ e, e = E[k] := ⟨_, rfl⟩
      rw [← hee] at hf hb2 hsn
      have up : ∀ j u, (flds (E.map sFld))[j]? = some u → wr.cell? ⟨g, o + j, none⟩ = some u := fun j u hu => (hb.cell (World.block_lt_of_cell? _ _ (hcl j u hu))).trans (hcl j u hu)
      have p0 : wr.cell? ⟨g, o + k * 3, none⟩ = some (.string ⟨e.1.toArray⟩) := up _ _ hf.1
      have p1 : wr.cell? ⟨g, o + k * 3 + 1, none⟩ = some (.string ⟨e.2.toArray⟩) := up _ _ hf.2.1
      have p2 : wr.cell? ⟨g, o + k * 3 + 2, none⟩ = some (.bool false) := up _ _ hf.2.2
      rw [List.length_take, Nat.min_eq_left (by omega)] at hb1
      obtain ⟨T, hT⟩ : ∃ T, T = HD.tsize (E.take k) := ⟨_, rfl⟩
      obtain ⟨x, hx⟩ : ∃ x, x = e.1.length + e.2.length + 32 := ⟨_, rfl⟩
      rw [← hT] at hb1 hsn ⊢
      rw [← hx] at hsn
      have hxb : x ≤ 1048608 := by omega
      have hTb : T ≤ 2 ^ 50 := by omega
      have hb2' : e.1.length + e.2.length ≤ 2 ^ 21 := by omega
      have Hsn := Lib.hid hsn
      have Hx := Lib.hid hx
      have Hb := Lib.hid hb
      have hsz := hb.size
      clear hf hb1 hb2 hsn hee up hT hx hb hcl
      go_wp2_with fail
      refine (fsize_any ⟨e.1, e.2, false⟩ _ hb2').mono ?_
      rintro e' w1 ⟨rfl, hb1⟩
      rw [show e.1.length + e.2.length + 32 = x from Hx.out.symm]
      have Hb1 := Lib.hid ((Hb.out.alloc hsz _).trans (hb1.mono (by simp; omega)))
      clear hb1
      go_wp2_with fail
      exact ⟨⟨k + 1, hlt, by go_num, by rw [Hsn.out]; go_num, Hb1.out⟩, by simp [intOf]; omega⟩
    · obtain rfl : k = n := Nat.le_antisymm hk hge
      have e1 : E.take k = E := by rw [Hn.out]; exact List.take_length
      rw [e1]
      go_wp2_with fail
      go_ret
      exact ⟨rfl, hb⟩
theorem own_len {a : Option Addr} {n j c c' p : Nat} (h : (Value.slice a n c).ownBlock ≠ some p) : (Value.slice a j c').ownBlock ≠ some p := by cases a <;> exact h
/-- How many entries the table has, as memory tells. -/
def lenAt (p : Nat) (w : World) : Nat := match w.cell? ⟨p, 0, none⟩ with
  | some (.slice _ n _) => n
  | _ => 0
theorem tabRow_set1 {w : World} {p : Nat} {v : Value} {m0 m : Nat} (h : Row w p 2 (fun i => if i = 0 then v else .int .i64 (m0 : Nat))) : Row (w.setCell ⟨p, 1, none⟩ (.int .i64 (m : Nat))) p 2 (fun i => if i = 0 then v else .int .i64 (m : Nat)) :=
  (h.set 1 _).congr fun i hi => by
    rcases Nat.lt_or_ge 0 i with h | h
    · rw [if_pos (by omega), if_neg (by omega)]
    · rw [if_neg (by omega), if_pos (by omega), if_pos (by omega)]
theorem tabRow_set0 {w : World} {p : Nat} {v v' : Value} {m : Nat} (h : Row w p 2 (fun i => if i = 0 then v else .int .i64 (m : Nat))) : Row (w.setCell ⟨p, 0, none⟩ v') p 2 (fun i => if i = 0 then v' else .int .i64 (m : Nat)) :=
  (h.set 0 _).congr fun i hi => by
    by_cases h : i = 0
    · rw [if_pos h, if_pos h]
    · rw [if_neg h, if_neg h, if_neg h]
/-- A list of fields lies apart from block p: it stands where only p has changed. -/
theorem FSl.upd {w w' : World} {v : Value} {l : List HD.Fld} {p : Nat} (h : FSl w v l) (hp : v.ownBlock ≠ some p) (hu : Upd (fun i => i = p) w w') : FSl w' v l := by
  obtain ⟨a, c, rfl, hc, hcl⟩ := h
  refine ⟨a, c, rfl, hc, fun hne => ?_⟩
  obtain ⟨g, o, rfl, hcell⟩ := hcl hne
  exact ⟨g, o, rfl, fun j u hu' => (World.cell?_of_block (a := ⟨g, o + j, none⟩) (hu.block g (World.block_lt_of_cell? _ _ (hcell j u hu')) (fun e => hp (by rw [← e]; rfl)))).trans (hcell j u hu')⟩
set_option maxHeartbeats 2000000 in
set_option maxRecDepth 100000 in
theorem resize_any (w : World) (p : Nat) (v : Value) (E : List (HD.Bs × HD.Bs)) (m0 most : Nat) (h : TabS w p v E m0) (hm : most ≤ 2 ^ 31) (hE : E.length ≤ 2 ^ 22) (hs : SmallE E) :
    Calls Tryd.prog 17 #[.pointer (some ⟨p, 0, none⟩), .int .i64 (most : Nat)] w fun e w' => e = .returned (.tuple #[]) ∧ ∃ v', TabS w' p v' ((HD.evict most E.reverse).reverse) most ∧ v'.ownBlock = v.ownBlock ∧ Upd (fun i => i = p) w w' := by
  obtain ⟨a, c, rfl, hcap, hcell⟩ := h.fsl
  obtain ⟨n, hn⟩ : ∃ n, n = E.length := ⟨_, rfl⟩
  have hrow := h.row
  have hfsl := h.fsl
  have hap := h.ap
  have hnl := h.nl
  rw [List.length_map] at hcap hrow hfsl hap hnl ⊢
  rw [← hn] at hE hcap hrow hfsl hap hnl ⊢
  have hr1 := tabRow_set1 (m := most) hrow
  have hu1 : Upd (fun i => i = p) w (w.setCell ⟨p, 1, none⟩ (.int .i64 (most : Nat))) := (Upd.refl (fun i => i = p) w).setCell (a := ⟨p, 1, none⟩) (Or.inl rfl) _
  have fz := hrow.unfrozen 1 none
  have c1 : w.cell? ⟨p, 1, none⟩ = some (.int .i64 (m0 : Nat)) := hrow.cell' (i := 1) (by decide) rfl
  have Hn := Lib.hid hn
  have Hs := Lib.hid hs
  have Hf := Lib.hid hfsl
  have Hap := Lib.hid hap
  have Hnl := Lib.hid hnl
  have Hr1 := Lib.hid hr1
  have Hu1 := Lib.hid hu1
  have Hm := Lib.hid hm
  clear hn hs hcell h hfsl hap hnl hr1 hu1 hrow
  go_enter Tryd.func17, Tryd.ntmps17
  go_wp2_with fail
  have hr1 := Hr1.out
  have hu1 := Hu1.out
  generalize w.setCell ⟨p, 1, none⟩ (.int .i64 (most : Nat)) = w1 at hr1 hu1 ⊢
  have Hr1 := Lib.hid hr1
  have Hu1 := Lib.hid hu1
  clear hr1 hu1 fz c1
  go_loopw [] (fun wr => ∃ j : Nat, j ≤ n ∧ Row wr p 2 (fun i => if i = 0 then .slice a j c else .int .i64 (most : Nat)) ∧ Hid (HD.evict most (E.take j).reverse = HD.evict most E.reverse) ∧ Upd (fun i => i = p) w wr) (fun wr => lenAt p wr)
  case atStart => exact ⟨n, Nat.le_refl _, Hr1.out, Lib.hid (by rw [Hn.out, List.take_length]), Hu1.out⟩
  case round =>
    obtain ⟨j, hj, hr, Hev, hu⟩ := hrel
    have hjE : j ≤ E.length := by rw [← Hn.out]; exact hj
    have hlt : (E.take j).length = j := by rw [List.length_take]; omega
    have hT : TabS wr p (.slice a j c) (E.take j) most := ⟨hr, by rw [List.map_take]; exact (Hf.out.upd Hap.out hu).take (by rw [List.length_map]; exact hjE), own_len Hap.out, fun i e h => by injection h with h1 _ h3; rw [← h3]; exact Hnl.out n c (by rw [h1])⟩
    have hla : lenAt p wr = j := by unfold lenAt; rw [hr.cell' (i := 0) (by decide) rfl]; rfl
    have hus := used_any wr p _ _ _ hT (by rw [hlt]; omega) (Hs.out.take j)
    obtain ⟨T, hTT⟩ : ∃ T, T = HD.tsize (E.take j) := ⟨_, rfl⟩
    rw [← hTT] at hus
    have hTb : T ≤ 2 ^ 50 := by have := tsize_le (Hs.out.take j); rw [hlt] at this; omega
    have HT := Lib.hid hTT
    have Hus := Lib.hid hus
    have Hr := Lib.hid hr
    have Hu := Lib.hid hu
    have Hla := Lib.hid hla
    have HjE := Lib.hid hjE
    clear hr hu hla hus hTT hT hlt hjE
    go_wp2_with fail
    refine Hus.out.mono ?_
    rintro e w2 ⟨rfl, hb2⟩
    have hu2 : Upd (fun i => i = p) w w2 := Hu.out.step (Upd.of_below hb2)
    have hr2 := Hr.out.below hb2 Hr.out.lt
    have c0 : w2.cell? ⟨p, 0, none⟩ = some (.slice a j c) := hr2.cell' (i := 0) (by decide) rfl
    have fz := hr2.unfrozen 0 none
    have Hr2 := Lib.hid hr2
    have Hu2 := Lib.hid hu2
    clear hb2 hr2 hu2
    by_cases hgt : most < T
    · have hgI : (most : Int) < (T : Int) := by omega
      have dg : decide ((most : Int) < (T : Int)) = true := decide_eq_true hgI
      have hjp : 0 < j := by
        rcases Nat.eq_zero_or_pos j with rfl | h
        · rw [HT.out] at hgt; simp [HD.tsize] at hgt
        · exact h
      obtain ⟨i, rfl⟩ : ∃ i, j = i + 1 := ⟨j - 1, by omega⟩
      have hjc : i ≤ c := by omega
      have hev2 : HD.evict most (E.take i).reverse = HD.evict most E.reverse := by
        rw [← Hev.out, show E.take (i + 1) = E.take i ++ [E[i]'(by have := HjE.out; omega)] from (List.take_append_getElem (by have := HjE.out; omega)).symm, List.reverse_append]
        show _ = HD.evict most (_ :: (E.take i).reverse)
        rw [HD.evict, if_pos]
        have : (E[i]'(by have := HjE.out; omega)) :: (E.take i).reverse = (E.take (i + 1)).reverse := by
          rw [show E.take (i + 1) = E.take i ++ [E[i]'(by have := HjE.out; omega)] from (List.take_append_getElem (by have := HjE.out; omega)).symm, List.reverse_append]; rfl
        rw [this, HD.tsize_rev, ← HT.out]
        exact hgt
      have Hev2 := Lib.hid hev2
      have hwi : IntKind.i64.wrap ((i : Nat) : Int) = (i : Int) := by rw [IntKind.wrap_i64]; omega
      have hiI : (i : Int) ≤ (c : Int) := by omega
      clear hev2
      go_wp2_with fail
      refine wp_region_held_drew (S := (fun _ => True)) (by kernel_rfl) (trivial) (fun hHeld => ?_)
      refine takeH 0 (v := ?_) rfl rfl (by kernel_rfl) (by kernel_rfl) (by kernel_rfl) (fun _ _ _ h => h) (Or.inl ⟨by rfl, ?_⟩) (by assumption) ?_
      rotate_left
      · (intro w hSw; (try dsimp only at hSw); go_simp <;> with_reducible rfl)
      simp only [List.setIfInBounds_toArray, List.set_cons_zero, List.set_cons_succ]
      refine takeH 1 (v := ?_) rfl rfl (by kernel_rfl) (by kernel_rfl) (by kernel_rfl) (fun _ _ _ h => h) (Or.inl ⟨by rfl, ?_⟩) (by assumption) ?_
      rotate_left
      · (intro w hSw; (try dsimp only at hSw); go_simp <;> with_reducible rfl)
      simp only [List.setIfInBounds_toArray, List.set_cons_zero, List.set_cons_succ]
      refine takeH 2 (v := ?_) rfl rfl (by kernel_rfl) (by kernel_rfl) (by kernel_rfl) (fun _ _ _ h => h) (Or.inl ⟨by rfl, ?_⟩) (by assumption) ?_
      rotate_left
      · (intro w hSw; (try dsimp only at hSw); go_simp <;> with_reducible rfl)
      simp only [List.setIfInBounds_toArray, List.set_cons_zero, List.set_cons_succ]
      refine takeH 3 (v := ?_) rfl rfl (by kernel_rfl) (by kernel_rfl) (by kernel_rfl) (fun _ _ _ h => h) (Or.inl ⟨by rfl, ?_⟩) (by assumption) ?_
      rotate_left
      · (intro w hSw; (try dsimp only at hSw); go_simp <;> with_reducible rfl)
      simp only [List.setIfInBounds_toArray, List.set_cons_zero, List.set_cons_succ]
      refine takeH 5 (v := ?_) rfl rfl (by kernel_rfl) (by kernel_rfl) (by kernel_rfl) (fun _ _ _ h => h) (Or.inl ⟨by rfl, ?_⟩) (by assumption) ?_
      rotate_left
      · (intro w hSw; (try dsimp only at hSw); go_simp <;> with_reducible rfl)
      simp only [List.setIfInBounds_toArray, List.set_cons_zero, List.set_cons_succ]
      refine takeH 6 (v := ?_) rfl rfl (by kernel_rfl) (by kernel_rfl) (by kernel_rfl) (fun _ _ _ h => h) (Or.inl ⟨by rfl, ?_⟩) (by assumption) ?_
      rotate_left
      · (intro w hSw; (try dsimp only at hSw); go_simp <;> with_reducible rfl)
      simp only [List.setIfInBounds_toArray, List.set_cons_zero, List.set_cons_succ]
      refine takeH 7 (v := ?_) rfl rfl (by kernel_rfl) (by kernel_rfl) (by kernel_rfl) (fun _ _ _ h => h) (Or.inl ⟨by rfl, ?_⟩) (by assumption) ?_
      rotate_left
      · (intro w hSw; (try dsimp only at hSw); go_simp <;> with_reducible rfl)
      simp only [List.setIfInBounds_toArray, List.set_cons_zero, List.set_cons_succ]
      refine wpAnyH_ready (rs := [4, 8]) (by kernel_rfl) (by simp) ?_
      refine AllReadyH.cons rfl (fun K hK => ?_) (AllReadyH.cons rfl (fun K hK => ?_) AllReadyH.nil)
      · go_simp
        refine hK.out _ _ trivial (fun hHeld => ?_)
        clear hK K
        refine wpAnyH_ready (rs := [8]) (by kernel_rfl) (by simp) ?_
        refine AllReadyH.cons rfl (fun K hK => ?_) AllReadyH.nil
        go_simp
        refine hK.out _ _ trivial (fun hHeld => ?_)
        clear hK K
        refine takeH 9 (v := ?_) rfl rfl (by kernel_rfl) (by kernel_rfl) (by kernel_rfl) (fun _ _ _ h => h) (Or.inl ⟨by rfl, ?_⟩) (by assumption) ?_
        rotate_left
        · (intro w hSw; (try dsimp only at hSw); go_simp <;> with_reducible rfl)
        simp only [List.setIfInBounds_toArray, List.set_cons_zero, List.set_cons_succ]
        refine takeH 10 (v := ?_) rfl rfl (by kernel_rfl) (by kernel_rfl) (by kernel_rfl) (fun _ _ _ h => h) (Or.inl ⟨by rfl, ?_⟩) (by assumption) ?_
        rotate_left
        · (intro w hSw; (try dsimp only at hSw); go_simp <;> with_reducible rfl)
        simp only [List.setIfInBounds_toArray, List.set_cons_zero, List.set_cons_succ]
        refine takeH 11 (v := ?_) rfl rfl (by kernel_rfl) (by kernel_rfl) (by kernel_rfl) (fun _ _ _ h => h) (Or.inl ⟨by rfl, ?_⟩) (by assumption) ?_
        rotate_left
        · (intro w hSw; (try dsimp only at hSw); go_simp <;> with_reducible rfl)
        simp only [List.setIfInBounds_toArray, List.set_cons_zero, List.set_cons_succ]
        refine takeH 12 (v := ?_) rfl rfl (by kernel_rfl) (by kernel_rfl) (by kernel_rfl) (fun _ _ _ h => h) (Or.inl ⟨by rfl, ?_⟩) (by assumption) ?_
        rotate_left
        · (intro w hSw; (try dsimp only at hSw); go_simp <;> with_reducible rfl)
        simp only [List.setIfInBounds_toArray, List.set_cons_zero, List.set_cons_succ]
        refine takeH 13 (v := ?_) rfl rfl (by kernel_rfl) (by kernel_rfl) (by kernel_rfl) (fun _ _ _ h => h) (Or.inl ⟨by rfl, ?_⟩) (by assumption) ?_
        rotate_left
        · (intro w hSw; (try dsimp only at hSw); go_simp <;> with_reducible rfl)
        simp only [List.setIfInBounds_toArray, List.set_cons_zero, List.set_cons_succ]
        refine wpAnyH_ready (rs := [14]) (by kernel_rfl) (by simp) ?_
        refine AllReadyH.cons rfl (fun K hK => ?_) AllReadyH.nil
        go_simp
        refine hK.out _ _ trivial (fun hHeld => ?_)
        clear hK K
        refine wpAnyH_done (by kernel_rfl) ?_ _
        clear hHeld
        go_wp2_with fail
        have hr3 : Row (w2.setCell ⟨p, 0, none⟩ (.slice a i c)).drew p 2 (fun q => if q = 0 then .slice a i c else .int .i64 (most : Nat)) := (tabRow_set0 (v' := .slice a i c) Hr2.out).of_heap rfl
        refine ⟨⟨i, by omega, hr3, Hev2, (Hu2.out.setCell (a := ⟨p, 0, none⟩) (Or.inl rfl) _).drew⟩, ?_⟩
        have h3 : lenAt p (w2.setCell ⟨p, 0, none⟩ (.slice a i c)).drew = i := by unfold lenAt; rw [hr3.cell' (i := 0) (by decide) rfl]; rfl
        rw [h3, Hla.out]; omega
      · go_simp
        refine hK.out _ _ trivial (fun hHeld => ?_)
        clear hK K
        refine takeH 9 (v := ?_) rfl rfl (by kernel_rfl) (by kernel_rfl) (by kernel_rfl) (fun _ _ _ h => h) (Or.inl ⟨by rfl, ?_⟩) (by assumption) ?_
        rotate_left
        · (intro w hSw; (try dsimp only at hSw); go_simp <;> with_reducible rfl)
        simp only [List.setIfInBounds_toArray, List.set_cons_zero, List.set_cons_succ]
        refine takeH 10 (v := ?_) rfl rfl (by kernel_rfl) (by kernel_rfl) (by kernel_rfl) (fun _ _ _ h => h) (Or.inl ⟨by rfl, ?_⟩) (by assumption) ?_
        rotate_left
        · (intro w hSw; (try dsimp only at hSw); go_simp <;> with_reducible rfl)
        simp only [List.setIfInBounds_toArray, List.set_cons_zero, List.set_cons_succ]
        refine wpAnyH_ready (rs := [4]) (by kernel_rfl) (by simp) ?_
        refine AllReadyH.cons rfl (fun K hK => ?_) AllReadyH.nil
        go_simp
        refine hK.out _ _ trivial (fun hHeld => ?_)
        clear hK K
        refine takeH 11 (v := ?_) rfl rfl (by kernel_rfl) (by kernel_rfl) (by kernel_rfl) (fun _ _ _ h => h) (Or.inl ⟨by rfl, ?_⟩) (by assumption) ?_
        rotate_left
        · (intro w hSw; (try dsimp only at hSw); go_simp <;> with_reducible rfl)
        simp only [List.setIfInBounds_toArray, List.set_cons_zero, List.set_cons_succ]
        refine takeH 12 (v := ?_) rfl rfl (by kernel_rfl) (by kernel_rfl) (by kernel_rfl) (fun _ _ _ h => h) (Or.inl ⟨by rfl, ?_⟩) (by assumption) ?_
        rotate_left
        · (intro w hSw; (try dsimp only at hSw); go_simp <;> with_reducible rfl)
        simp only [List.setIfInBounds_toArray, List.set_cons_zero, List.set_cons_succ]
        refine takeH 13 (v := ?_) rfl rfl (by kernel_rfl) (by kernel_rfl) (by kernel_rfl) (fun _ _ _ h => h) (Or.inl ⟨by rfl, ?_⟩) (by assumption) ?_
        rotate_left
        · (intro w hSw; (try dsimp only at hSw); go_simp <;> with_reducible rfl)
        simp only [List.setIfInBounds_toArray, List.set_cons_zero, List.set_cons_succ]
        refine wpAnyH_ready (rs := [14]) (by kernel_rfl) (by simp) ?_
        refine AllReadyH.cons rfl (fun K hK => ?_) AllReadyH.nil
        go_simp
        refine hK.out _ _ trivial (fun hHeld => ?_)
        clear hK K
        refine wpAnyH_done (by kernel_rfl) ?_ _
        clear hHeld
        go_wp2_with fail
        have hr3 : Row (w2.setCell ⟨p, 0, none⟩ (.slice a i c)).drew p 2 (fun q => if q = 0 then .slice a i c else .int .i64 (most : Nat)) := (tabRow_set0 (v' := .slice a i c) Hr2.out).of_heap rfl
        refine ⟨⟨i, by omega, hr3, Hev2, (Hu2.out.setCell (a := ⟨p, 0, none⟩) (Or.inl rfl) _).drew⟩, ?_⟩
        have h3 : lenAt p (w2.setCell ⟨p, 0, none⟩ (.slice a i c)).drew = i := by unfold lenAt; rw [hr3.cell' (i := 0) (by decide) rfl]; rfl
        rw [h3, Hla.out]; omega
    · have hgI : ¬ (most : Int) < (T : Int) := by omega
      have dg : decide ((most : Int) < (T : Int)) = false := decide_eq_false hgI
      go_wp2_with fail
      go_end0
      have hid : HD.evict most (E.take j).reverse = (E.take j).reverse := HD.evict_id (by rw [HD.tsize_rev, ← HT.out]; omega)
      have hfin : (HD.evict most E.reverse).reverse = E.take j := by rw [← Hev.out, hid, List.reverse_reverse]
      rw [hfin]
      exact ⟨rfl, .slice a j c, ⟨Hr2.out, by rw [List.map_take]; exact (Hf.out.upd Hap.out Hu2.out).take (by rw [List.length_map]; exact HjE.out), own_len Hap.out, fun i e h => by injection h with h1 _ h3; rw [← h3]; exact Hnl.out n c (by rw [h1])⟩, (by cases a <;> rfl), Hu2.out⟩
end Go.Proofs.YtmlnmllnlekcgaaDoor
/-
  The specification's table: what is added.
-/
namespace Go.Proofs.YtmlnmllnlekcgaaDoor
open Go.ChangeShapes Go.WideShapes Go.ChangeAt Go.RowKit

theorem grownBy_refl (w : World) (o : Option Nat) : w.grownBy w o := ⟨rfl, rfl, rfl, Nat.le_refl _, fun _ _ _ => rfl⟩
/-- 'append(s, x ..)' within a region that draws its order, x nil or not. -/
theorem step_append_own_any {P : Program} {w : World} {ops : Array Oper} {o : Oper} {a : Act} {K : Act → World → Prop} {Q : Exit → Act → World → Prop} {E : Prop} (hgd : o.guard = none) (d : Nat) (hdst : o.dst = some d) (s x : Operand) (t : TypeId)
    (ho : o.op = .call { callee := .builtin .append, args := #[s, x], argTypes := #[t, t] })
    (base : Nat) (e : TypeId) (i : TypeInfo) (z : Value) (size bytes : Nat) (ht : P.underlying t = some (.slice e)) (hi : P.info? e = some i) (hz : i.zero = some z)
    (hsize : i.size = size) (hby : i.bytes = bytes) (hzs : z.cells.size = size) (hsz : 0 < size)
    (v : Value) (n : Nat) (xs : List Value) (hs : a.eval s = v) (hown : w.ownsRow base e size v n xs)
    (sa : Option Addr) (m c : Nat) (news : List Value) (hx : a.eval x = .slice sa m c) (hsa : (sa = none ∧ c = 0 ∧ m = 0 ∧ news = []) ∨ ∃ ad, sa = some ad ∧ ∀ j u, news[j]? = some u → w.cell? (ad.add j) = some u) (hl : news.length = m * size) (h1 : ∀ u ∈ news, u.oneCell' = true)
    (h63 : n + m ≤ maxLen) (hbytes : (n + m) * bytes ≤ 140737488355328) (hbase : base ≤ w.heap.size)
    (h : ∀ v' w', w'.ownsRow base e size v' (n + m) (xs ++ news) → w.grownBy w' v.ownBlock → (v'.ownBlock = v.ownBlock ∨ v'.ownBlock = some w.heap.size) → K { a with tmps := a.tmps.setIfInBounds d v' } w') :
    if Region.wanted o (yielded ops a.tmps) = true then Oper.wp P o a w K Q else E := by
  rcases hsa with ⟨rfl, rfl, rfl, rfl⟩ | ⟨ad, rfl, hnews⟩
  · rw [if_pos (by simp [Region.wanted, hgd])]
    have hr := run_append_owned_none (P := P) (w := w) base t o.type e i size ht hi v n xs hown
    unfold Oper.wp execOp
    simp only [ho, resolve, invoke, builtin, Sem.run_bind, Sem.run_pure, Result.andThen_ok, List.map_toArray, List.map_cons, List.map_nil, hs, hx, hr]
    have h' := h v w (by rw [List.append_nil, Nat.add_zero]; exact hown) (grownBy_refl w _) (Or.inl rfl)
    show K (a.put o.dst v) w
    rw [hdst]
    exact h'
  · exact step_append_own_at hgd d hdst s x t ho base e i z size bytes ht hi hz hsize hby hzs hsz v n xs hs hown ad m c news hx hl hnews h1 h63 hbytes hbase fun v' w' g1 g2 _ g4 => h v' w' g1 g2 g4
theorem flds_cons (f : HD.Fld) (l : List HD.Fld) : flds (f :: l) = fCells f ++ flds l := rfl
/-- What is added stands in memory; what is left to do is to let entries go. -/
theorem add_end0 {w w1 w3 : World} {p b : Nat} {v v3 : Value} {E : List (HD.Bs × HD.Bs)} {max : Nat} {e : HD.Bs × HD.Bs} (h : TabS w p v E max) (hb1 : Below w.heap.size w w1) (hb : b = w1.heap.size) (o : Obj)
    (hown : w3.ownsRow b 30 3 v3 (1 + E.length) (fCells (sFld e) ++ flds (E.map sFld))) (hg : (w1.alloc o).grownBy w3 (some b)) (hat : v3.ownBlock = some b ∨ v3.ownBlock = some (w1.alloc o).heap.size) :
    TabS (w3.setCell ⟨p, 0, none⟩ v3) p v3 (e :: E) max ∧ Upd (fun i => i = p) w (w3.setCell ⟨p, 0, none⟩ v3) ∧ w3.cell? ⟨p, 0, none⟩ = some v ∧ w3.frozen? ⟨p, 0, none⟩ = false ∧ ∀ g, v3.ownBlock = some g → w.heap.size ≤ g := by
  have hp := h.row.lt
  have hs1 := hb1.size
  have hsa : (w1.alloc o).heap.size = w1.heap.size + 1 := by simp
  have hp3 : w3.heap[p]? = w.heap[p]? := (hg.block p (by omega) (fun e => by injection e with e; omega)).trans ((Below.heap_alloc w1 o p (by omega)).trans (hb1.block p hp))
  have hr3 := h.row.of_heap hp3
  have hv3 : ∃ g, v3.ownBlock = some g ∧ b ≤ g := by
    rcases hat with h | h
    · exact ⟨b, h, Nat.le_refl _⟩
    · exact ⟨_, h, by omega⟩
  obtain ⟨g, hvg, hbg⟩ := hv3
  have hgp : g ≠ p := by omega
  have hu : Upd (fun i => i = p) w w3 := ⟨hg.os.trans hb1.os, hg.tape.trans hb1.tape, hg.output.trans hb1.output, by have := hg.size; omega, fun k hk _ => (hg.block k (by omega) (fun e => by injection e with e; omega)).trans ((Below.heap_alloc w1 o k (by omega)).trans (hb1.block k hk))⟩
  refine ⟨⟨tabRow_set0 hr3, ?_, ?_, ?_⟩, hu.setCell (a := ⟨p, 0, none⟩) (Or.inl rfl) _, hr3.cell' (i := 0) (by decide) rfl, hr3.unfrozen 0 none, fun q hq => by rw [hvg] at hq; injection hq with hq; omega⟩
  · refine FSl.of_own (B := b) (e := 30) ?_
    have h2 := ownsRow_of_heap hown (w' := w3.setCell ⟨p, 0, none⟩ v3) fun q hq => other_set (by rw [hvg] at hq; injection hq with hq; omega)
    have hv : ∃ a c, v3 = .slice a (1 + E.length) c := own_form hown
    obtain ⟨a, c, rfl⟩ := hv
    simpa [Nat.add_comm, flds_cons] using h2
  · rw [hvg]; exact fun e => hgp (by injection e)
  · intro n c e
    rw [e] at hvg; cases hvg
set_option maxHeartbeats 4000000 in
set_option maxRecDepth 100000 in
theorem tadd_any (w : World) (p : Nat) (v : Value) (E : List (HD.Bs × HD.Bs)) (max : Nat) (f : HD.Fld) (h : TabS w p v E max) (hm : max ≤ 2 ^ 31) (hE : E.length + 1 ≤ 2 ^ 22) (hs : SmallE E) (hf : f.name.length + f.value.length ≤ 2 ^ 20) :
    Calls Tryd.prog 8 #[.pointer (some ⟨p, 0, none⟩), .agg #[.string ⟨f.name.toArray⟩, .string ⟨f.value.toArray⟩, .bool f.sens]] w fun e w' => e = .returned (.tuple #[]) ∧ ∃ v', TabS w' p v' (HD.sadd max E (HD.pent f)) max ∧ Upd (fun i => i = p) w w' ∧ ∀ g, v'.ownBlock = some g → w.heap.size ≤ g := by
  obtain ⟨nm, vl, ss⟩ := f
  have hs2 : SmallE ((nm, vl) :: E) := fun e he => by
    rcases List.mem_cons.1 he with rfl | he
    · exact hf
    · exact hs e he
  show Calls _ _ _ w fun e w' => e = .returned (.tuple #[]) ∧ ∃ v', TabS w' p v' (HD.sadd max E (nm, vl)) max ∧ Upd (fun i => i = p) w w' ∧ ∀ g, v'.ownBlock = some g → w.heap.size ≤ g
  unfold HD.sadd
  obtain ⟨i0, hi, hz0, hz1, hzb⟩ := info_parts infoFld
  obtain ⟨a, c, rfl, hcap, hcell⟩ := h.fsl
  obtain ⟨n, hn⟩ : ∃ n, n = (E.map sFld).length := ⟨_, rfl⟩
  rw [← hn] at h hcap
  have hp := h.row.lt
  have hsrc0 : (a = none ∧ c = 0 ∧ n = 0 ∧ flds (E.map sFld) = []) ∨ ∃ ad, a = some ad ∧ (E.map sFld ≠ [] → ∀ j u, (flds (E.map sFld))[j]? = some u → w.cell? (ad.add j) = some u) := by
    cases a with
    | none =>
      left
      have hc := h.nl n c rfl
      have : E.map sFld = [] := by
        apply List.eq_nil_of_length_eq_zero; omega
      exact ⟨rfl, hc, by omega, by rw [this]; rfl⟩
    | some ad =>
      refine Or.inr ⟨ad, rfl, fun hne j u hu => ?_⟩
      obtain ⟨g, o, e, hc⟩ := hcell hne
      injection e with e
      subst e
      rw [Lib.addr_add]
      exact hc j u hu
  have hn' : n = E.length := by rw [hn, List.length_map]
  have HT := Lib.hid h
  have Hi := Lib.hid hi
  have Hn := Lib.hid hn'
  have Hm := Lib.hid hm
  have HE := Lib.hid hE
  have Hs2 := Lib.hid hs2
  have Hsrc0 := Lib.hid hsrc0
  have hn22 : n ≤ 2 ^ 22 := by omega
  have Hfl : Hid ((flds (E.map sFld)).length = n * 3) := Lib.hid (by rw [flds_len, hn])
  clear h hi hm hE hs hs2 hsrc0 hcell hn' hn hcap
  go_enter Tryd.func8, Tryd.ntmps8
  go_upto_region 2 with (fail)
  have hb1 : Below w.heap.size w (w.alloc (.cells #[.string ⟨nm.toArray⟩, .string ⟨vl.toArray⟩, .bool false] 30)) := (Below.refl _ _).alloc (Nat.le_refl _) _
  have hrx : Row (w.alloc (.cells #[.string ⟨nm.toArray⟩, .string ⟨vl.toArray⟩, .bool false] 30)) w.heap.size 3 _ := Row.of_cells w #[.string ⟨nm.toArray⟩, .string ⟨vl.toArray⟩, .bool false] 30 (by decide) 3 rfl
  generalize w.alloc (.cells #[.string ⟨nm.toArray⟩, .string ⟨vl.toArray⟩, .bool false] 30) = w0 at hb1 hrx ⊢
  have hS0 : w0.cell? ⟨w.heap.size, 0, none⟩ = some (.string ⟨nm.toArray⟩) ∧ w0.cell? ⟨w.heap.size, 1, none⟩ = some (.string ⟨vl.toArray⟩) ∧ w0.cell? ⟨w.heap.size, 2, none⟩ = some (.bool false) := ⟨hrx.cell' (i := 0) (by decide) rfl, hrx.cell' (i := 1) (by decide) rfl, hrx.cell' (i := 2) (by decide) rfl⟩
  have hbl0 := hrx.lt
  obtain ⟨w1, hw1⟩ : ∃ w1, w1 = w0.drew := ⟨_, rfl⟩
  have hb1 : Below w.heap.size w w1 := by rw [hw1]; exact hb1.drew
  have hS0 : w1.cell? ⟨w.heap.size, 0, none⟩ = some (.string ⟨nm.toArray⟩) ∧ w1.cell? ⟨w.heap.size, 1, none⟩ = some (.string ⟨vl.toArray⟩) ∧ w1.cell? ⟨w.heap.size, 2, none⟩ = some (.bool false) := by rw [hw1]; exact hS0
  have hbl : w.heap.size < w1.heap.size := by rw [hw1]; exact hbl0
  have hr1 := HT.out.row.below hb1 hp
  have e0 : w1.cell? ⟨p, 0, none⟩ = some (.slice a n c) := hr1.cell' (i := 0) (by decide) rfl
  have hpb : p ≠ w.heap.size := by omega
  have hown2 := own_new (w := w1) #[.string ⟨nm.toArray⟩, .string ⟨vl.toArray⟩, .bool false] 30 3 1 rfl (by decide)
  have hS1 : (w1.alloc (.cells #[.string ⟨nm.toArray⟩, .string ⟨vl.toArray⟩, .bool false] 30)).cell? ⟨w.heap.size, 0, none⟩ = some (.string ⟨nm.toArray⟩) ∧ (w1.alloc (.cells #[.string ⟨nm.toArray⟩, .string ⟨vl.toArray⟩, .bool false] 30)).cell? ⟨w.heap.size, 1, none⟩ = some (.string ⟨vl.toArray⟩) ∧ (w1.alloc (.cells #[.string ⟨nm.toArray⟩, .string ⟨vl.toArray⟩, .bool false] 30)).cell? ⟨w.heap.size, 2, none⟩ = some (.bool false) := by
    have hk := Below.heap_alloc w1 (.cells #[.string ⟨nm.toArray⟩, .string ⟨vl.toArray⟩, .bool false] 30) w.heap.size hbl
    exact ⟨(World.cell?_of_block (a := ⟨w.heap.size, 0, none⟩) hk).trans hS0.1, (World.cell?_of_block (a := ⟨w.heap.size, 1, none⟩) hk).trans hS0.2.1, (World.cell?_of_block (a := ⟨w.heap.size, 2, none⟩) hk).trans hS0.2.2⟩
  have e1 : (w1.alloc (.cells #[.string ⟨nm.toArray⟩, .string ⟨vl.toArray⟩, .bool false] 30)).cell? ⟨p, 0, none⟩ = some (.slice a n c) := (World.cell?_of_block (a := ⟨p, 0, none⟩) (Below.heap_alloc w1 _ p hr1.lt)).trans e0
  have hsrc : (a = none ∧ c = 0 ∧ n = 0 ∧ flds (E.map sFld) = []) ∨ ∃ ad, a = some ad ∧ ∀ j u, (flds (E.map sFld))[j]? = some u → (w1.alloc (.cells #[.string ⟨nm.toArray⟩, .string ⟨vl.toArray⟩, .bool false] 30)).cell? (ad.add j) = some u :=
    Hsrc0.out.imp id fun ⟨ad, e, hc⟩ => ⟨ad, e, fun j u hu => by
      have h0 := hc (fun e => by rw [e] at hu; simp [flds] at hu) j u hu
      have hlt := World.block_lt_of_cell? w _ h0
      exact (World.cell?_of_block ((Below.heap_alloc w1 _ _ (Nat.lt_of_lt_of_le hlt hb1.size)).trans (hb1.block _ hlt))).trans h0⟩
  have Hsrc := Lib.hid hsrc
  have Hown2 := Lib.hid hown2
  have HS0 := Lib.hid hS0
  have HS1 := Lib.hid hS1
  have Hb1 := Lib.hid hb1
  clear hsrc hown2 hS1 hb1 hrx hr1 hbl0 hS0
  refine wp_region_held_drew (S := (fun w' => w'.cell? ⟨w.heap.size, 0, none⟩ = some (.string ⟨nm.toArray⟩) ∧ w'.cell? ⟨w.heap.size, 1, none⟩ = some (.string ⟨vl.toArray⟩) ∧ w'.cell? ⟨w.heap.size, 2, none⟩ = some (.bool false))) (by kernel_rfl) ((by rw [← hw1]; exact HS0.out)) (fun hHeld => ?_)
  refine takeH 0 (v := ?_) rfl rfl (by kernel_rfl) (by kernel_rfl) (by kernel_rfl) (fun _ _ _ h => h) (Or.inl ⟨by rfl, ?_⟩) (by assumption) ?_
  rotate_left
  · (intro w hSw; (try dsimp only at hSw); go_simp <;> with_reducible rfl)
  simp only [List.setIfInBounds_toArray, List.set_cons_zero, List.set_cons_succ]
  refine takeH 1 (v := ?_) rfl rfl (by kernel_rfl) (by kernel_rfl) (by kernel_rfl) (fun _ _ _ h => h) (Or.inl ⟨by rfl, ?_⟩) (by assumption) ?_
  rotate_left
  · (intro w hSw; (try dsimp only at hSw); go_simp <;> with_reducible rfl)
  simp only [List.setIfInBounds_toArray, List.set_cons_zero, List.set_cons_succ]
  refine takeH 3 (v := ?_) rfl rfl (by kernel_rfl) (by kernel_rfl) (by kernel_rfl) (fun _ _ _ h => h) (Or.inl ⟨by rfl, ?_⟩) (by assumption) ?_
  rotate_left
  · (intro w hSw; (try dsimp only at hSw); go_simp <;> with_reducible rfl)
  simp only [List.setIfInBounds_toArray, List.set_cons_zero, List.set_cons_succ]
  refine takeH 4 (v := ?_) rfl rfl (by kernel_rfl) (by kernel_rfl) (by kernel_rfl) (fun _ _ _ h => h) (Or.inl ⟨by rfl, ?_⟩) (by assumption) ?_
  rotate_left
  · (intro w hSw; (try dsimp only at hSw); go_simp <;> with_reducible rfl)
  simp only [List.setIfInBounds_toArray, List.set_cons_zero, List.set_cons_succ]
  refine takeH 5 (v := ?_) rfl rfl (by kernel_rfl) (by kernel_rfl) (by kernel_rfl) (fun _ _ _ h => h) (Or.inl ⟨by rfl, ?_⟩) (by assumption) ?_
  rotate_left
  · (intro w hSw; (try dsimp only at hSw); go_simp <;> with_reducible rfl)
  simp only [List.setIfInBounds_toArray, List.set_cons_zero, List.set_cons_succ]
  rw [← hw1]
  clear hw1
  refine wpAnyH_ready (rs := [2, 6]) (by kernel_rfl) (by simp) ?_
  refine AllReadyH.cons rfl (fun K hK => ?_) (AllReadyH.cons rfl (fun K hK => ?_) AllReadyH.nil)
  · go_simp
    refine hK.out _ _ (by exact HS1.out) (fun hHeld => ?_)
    clear hK K
    refine wpAnyH_ready (rs := [6]) (by kernel_rfl) (by simp) ?_
    refine AllReadyH.cons rfl (fun K hK => ?_) AllReadyH.nil
    go_simp
    refine hK.out _ _ (by exact HS1.out) (fun hHeld => ?_)
    clear hK K
    refine wpAnyH_ready (rs := [7]) (by kernel_rfl) (by simp) ?_
    refine AllReadyH.cons rfl (fun K hK => ?_) AllReadyH.nil
    refine step_append_own_any rfl 12 rfl _ _ 22 rfl w1.heap.size 30 i0 (.agg #[.string ByteArray.empty, .string ByteArray.empty, .bool false]) 3 40 Tryd.underlying22 Hi.out hz0 hz1 hzb rfl (by decide) (.slice (some ⟨w1.heap.size, 0, none⟩) 1 1) 1 (fCells (sFld (nm, vl))) rfl (by exact Hown2.out) a n c (flds (E.map sFld)) rfl (by exact Hsrc.out) Hfl.out (flds_one _) (by unfold maxLen; omega) (by omega) (by simp) ?_
    intro v3 w3 hown3 hgrow3 hat3
    rw [Hn.out] at hown3
    obtain ⟨a3, c3, rfl⟩ := own_form hown3
    obtain ⟨hT3, hu3, k0, kf, hg3⟩ := add_end0 HT.out Hb1.out rfl _ hown3 (by exact ⟨hgrow3.os, hgrow3.tape, hgrow3.output, hgrow3.size, hgrow3.block⟩) (by exact hat3)
    have hbx3 := (hgrow3.block w.heap.size (by show w.heap.size < (w1.alloc _).heap.size; simp; omega) (fun e => by injection e with e; have e : w.heap.size = w1.heap.size := e; omega)).trans (Below.heap_alloc w1 (.cells #[.string ⟨nm.toArray⟩, .string ⟨vl.toArray⟩, .bool false] 30) w.heap.size hbl)
    have hS3 : w3.cell? ⟨w.heap.size, 0, none⟩ = some (.string ⟨nm.toArray⟩) ∧ w3.cell? ⟨w.heap.size, 1, none⟩ = some (.string ⟨vl.toArray⟩) ∧ w3.cell? ⟨w.heap.size, 2, none⟩ = some (.bool false) := ⟨(World.cell?_of_block (a := ⟨w.heap.size, 0, none⟩) hbx3).trans HS0.out.1, (World.cell?_of_block (a := ⟨w.heap.size, 1, none⟩) hbx3).trans HS0.out.2.1, (World.cell?_of_block (a := ⟨w.heap.size, 2, none⟩) hbx3).trans HS0.out.2.2⟩
    refine hK.out _ _ (by exact hS3) (fun hHeld => ?_)
    clear hK K
    have HT3 := Lib.hid hT3
    have Hu3 := Lib.hid hu3
    have HS3 := Lib.hid hS3
    have Hg3 := Lib.hid hg3
    clear hg3 hown3 hgrow3 hat3 hT3 hu3 hS3 hbx3
    simp only [List.setIfInBounds_toArray, List.set_cons_zero, List.set_cons_succ]
    refine takeH 8 (v := ?_) rfl rfl (by kernel_rfl) (by kernel_rfl) (by kernel_rfl) (fun _ _ _ h => h) (Or.inl ⟨by rfl, ?_⟩) (by assumption) ?_
    rotate_left
    · (intro w hSw; (try dsimp only at hSw); go_simp <;> with_reducible rfl)
    simp only [List.setIfInBounds_toArray, List.set_cons_zero, List.set_cons_succ]
    refine takeH 9 (v := ?_) rfl rfl (by kernel_rfl) (by kernel_rfl) (by kernel_rfl) (fun _ _ _ h => h) (Or.inl ⟨by rfl, ?_⟩) (by assumption) ?_
    rotate_left
    · (intro w hSw; (try dsimp only at hSw); go_simp <;> with_reducible rfl)
    simp only [List.setIfInBounds_toArray, List.set_cons_zero, List.set_cons_succ]
    refine wpAnyH_ready (rs := [10]) (by kernel_rfl) (by simp) ?_
    refine AllReadyH.cons rfl (fun K hK => ?_) AllReadyH.nil
    go_simp
    have hS4 : (w3.setCell ⟨p, 0, none⟩ (.slice a3 (1 + E.length) c3)).cell? ⟨w.heap.size, 0, none⟩ = some (.string ⟨nm.toArray⟩) ∧ (w3.setCell ⟨p, 0, none⟩ (.slice a3 (1 + E.length) c3)).cell? ⟨w.heap.size, 1, none⟩ = some (.string ⟨vl.toArray⟩) ∧ (w3.setCell ⟨p, 0, none⟩ (.slice a3 (1 + E.length) c3)).cell? ⟨w.heap.size, 2, none⟩ = some (.bool false) := ⟨(cell_other hpb).trans HS3.out.1, (cell_other hpb).trans HS3.out.2.1, (cell_other hpb).trans HS3.out.2.2⟩
    refine hK.out _ _ hS4 (fun hHeld => ?_)
    clear hK K
    refine wpAnyH_done (by kernel_rfl) ?_ _
    clear hHeld
    have hT4 := HT3.out
    have hu4 := Hu3.out
    generalize w3.setCell ⟨p, 0, none⟩ (.slice a3 (1 + E.length) c3) = w4 at hT4 hu4 ⊢
    have m1 : w4.cell? ⟨p, 1, none⟩ = some (.int .i64 (max : Nat)) := hT4.row.cell' (i := 1) (by decide) rfl
    have HT4 := Lib.hid hT4
    have Hu4 := Lib.hid hu4
    clear hT4 hu4 HT3 Hu3 HS3 k0 kf
    go_wp2_with fail
    refine (resize_any w4 p (.slice a3 (1 + E.length) c3) ((nm, vl) :: E) max max HT4.out Hm.out (by rw [List.length_cons]; exact HE.out) (by exact Hs2.out)).mono ?_
    rintro e w5 ⟨rfl, v5, hT5, hv5, hu5⟩
    have Hv5 := Lib.hid hv5
    have HT5 := Lib.hid hT5
    have Hu5 := Lib.hid hu5
    clear hT5 hu5 hv5
    go_wp2_with fail
    go_end0
    exact ⟨rfl, v5, HT5.out, Hu4.out.step Hu5.out, fun g hg => Hg3.out g (by rw [← Hv5.out]; exact hg)⟩
  · go_simp
    refine hK.out _ _ (by exact HS0.out) (fun hHeld => ?_)
    clear hK K
    refine wpAnyH_ready (rs := [2]) (by kernel_rfl) (by simp) ?_
    refine AllReadyH.cons rfl (fun K hK => ?_) AllReadyH.nil
    go_simp
    refine hK.out _ _ (by exact HS1.out) (fun hHeld => ?_)
    clear hK K
    refine wpAnyH_ready (rs := [7]) (by kernel_rfl) (by simp) ?_
    refine AllReadyH.cons rfl (fun K hK => ?_) AllReadyH.nil
    refine step_append_own_any rfl 12 rfl _ _ 22 rfl w1.heap.size 30 i0 (.agg #[.string ByteArray.empty, .string ByteArray.empty, .bool false]) 3 40 Tryd.underlying22 Hi.out hz0 hz1 hzb rfl (by decide) (.slice (some ⟨w1.heap.size, 0, none⟩) 1 1) 1 (fCells (sFld (nm, vl))) rfl (by exact Hown2.out) a n c (flds (E.map sFld)) rfl (by exact Hsrc.out) Hfl.out (flds_one _) (by unfold maxLen; omega) (by omega) (by simp) ?_
    intro v3 w3 hown3 hgrow3 hat3
    rw [Hn.out] at hown3
    obtain ⟨a3, c3, rfl⟩ := own_form hown3
    obtain ⟨hT3, hu3, k0, kf, hg3⟩ := add_end0 HT.out Hb1.out rfl _ hown3 (by exact ⟨hgrow3.os, hgrow3.tape, hgrow3.output, hgrow3.size, hgrow3.block⟩) (by exact hat3)
    have hbx3 := (hgrow3.block w.heap.size (by show w.heap.size < (w1.alloc _).heap.size; simp; omega) (fun e => by injection e with e; have e : w.heap.size = w1.heap.size := e; omega)).trans (Below.heap_alloc w1 (.cells #[.string ⟨nm.toArray⟩, .string ⟨vl.toArray⟩, .bool false] 30) w.heap.size hbl)
    have hS3 : w3.cell? ⟨w.heap.size, 0, none⟩ = some (.string ⟨nm.toArray⟩) ∧ w3.cell? ⟨w.heap.size, 1, none⟩ = some (.string ⟨vl.toArray⟩) ∧ w3.cell? ⟨w.heap.size, 2, none⟩ = some (.bool false) := ⟨(World.cell?_of_block (a := ⟨w.heap.size, 0, none⟩) hbx3).trans HS0.out.1, (World.cell?_of_block (a := ⟨w.heap.size, 1, none⟩) hbx3).trans HS0.out.2.1, (World.cell?_of_block (a := ⟨w.heap.size, 2, none⟩) hbx3).trans HS0.out.2.2⟩
    refine hK.out _ _ (by exact hS3) (fun hHeld => ?_)
    clear hK K
    have HT3 := Lib.hid hT3
    have Hu3 := Lib.hid hu3
    have HS3 := Lib.hid hS3
    have Hg3 := Lib.hid hg3
    clear hg3 hown3 hgrow3 hat3 hT3 hu3 hS3 hbx3
    simp only [List.setIfInBounds_toArray, List.set_cons_zero, List.set_cons_succ]
    refine takeH 8 (v := ?_) rfl rfl (by kernel_rfl) (by kernel_rfl) (by kernel_rfl) (fun _ _ _ h => h) (Or.inl ⟨by rfl, ?_⟩) (by assumption) ?_
    rotate_left
    · (intro w hSw; (try dsimp only at hSw); go_simp <;> with_reducible rfl)
    simp only [List.setIfInBounds_toArray, List.set_cons_zero, List.set_cons_succ]
    refine takeH 9 (v := ?_) rfl rfl (by kernel_rfl) (by kernel_rfl) (by kernel_rfl) (fun _ _ _ h => h) (Or.inl ⟨by rfl, ?_⟩) (by assumption) ?_
    rotate_left
    · (intro w hSw; (try dsimp only at hSw); go_simp <;> with_reducible rfl)
    simp only [List.setIfInBounds_toArray, List.set_cons_zero, List.set_cons_succ]
    refine wpAnyH_ready (rs := [10]) (by kernel_rfl) (by simp) ?_
    refine AllReadyH.cons rfl (fun K hK => ?_) AllReadyH.nil
    go_simp
    have hS4 : (w3.setCell ⟨p, 0, none⟩ (.slice a3 (1 + E.length) c3)).cell? ⟨w.heap.size, 0, none⟩ = some (.string ⟨nm.toArray⟩) ∧ (w3.setCell ⟨p, 0, none⟩ (.slice a3 (1 + E.length) c3)).cell? ⟨w.heap.size, 1, none⟩ = some (.string ⟨vl.toArray⟩) ∧ (w3.setCell ⟨p, 0, none⟩ (.slice a3 (1 + E.length) c3)).cell? ⟨w.heap.size, 2, none⟩ = some (.bool false) := ⟨(cell_other hpb).trans HS3.out.1, (cell_other hpb).trans HS3.out.2.1, (cell_other hpb).trans HS3.out.2.2⟩
    refine hK.out _ _ hS4 (fun hHeld => ?_)
    clear hK K
    refine wpAnyH_done (by kernel_rfl) ?_ _
    clear hHeld
    have hT4 := HT3.out
    have hu4 := Hu3.out
    generalize w3.setCell ⟨p, 0, none⟩ (.slice a3 (1 + E.length) c3) = w4 at hT4 hu4 ⊢
    have m1 : w4.cell? ⟨p, 1, none⟩ = some (.int .i64 (max : Nat)) := hT4.row.cell' (i := 1) (by decide) rfl
    have HT4 := Lib.hid hT4
    have Hu4 := Lib.hid hu4
    clear hT4 hu4 HT3 Hu3 HS3 k0 kf
    go_wp2_with fail
    refine (resize_any w4 p (.slice a3 (1 + E.length) c3) ((nm, vl) :: E) max max HT4.out Hm.out (by rw [List.length_cons]; exact HE.out) (by exact Hs2.out)).mono ?_
    rintro e w5 ⟨rfl, v5, hT5, hv5, hu5⟩
    have Hv5 := Lib.hid hv5
    have HT5 := Lib.hid hT5
    have Hu5 := Lib.hid hu5
    clear hT5 hu5 hv5
    go_wp2_with fail
    go_end0
    exact ⟨rfl, v5, HT5.out, Hu4.out.step Hu5.out, fun g hg => Hg3.out g (by rw [← Hv5.out]; exact hg)⟩
end Go.Proofs.YtmlnmllnlekcgaaDoor
/-
  The specification's entry of an index, of an empty dynamic table.
-/
namespace Go.Proofs.YtmlnmllnlekcgaaDoor
open Go.ChangeShapes Go.WideShapes Go.ChangeAt Go.RowKit

def atSpec : Option (HD.Bs × HD.Bs) → Value
  | some e => .tuple #[.agg #[.string ⟨e.1.toArray⟩, .string ⟨e.2.toArray⟩, .bool false], .bool true]
  | none => .tuple #[.agg #[.string ByteArray.empty, .string ByteArray.empty, .bool false], .bool false]
theorem sCells_at (w : World) (k : Nat) (hk : k < 61) : ∃ e, HD.static[k]? = some e ∧ (w.alloc (.cells sCells 30)).cell? ⟨w.heap.size, k * 3, none⟩ = some (.string ⟨e.1.toArray⟩) ∧ (w.alloc (.cells sCells 30)).cell? ⟨w.heap.size, k * 3 + 1, none⟩ = some (.string ⟨e.2.toArray⟩) ∧ (w.alloc (.cells sCells 30)).cell? ⟨w.heap.size, k * 3 + 2, none⟩ = some (.bool false) := by
  have hk' : k < HD.static.length := by rw [HD.static_len]; exact hk
  obtain ⟨h0, h1, h2⟩ := flds_at (HD.static.map sFld) k (by rw [List.length_map]; exact hk')
  rw [List.getElem_map] at h0 h1 h2
  have key : ∀ j v, (flds (HD.static.map sFld))[j]? = some v → (w.alloc (.cells sCells 30)).cell? ⟨w.heap.size, j, none⟩ = some v := fun j v hv => by
    rw [Lib.cell_of_heap (heap_alloc_new w _), sCells, List.getElem?_toArray]; exact hv
  exact ⟨_, List.getElem?_eq_getElem hk', key _ _ h0, key _ _ h1, key _ _ h2⟩

set_option maxHeartbeats 1000000 in
set_option maxRecDepth 100000 in
theorem specAt_any (t n : Nat) (w : World) (h0 : w.cell? ⟨t, 0, none⟩ = some (.slice none 0 0)) (hn : n ≤ 2 ^ 31) :
    Calls Tryd.prog 13 #[.pointer (some ⟨t, 0, none⟩), .int .i64 (n : Nat)] w fun e w' => e = .returned (atSpec (HD.entAt [] n)) ∧ Below w.heap.size w w' := by
  have htl := World.block_lt_of_cell? w _ h0
  have htl : t < w.heap.size := htl
  have hr0 : Row (w.alloc (.cells hf0 30)) w.heap.size 3 (fun j => hf0.getD j undef) := Row.of_cells w hf0 30 (by decide) 3 rfl
  have hb1 : Below w.heap.size w (w.alloc (.cells hf0 30)) := (Below.refl _ _).alloc (Nat.le_refl _) _
  have hs1 : (w.alloc (.cells hf0 30)).heap.size = w.heap.size + 1 := by simp
  obtain ⟨W1, hW1⟩ : ∃ W1, W1 = w.alloc (.cells #[.string { data := #[] }, .string { data := #[] }, .bool false] 30) := ⟨_, rfl⟩
  have hW1' : w.alloc (.cells hf0 30) = W1 := hW1.symm
  rw [hW1'] at hr0 hb1 hs1
  have Hr0 := Lib.hid hr0
  have Hb1 := Lib.hid hb1
  clear hr0 hb1 hW1'
  have hfin : ∀ (e : Ending) (w2 : World), (e = .returned (.slice (some ⟨W1.heap.size, 0, none⟩) 61 61) ∧ w2 = W1.alloc (.cells sCells 30)) → Row w2 w.heap.size 3 (fun j => hf0.getD j undef) ∧ Below w.heap.size w w2 ∧ w2.cell? ⟨t, 0, none⟩ = some (.slice none 0 0) := fun e w2 h => by
    have hb2 : Below w.heap.size w w2 := by rw [h.2]; exact Hb1.out.alloc Hb1.out.size _
    refine ⟨by rw [h.2]; exact Hr0.out.alloc _, hb2, (hb2.cell (p := ⟨t, 0, none⟩) htl).trans h0⟩
  have hW1s := hW1.symm
  clear hW1
  rcases Nat.eq_zero_or_pos n with rfl | hpos
  · have he : HD.entAt [] 0 = none := rfl
    rw [he]
    go_enter Tryd.func13, Tryd.ntmps13
    go_wp2_with fail
    refine (specStatic_any _).mono ?_
    rintro e w2 h2
    obtain ⟨hr2, hb2, c2⟩ := hfin e w2 h2
    obtain ⟨rfl, -⟩ := h2
    have t0 := hr2.cell' (i := 0) (v := .string ByteArray.empty) (by decide) rfl
    have t1 := hr2.cell' (i := 1) (v := .string ByteArray.empty) (by decide) rfl
    have t2 := hr2.cell' (i := 2) (v := .bool false) (by decide) rfl
    have tf := fun j => hr2.unfrozen j none
    have Hb2 := Lib.hid hb2
    clear hb2 hr2
    go_wp2_with fail
    (try simp only [Exit.inBlock, Exit.then])
    refine bodyPost_ret (v := atSpec none) ?_ rfl ?_
    · simp only [results, Tryd.results13]
      go_simp
      rfl
    exact ⟨rfl, ((Hb2.out.setCell (by exact Nat.le_refl _) _).setCell (by exact Nat.le_refl _) _).setCell (by exact Nat.le_refl _) _⟩
  · have hn1 : decide ((n : Int) < 1) = false := by simp; omega
    rcases Nat.lt_or_ge 61 n with hgt | hle
    · have hen : HD.entAt [] n = none := by unfold HD.entAt; rw [if_neg (by omega), if_neg (by omega), if_neg (by simp; omega)]
      have d1 : decide ((61 : Int) < (n : Int)) = true := decide_eq_true (by omega)
      rw [hen]
      go_enter Tryd.func13, Tryd.ntmps13
      go_wp2_with fail
      refine (specStatic_any _).mono ?_
      rintro e w2 h2
      obtain ⟨hr2, hb2, c2⟩ := hfin e w2 h2
      obtain ⟨rfl, -⟩ := h2
      have t0 := hr2.cell' (i := 0) (v := .string ByteArray.empty) (by decide) rfl
      have t1 := hr2.cell' (i := 1) (v := .string ByteArray.empty) (by decide) rfl
      have t2 := hr2.cell' (i := 2) (v := .bool false) (by decide) rfl
      have tf := fun j => hr2.unfrozen j none
      have Hb2 := Lib.hid hb2
      clear hb2 hr2
      go_wp2_with fail
      (try simp only [Exit.inBlock, Exit.then])
      refine bodyPost_ret (v := atSpec none) ?_ rfl ?_
      · simp only [results, Tryd.results13]
        go_simp
        rfl
      exact ⟨rfl, ((Hb2.out.setCell (by exact Nat.le_refl _) _).setCell (by exact Nat.le_refl _) _).setCell (by exact Nat.le_refl _) _⟩
    · obtain ⟨k, rfl⟩ : ∃ k, n = k + 1 := ⟨n - 1, by omega⟩
      have hk : k < 61 := by omega
      obtain ⟨es, hes, q0, q1, q2⟩ := sCells_at W1 k hk
      have hen : HD.entAt [] (k + 1) = some es := by unfold HD.entAt; rw [if_neg (by omega), if_pos (by omega)]; simpa using hes
      have d1 : decide ((61 : Int) < ((k + 1 : Nat) : Int)) = false := decide_eq_false (by omega)
      have d2 : decide (((k + 1 : Nat) : Int) ≤ 61) = true := decide_eq_true (by omega)
      have hkI : (k : Int) < 61 := by omega
      rw [hen]
      have Hen := Lib.hid hen
      clear hes hen
      go_enter Tryd.func13, Tryd.ntmps13
      go_wp2_with fail
      refine (specStatic_any _).mono ?_
      rintro e w2 h2
      obtain ⟨hr2, hb2, c2⟩ := hfin e w2 h2
      obtain ⟨rfl, hw2⟩ := h2
      rw [← hw2, hs1] at q0 q1 q2
      have t0 := hr2.cell' (i := 0) (v := .string ByteArray.empty) (by decide) rfl
      have t1 := hr2.cell' (i := 1) (v := .string ByteArray.empty) (by decide) rfl
      have t2 := hr2.cell' (i := 2) (v := .bool false) (by decide) rfl
      have tf := fun j => hr2.unfrozen j none
      have hne : w.heap.size + 1 ≠ w.heap.size := by omega
      have Hb2 := Lib.hid hb2
      clear hb2 hr2 hw2
      go_wp2_with fail
      (try simp only [Exit.inBlock, Exit.then])
      refine bodyPost_ret (v := atSpec (some es)) ?_ rfl ?_
      · simp only [results, Tryd.results13]
        go_simp
        rfl
      exact ⟨rfl, ((Hb2.out.setCell (by exact Nat.le_refl _) _).setCell (by exact Nat.le_refl _) _).setCell (by exact Nat.le_refl _) _⟩
end Go.Proofs.YtmlnmllnlekcgaaDoor
/-
  The specification's table: the entry of an index behind the static ones.
-/
namespace Go.Proofs.YtmlnmllnlekcgaaDoor
open Go.ChangeShapes Go.WideShapes Go.ChangeAt Go.RowKit

set_option maxHeartbeats 1000000 in
set_option maxRecDepth 100000 in
theorem atTop_any (p k : Nat) (w : World) (v : Value) (E : List (HD.Bs × HD.Bs)) (max : Nat) (h : TabS w p v E max) (hE : E.length ≤ 2 ^ 22) (hk : k ≤ 2 ^ 30) :
    Calls Tryd.prog 13 #[.pointer (some ⟨p, 0, none⟩), .int .i64 ((62 + k : Nat) : Int)] w fun e w' => e = .returned (atSpec E[k]?) ∧ Below w.heap.size w w' := by
  obtain ⟨a, c, rfl, hcap, hcell⟩ := h.fsl
  obtain ⟨n, hn⟩ : ∃ n, n = E.length := ⟨_, rfl⟩
  have q0 : w.cell? ⟨p, 0, none⟩ = some (.slice a n c) := by rw [hn]; have := h.row.cell' (i := 0) (by decide) rfl; rwa [List.length_map] at this
  rw [List.length_map] at hcap
  rw [← hn] at hE hcap
  have htl : p < w.heap.size := h.row.lt
  have hr0 : Row (w.alloc (.cells hf0 30)) w.heap.size 3 (fun j => hf0.getD j undef) := Row.of_cells w hf0 30 (by decide) 3 rfl
  have hb1 : Below w.heap.size w (w.alloc (.cells hf0 30)) := (Below.refl _ _).alloc (Nat.le_refl _) _
  have hs1 : (w.alloc (.cells hf0 30)).heap.size = w.heap.size + 1 := by simp
  obtain ⟨W1, hW1⟩ : ∃ W1, W1 = w.alloc (.cells #[.string { data := #[] }, .string { data := #[] }, .bool false] 30) := ⟨_, rfl⟩
  have hW1' : w.alloc (.cells hf0 30) = W1 := hW1.symm
  rw [hW1'] at hr0 hb1 hs1
  have Hr0 := Lib.hid hr0
  have Hb1 := Lib.hid hb1
  clear hr0 hb1 hW1'
  have hfin : ∀ (e : Ending) (w2 : World), (e = .returned (.slice (some ⟨W1.heap.size, 0, none⟩) 61 61) ∧ w2 = W1.alloc (.cells sCells 30)) → Row w2 w.heap.size 3 (fun j => hf0.getD j undef) ∧ Below w.heap.size w w2 ∧ w2.cell? ⟨p, 0, none⟩ = some (.slice a n c) := fun e w2 h => by
    have hb2 : Below w.heap.size w w2 := by rw [h.2]; exact Hb1.out.alloc Hb1.out.size _
    refine ⟨by rw [h.2]; exact Hr0.out.alloc _, hb2, (hb2.cell (p := ⟨p, 0, none⟩) htl).trans q0⟩
  have hW1s := hW1.symm
  have Hfin := Lib.hid hfin
  have Hn := Lib.hid hn
  have Hcell := Lib.hid hcell
  clear hW1 hfin hn hcell h q0
  have hw2 : IntKind.i64.wrap ((61 : Int) + (n : Int)) = 61 + (n : Int) := by rw [IntKind.wrap_i64]; omega
  have d0 : decide (((62 + k : Nat) : Int) < 1) = false := decide_eq_false (by omega)
  rcases Nat.lt_or_ge k n with hlt | hge
  · have hkc : k < E.length := by rw [← Hn.out]; exact hlt
    obtain ⟨e, hee⟩ : ∃ e, e = E[k] := ⟨_, rfl⟩
    rw [List.getElem?_eq_getElem hkc, ← hee]
    have d1 : decide ((61 : Int) + (n : Int) < ((62 + k : Nat) : Int)) = false := decide_eq_false (by omega)
    have d2 : decide (((62 + k : Nat) : Int) ≤ 61) = false := decide_eq_false (by omega)
    have hf := flds_at (E.map sFld) k (by rw [List.length_map]; exact hkc)
    rw [List.getElem_map, ← hee] at hf
    obtain ⟨g, o, rfl, hcl⟩ := Hcell.out (fun h => by rw [List.map_eq_nil_iff.1 h] at hkc; simp at hkc)
    have p0 : w.cell? ⟨g, o + k * 3, none⟩ = some (.string ⟨e.1.toArray⟩) := hcl _ _ hf.1
    have p1 : w.cell? ⟨g, o + k * 3 + 1, none⟩ = some (.string ⟨e.2.toArray⟩) := hcl _ _ hf.2.1
    have p2 : w.cell? ⟨g, o + k * 3 + 2, none⟩ = some (.bool false) := hcl _ _ hf.2.2
    have hgw : g < w.heap.size := World.block_lt_of_cell? w _ p0
    have hgne : g ≠ w.heap.size := by omega
    have hi1 : IntKind.i64.wrap (((62 + k : Nat) : Int) - 61) = ((k + 1 : Nat) : Int) := by rw [IntKind.wrap_i64]; omega
    have hi2 : IntKind.i64.wrap (((k + 1 : Nat) : Int) - 1) = (k : Int) := by rw [IntKind.wrap_i64]; omega
    have hkI : (k : Int) < (n : Int) := by omega
    have hkcap : k < c := by omega
    have P0 := Lib.hid p0
    have P1 := Lib.hid p1
    have P2 := Lib.hid p2
    clear hf hcl hee p0 p1 p2
    go_enter Tryd.func13, Tryd.ntmps13
    go_wp2_with fail
    refine (specStatic_any _).mono ?_
    rintro e w2 h2
    obtain ⟨hr2, hb2, c2⟩ := Hfin.out e w2 h2
    obtain ⟨rfl, -⟩ := h2
    have t0 := hr2.cell' (i := 0) (v := .string ByteArray.empty) (by decide) rfl
    have t1 := hr2.cell' (i := 1) (v := .string ByteArray.empty) (by decide) rfl
    have t2 := hr2.cell' (i := 2) (v := .bool false) (by decide) rfl
    have tf := fun j => hr2.unfrozen j none
    have hk1 : 62 + k - 61 - 1 = k := by omega
    have p0 : w2.cell? ⟨g, o + (62 + k - 61 - 1) * 3, none⟩ = some (.string ⟨e.1.toArray⟩) := by rw [hk1]; exact (hb2.cell (p := ⟨g, o + k * 3, none⟩) hgw).trans P0.out
    have p1 : w2.cell? ⟨g, o + (62 + k - 61 - 1) * 3 + 1, none⟩ = some (.string ⟨e.2.toArray⟩) := by rw [hk1]; exact (hb2.cell (p := ⟨g, o + k * 3 + 1, none⟩) hgw).trans P1.out
    have p2 : w2.cell? ⟨g, o + (62 + k - 61 - 1) * 3 + 2, none⟩ = some (.bool false) := by rw [hk1]; exact (hb2.cell (p := ⟨g, o + k * 3 + 2, none⟩) hgw).trans P2.out
    clear hk1
    have Hb2 := Lib.hid hb2
    clear hb2 hr2
    go_wp2_with fail
    (try simp only [Exit.inBlock, Exit.then])
    refine bodyPost_ret (v := atSpec (some e)) ?_ rfl ?_
    · simp only [results, Tryd.results13]
      go_simp
      rfl
    exact ⟨rfl, ((Hb2.out.setCell (by exact Nat.le_refl _) _).setCell (by exact Nat.le_refl _) _).setCell (by exact Nat.le_refl _) _⟩
  · rw [List.getElem?_eq_none (by rw [← Hn.out]; exact hge)]
    have d1 : decide ((61 : Int) + (n : Int) < ((62 + k : Nat) : Int)) = true := decide_eq_true (by omega)
    go_enter Tryd.func13, Tryd.ntmps13
    go_wp2_with fail
    refine (specStatic_any _).mono ?_
    rintro e w2 h2
    obtain ⟨hr2, hb2, c2⟩ := Hfin.out e w2 h2
    obtain ⟨rfl, -⟩ := h2
    have t0 := hr2.cell' (i := 0) (v := .string ByteArray.empty) (by decide) rfl
    have t1 := hr2.cell' (i := 1) (v := .string ByteArray.empty) (by decide) rfl
    have t2 := hr2.cell' (i := 2) (v := .bool false) (by decide) rfl
    have tf := fun j => hr2.unfrozen j none
    have Hb2 := Lib.hid hb2
    clear hb2 hr2
    go_wp2_with fail
    (try simp only [Exit.inBlock, Exit.then])
    refine bodyPost_ret (v := atSpec none) ?_ rfl ?_
    · simp only [results, Tryd.results13]
      go_simp
      rfl
    exact ⟨rfl, ((Hb2.out.setCell (by exact Nat.le_refl _) _).setCell (by exact Nat.le_refl _) _).setCell (by exact Nat.le_refl _) _⟩
end Go.Proofs.YtmlnmllnlekcgaaDoor
/-
  The contracts of spec.Text and spec.Literal, of a literal that is added, no text in codes.
-/
namespace Go.Proofs.YtmlnmllnlekcgaaDoor
open Go.ChangeShapes Go.WideShapes Go.ChangeAt Go.RowKit

theorem strCells_b (s : HD.Bs) : Lib.strCells ⟨s.toArray⟩ = Lib.byteCells s := by simp [Lib.strCells, Lib.byteCells]
/-- A row of bytes that the call owns. -/
def OwnB (w w' : World) (e : Ending) (t : HD.Bs) : Prop := ∃ a cap, e = .returned (.slice a t.length cap) ∧ w'.ownsRow w.heap.size 5 1 (.slice a t.length cap) t.length (Lib.byteCells t) ∧ Below w.heap.size w w'
theorem ptxt_le {s : HD.Bs} (hs : s.length ≤ 2 ^ 20) : (HD.ptxt s).length ≤ 7 + s.length := by
  have := HD.intg_len 0 7 s.length (by omega)
  unfold HD.ptxt
  rw [List.length_append]; omega
theorem ptxt_pos (s : HD.Bs) : 0 < (HD.ptxt s).length := by
  have := List.length_pos_iff.2 (HD.intg_ne 0 7 s.length)
  unfold HD.ptxt
  rw [List.length_append]; omega
set_option maxRecDepth 100000 in
theorem text_any (s : HD.Bs) (w : World) (hs : s.length ≤ 2 ^ 20) : Calls Tryd.prog 16 #[.string ⟨s.toArray⟩, .bool false] w fun e w' => OwnB w w' e (HD.ptxt s) := by
  obtain ⟨i0, hi, hz0, hz1, hz2⟩ := info_parts infoU8
  have hsz : (⟨s.toArray⟩ : ByteArray).size = s.length := by simp [ByteArray.size]
  go_enter Tryd.func16, Tryd.ntmps16
  go_wp2_with fail
  refine (integer_any70 s.length _ (by omega)).mono ?_
  rintro e w1 ⟨a, cap, rfl, h1, h2⟩
  have hl := HD.intg_len 0 7 s.length (by omega)
  obtain ⟨N, hN⟩ : ∃ N, N = (HD.intg 0 7 s.length).length := ⟨_, rfl⟩
  rw [← hN] at h1 hl ⊢
  have HN := Lib.hid hN
  have Hown := Lib.hid h1
  have Hb := Lib.hid h2
  clear hN h1 h2
  go_wp2_with (at_builtin; go_must (refine Lib.wpList_append_own_string _ rfl _ _ 28 9 rfl w.heap.size 5 i0 Tryd.underlying28 Tryd.underlying9 hi hz0 hz1 hz2 _ _ _ rfl Hown.out ⟨s.toArray⟩ rfl (by unfold maxLen; rw [hsz]; omega) (by rw [hsz]; omega) Hb.out.size ?_); intro v2 w2 hown2 hgrow2 _)
  go_ret
  rw [hsz, strCells_b, HN.out] at hown2
  obtain ⟨a2, c2, rfl⟩ := own_form hown2
  have e : HD.ptxt s = HD.intg 0 7 s.length ++ s := rfl
  unfold OwnB
  rw [e, List.length_append, byteCells_append]
  exact ⟨a2, c2, rfl, hown2, Hb.out.grown hgrow2 Hb.out.size (fun g hg => (Hown.out.lt g hg).1)⟩
theorem own_low {w : World} {B B' e size n : Nat} {v : Value} {xs : List Value} (h : w.ownsRow B e size v n xs) (hB : B' ≤ B) : w.ownsRow B' e size v n xs :=
  ⟨h.1, h.2.imp id fun ⟨g, cap, cur, e, h1, h2⟩ => ⟨g, cap, cur, e, Nat.le_trans hB h1, h2⟩⟩
set_option maxHeartbeats 2000000 in
set_option maxRecDepth 100000 in
theorem literal_any (f : HD.Fld) (w : World) (hn : f.name.length ≤ 2 ^ 20) (hv : f.value.length ≤ 2 ^ 20) :
    Calls Tryd.prog 7 #[.agg #[.string ⟨f.name.toArray⟩, .string ⟨f.value.toArray⟩, .bool f.sens], .int .i64 0, .bool false, .bool false] w fun e w' => OwnB w w' e (HD.plit f) := by
  obtain ⟨i0, hi, hz0, hz1, hz2⟩ := info_parts infoU8
  obtain ⟨nm, vl, ss⟩ := f
  dsimp only at hn hv ⊢
  have Hi := Lib.hid hi
  clear hi
  go_enter Tryd.func7, Tryd.ntmps7
  go_upto_region 7 with (fail)
  have hb0 : Below w.heap.size w (((w.alloc (.cells #[.string ⟨nm.toArray⟩, .string ⟨vl.toArray⟩, .bool ss] 30)).alloc (.cells #[.int .u8 64] 5))) := ((Below.refl _ _).alloc (Nat.le_refl _) _).alloc (by simp) _
  have ho0 : ((w.alloc (.cells #[.string ⟨nm.toArray⟩, .string ⟨vl.toArray⟩, .bool ss] 30)).alloc (.cells #[.int .u8 64] 5)).ownsRow (w.heap.size + 1) 5 1 (.slice (some ⟨w.heap.size + 1, 0, none⟩) 1 1) 1 (Lib.byteCells [64]) := by
    have := own_one (w.alloc (.cells #[.string ⟨nm.toArray⟩, .string ⟨vl.toArray⟩, .bool ss] 30)) 64
    rwa [World.size_alloc] at this
  have hS0 : ((w.alloc (.cells #[.string ⟨nm.toArray⟩, .string ⟨vl.toArray⟩, .bool ss] 30)).alloc (.cells #[.int .u8 64] 5)).cell? ⟨w.heap.size, 0, none⟩ = some (.string ⟨nm.toArray⟩) ∧ ((w.alloc (.cells #[.string ⟨nm.toArray⟩, .string ⟨vl.toArray⟩, .bool ss] 30)).alloc (.cells #[.int .u8 64] 5)).cell? ⟨w.heap.size, 1, none⟩ = some (.string ⟨vl.toArray⟩) := by
    have hk := (Below.heap_alloc (w.alloc (.cells #[.string ⟨nm.toArray⟩, .string ⟨vl.toArray⟩, .bool ss] 30)) (.cells #[.int .u8 64] 5) w.heap.size (by simp)).trans (heap_alloc_new w _)
    exact ⟨(Lib.cell_of_heap hk 0).trans rfl, (Lib.cell_of_heap hk 1).trans rfl⟩
  have hs0 : ((w.alloc (.cells #[.string ⟨nm.toArray⟩, .string ⟨vl.toArray⟩, .bool ss] 30)).alloc (.cells #[.int .u8 64] 5)).heap.size = w.heap.size + 2 := by simp
  generalize (w.alloc (.cells #[.string ⟨nm.toArray⟩, .string ⟨vl.toArray⟩, .bool ss] 30)).alloc (.cells #[.int .u8 64] 5) = w0 at hb0 ho0 hS0 hs0 ⊢
  obtain ⟨w1, hw1⟩ : ∃ w1, w1 = w0.drew := ⟨_, rfl⟩
  have hb1 : Below w.heap.size w w1 := by rw [hw1]; exact hb0.drew
  have ho1 : w1.ownsRow (w.heap.size + 1) 5 1 (.slice (some ⟨w.heap.size + 1, 0, none⟩) 1 1) 1 (Lib.byteCells [64]) := by rw [hw1]; exact ownsRow_of_heap ho0 fun _ _ => rfl
  have hS1 : w1.cell? ⟨w.heap.size, 0, none⟩ = some (.string ⟨nm.toArray⟩) ∧ w1.cell? ⟨w.heap.size, 1, none⟩ = some (.string ⟨vl.toArray⟩) := by rw [hw1]; exact hS0
  have hs1 : w1.heap.size = w0.heap.size := by rw [hw1]; rfl
  have HS1 := Lib.hid hS1
  have Ho1 := Lib.hid ho1
  have Hb1 := Lib.hid hb1
  clear hb0 ho0 hS0 hb1 ho1 hS1
  refine wp_region_held_drew (S := (fun w' => w'.cell? ⟨w.heap.size, 0, none⟩ = some (.string ⟨nm.toArray⟩) ∧ w'.cell? ⟨w.heap.size, 1, none⟩ = some (.string ⟨vl.toArray⟩))) (by kernel_rfl) ((by rw [← hw1]; exact HS1.out)) (fun hHeld => ?_)
  refine takeH 0 (v := ?_) rfl rfl (by kernel_rfl) (by kernel_rfl) (by kernel_rfl) (fun _ _ _ h => h) (Or.inl ⟨by rfl, ?_⟩) (by assumption) ?_
  rotate_left
  · (intro w hSw; (try dsimp only at hSw); go_simp <;> with_reducible rfl)
  simp only [List.setIfInBounds_toArray, List.set_cons_zero, List.set_cons_succ]
  refine takeH 1 (v := ?_) rfl rfl (by kernel_rfl) (by kernel_rfl) (by kernel_rfl) (fun _ _ _ h => h) (Or.inl ⟨by rfl, ?_⟩) (by assumption) ?_
  rotate_left
  · (intro w hSw; (try dsimp only at hSw); go_simp <;> with_reducible rfl)
  simp only [List.setIfInBounds_toArray, List.set_cons_zero, List.set_cons_succ]
  refine takeH 2 (v := ?_) rfl rfl (by kernel_rfl) (by kernel_rfl) (by kernel_rfl) (fun _ _ _ h => h) (Or.inl ⟨by rfl, ?_⟩) (by assumption) ?_
  rotate_left
  · (intro w hSw; (try dsimp only at hSw); go_simp <;> with_reducible rfl)
  simp only [List.setIfInBounds_toArray, List.set_cons_zero, List.set_cons_succ]
  refine takeH 3 (v := ?_) rfl rfl (by kernel_rfl) (by kernel_rfl) (by kernel_rfl) (fun _ _ _ h => h) (Or.inl ⟨by rfl, ?_⟩) (by assumption) ?_
  rotate_left
  · (intro w hSw; (try dsimp only at hSw); go_simp <;> with_reducible rfl)
  simp only [List.setIfInBounds_toArray, List.set_cons_zero, List.set_cons_succ]
  refine takeH 6 (v := ?_) rfl rfl (by kernel_rfl) (by kernel_rfl) (by kernel_rfl) (fun _ _ _ h => h) (Or.inl ⟨by rfl, ?_⟩) (by assumption) ?_
  rotate_left
  · (intro w hSw; (try dsimp only at hSw); go_simp <;> with_reducible rfl)
  simp only [List.setIfInBounds_toArray, List.set_cons_zero, List.set_cons_succ]
  refine takeH 7 (v := ?_) rfl rfl (by kernel_rfl) (by kernel_rfl) (by kernel_rfl) (fun _ _ _ h => h) (Or.inl ⟨by rfl, ?_⟩) (by assumption) ?_
  rotate_left
  · (intro w hSw; (try dsimp only at hSw); go_simp <;> with_reducible rfl)
  simp only [List.setIfInBounds_toArray, List.set_cons_zero, List.set_cons_succ]
  refine takeH 8 (v := ?_) rfl rfl (by kernel_rfl) (by kernel_rfl) (by kernel_rfl) (fun _ _ _ h => h) (Or.inl ⟨by rfl, ?_⟩) (by assumption) ?_
  rotate_left
  · (intro w hSw; (try dsimp only at hSw); go_simp <;> with_reducible rfl)
  simp only [List.setIfInBounds_toArray, List.set_cons_zero, List.set_cons_succ]
  refine wpAnyH_ready (rs := [4]) (by kernel_rfl) (by simp) ?_
  refine AllReadyH.cons rfl (fun K hK => ?_) AllReadyH.nil
  go_simp
  rw [← hw1]
  refine (text_any nm _ hn).mono ?_
  rintro e w2 ⟨a2, c2, rfl, hown2, hb2⟩
  have hp2 := ptxt_pos nm
  have hl2 := ptxt_le hn
  obtain ⟨g2, c2', e2, hcc2, -, -, -⟩ := own_some hown2 hp2
  injection e2 with e21 _ e23
  subst e21; subst e23
  have hc2 : ∀ j u, (Lib.byteCells (HD.ptxt nm))[j]? = some u → w2.cell? ((⟨g2, 0, none⟩ : Addr).add j) = some u := hown2.cells (g := g2) rfl
  have Hc2 := Lib.hid hc2
  have Hbk2 := Lib.hid hb2
  have Hl2 := Lib.hid hl2
  clear hown2 hp2 hl2 hc2 hb2 hcc2
  have hS2 : w2.cell? ⟨w.heap.size, 0, none⟩ = some (.string ⟨nm.toArray⟩) ∧ w2.cell? ⟨w.heap.size, 1, none⟩ = some (.string ⟨vl.toArray⟩) := ⟨(Hbk2.out.cell (p := ⟨w.heap.size, 0, none⟩) (by show w.heap.size < w1.heap.size; omega)).trans HS1.out.1, (Hbk2.out.cell (p := ⟨w.heap.size, 1, none⟩) (by show w.heap.size < w1.heap.size; omega)).trans HS1.out.2⟩
  have Ho2 := Lib.hid (ownsRow_of_heap Ho1.out fun g hg => Hbk2.out.block g (Ho1.out.lt g hg).2)
  have Hb2 := Lib.hid (Hb1.out.trans (Hbk2.out.mono Hb1.out.size))
  refine hK.out _ _ (by exact hS2) (fun hHeld => ?_)
  clear hK K
  have HS2 := Lib.hid hS2
  clear hS2
  have hsz2 : w.heap.size + 2 ≤ w2.heap.size := by have := Hbk2.out.size; omega
  (try simp only [List.setIfInBounds_toArray, List.set_cons_zero, List.set_cons_succ])
  refine wpAnyH_ready (rs := [5]) (by kernel_rfl) (by simp) ?_
  refine AllReadyH.cons rfl (fun K hK => ?_) AllReadyH.nil
  refine step_append_own_at rfl 23 rfl _ _ 28 rfl (w.heap.size + 1) 5 i0 (.int .u8 0) 1 1 Tryd.underlying28 Hi.out hz0 hz1 hz2 rfl (by decide) (.slice (some ⟨w.heap.size + 1, 0, none⟩) 1 1) 1 (Lib.byteCells [64]) rfl (by exact Ho2.out) ⟨g2, 0, none⟩ (HD.ptxt nm).length c2 (Lib.byteCells (HD.ptxt nm)) rfl (by rw [byteCells_len, Nat.mul_one]) (by exact Hc2.out) (Lib.byteCells_one _) (by have := Hl2.out; unfold maxLen; omega) (by have := Hl2.out; omega) (by omega) ?_
  intro v3 w3 hown3 hgrow3 _ hat3
  have hg3 : ∀ q, v3.ownBlock = some q → w.heap.size + 1 ≤ q := fun q hq => (hown3.lt q hq).1
  have hS3 : w3.cell? ⟨w.heap.size, 0, none⟩ = some (.string ⟨nm.toArray⟩) ∧ w3.cell? ⟨w.heap.size, 1, none⟩ = some (.string ⟨vl.toArray⟩) := by
    have hk := hgrow3.block w.heap.size (by omega) (fun e => by injection e with e; have e : w.heap.size = w.heap.size + 1 := e; omega)
    exact ⟨(World.cell?_of_block (a := ⟨w.heap.size, 0, none⟩) hk).trans HS2.out.1, (World.cell?_of_block (a := ⟨w.heap.size, 1, none⟩) hk).trans HS2.out.2⟩
  have Hb3 := Lib.hid (Hb2.out.grown hgrow3 (by omega) (fun q hq => by injection hq with hq; have hq : w.heap.size + 1 = q := hq; omega))
  have hs3 := hgrow3.size
  refine hK.out _ _ (by exact hS3) (fun hHeld => ?_)
  clear hK K
  obtain ⟨a3, c3, rfl⟩ := own_form hown3
  have Ho3 := Lib.hid hown3
  have HS3 := Lib.hid hS3
  clear hown3 hgrow3 hat3 hg3 hS3
  (try simp only [List.setIfInBounds_toArray, List.set_cons_zero, List.set_cons_succ])
  refine wpAnyH_ready (rs := [9]) (by kernel_rfl) (by simp) ?_
  refine AllReadyH.cons rfl (fun K hK => ?_) AllReadyH.nil
  go_simp
  refine (text_any vl _ hv).mono ?_
  rintro e w4 ⟨a4, c4, rfl, hown4, hb4⟩
  have hp4 := ptxt_pos vl
  have hl4 := ptxt_le hv
  obtain ⟨g4, c4', e4, hcc4, -, -, -⟩ := own_some hown4 hp4
  injection e4 with e41 _ e43
  subst e41; subst e43
  have hc4 : ∀ j u, (Lib.byteCells (HD.ptxt vl))[j]? = some u → w4.cell? ((⟨g4, 0, none⟩ : Addr).add j) = some u := hown4.cells (g := g4) rfl
  have Hc4 := Lib.hid hc4
  have Hbk4 := Lib.hid hb4
  have Hl4 := Lib.hid hl4
  clear hown4 hp4 hl4 hc4 hb4 hcc4
  have hS4 : w4.cell? ⟨w.heap.size, 0, none⟩ = some (.string ⟨nm.toArray⟩) ∧ w4.cell? ⟨w.heap.size, 1, none⟩ = some (.string ⟨vl.toArray⟩) := ⟨(Hbk4.out.cell (p := ⟨w.heap.size, 0, none⟩) (by show w.heap.size < w3.heap.size; omega)).trans HS3.out.1, (Hbk4.out.cell (p := ⟨w.heap.size, 1, none⟩) (by show w.heap.size < w3.heap.size; omega)).trans HS3.out.2⟩
  have Ho4 := Lib.hid (ownsRow_of_heap Ho3.out fun g hg => Hbk4.out.block g (Ho3.out.lt g hg).2)
  have Hb4 := Lib.hid (Hb3.out.trans (Hbk4.out.mono Hb3.out.size))
  refine hK.out _ _ (by exact hS4) (fun hHeld => ?_)
  clear hK K
  have HS4 := Lib.hid hS4
  clear hS4
  have hs4 := Hbk4.out.size
  (try simp only [List.setIfInBounds_toArray, List.set_cons_zero, List.set_cons_succ])
  refine wpAnyH_ready (rs := [10]) (by kernel_rfl) (by simp) ?_
  refine AllReadyH.cons rfl (fun K hK => ?_) AllReadyH.nil
  refine step_append_own_at rfl 28 rfl _ _ 28 rfl (w.heap.size + 1) 5 i0 (.int .u8 0) 1 1 Tryd.underlying28 Hi.out hz0 hz1 hz2 rfl (by decide) (.slice a3 (1 + (HD.ptxt nm).length) c3) (1 + (HD.ptxt nm).length) (Lib.byteCells [64] ++ Lib.byteCells (HD.ptxt nm)) rfl (by exact Ho4.out) ⟨g4, 0, none⟩ (HD.ptxt vl).length c4 (Lib.byteCells (HD.ptxt vl)) rfl (by rw [byteCells_len, Nat.mul_one]) (by exact Hc4.out) (Lib.byteCells_one _) (by have := Hl2.out; have := Hl4.out; unfold maxLen; omega) (by have := Hl2.out; have := Hl4.out; omega) (by omega) ?_
  intro v5 w5 hown5 hgrow5 _ hat5
  have hS5 : w5.cell? ⟨w.heap.size, 0, none⟩ = some (.string ⟨nm.toArray⟩) ∧ w5.cell? ⟨w.heap.size, 1, none⟩ = some (.string ⟨vl.toArray⟩) := by
    have hk := hgrow5.block w.heap.size (by omega) (fun e => by have := (Ho4.out.lt _ e.symm).1; omega)
    exact ⟨(World.cell?_of_block (a := ⟨w.heap.size, 0, none⟩) hk).trans HS4.out.1, (World.cell?_of_block (a := ⟨w.heap.size, 1, none⟩) hk).trans HS4.out.2⟩
  have Hb5 := Lib.hid (Hb4.out.grown hgrow5 (by omega) (fun q hq => by have := (Ho4.out.lt q hq).1; omega))
  refine hK.out _ _ (by exact hS5) (fun hHeld => ?_)
  clear hK K
  obtain ⟨a5, c5, rfl⟩ := own_form hown5
  have Ho5 := Lib.hid hown5
  clear hown5 hgrow5 hat5 hS5
  (try simp only [List.setIfInBounds_toArray, List.set_cons_zero, List.set_cons_succ])
  refine takeH 11 (v := ?_) rfl rfl (by kernel_rfl) (by kernel_rfl) (by kernel_rfl) (fun _ _ _ h => h) (Or.inl ⟨by rfl, ?_⟩) (by assumption) ?_
  rotate_left
  · (intro w hSw; (try dsimp only at hSw); go_simp <;> with_reducible rfl)
  simp only [List.setIfInBounds_toArray, List.set_cons_zero, List.set_cons_succ]
  refine wpAnyH_done (by kernel_rfl) ?_ _
  clear hHeld
  go_wp2_with fail
  go_ret
  have e : HD.plit ⟨nm, vl, ss⟩ = [64] ++ HD.ptxt nm ++ HD.ptxt vl := by simp [HD.plit]
  unfold OwnB
  rw [e, List.length_append, List.length_append, byteCells_append, byteCells_append]
  have h5 := Ho5.out
  exact ⟨a5, c5, rfl, own_low h5 (Nat.le_succ _), Hb5.out⟩
end Go.Proofs.YtmlnmllnlekcgaaDoor
