/-
  Texts of this seat, one behind the other: PLit, AllRepr, EmImpl, Ans, HD8. What each one shows stands at its head. No condition.
-/
import Derived.Test.YtmlnmllnlekcgaaDoorMb8
/-
  parseFieldLiteral.
-/
namespace Go.Proofs.YtmlnmllnlekcgaaDoor
open Go.ChangeShapes Go.WideShapes Go.ChangeAt Go.RowKit

theorem itIdx_any (it : Int) (ix : Bool) (h : decide (it = 0) = ix) (w : World) : Calls Tryd.prog 62 #[.int .i64 it] w fun e w' => e = .returned (.bool ix) ∧ w' = w := by
  subst h
  go_enter Tryd.func62, Tryd.ntmps62
  go_wp2
  go_ret
  exact ⟨ret_bool (by rw [Bool.eq_iff_iff]; simp), rfl⟩
theorem sensitive_any (it : Int) (ix : Bool) (h : decide (it = 2) = ix) (w : World) : Calls Tryd.prog 66 #[.int .i64 it] w fun e w' => e = .returned (.bool ix) ∧ w' = w := by
  subst h
  go_enter Tryd.func66, Tryd.ntmps66
  go_wp2
  go_ret
  exact ⟨ret_bool (by rw [Bool.eq_iff_iff]; simp), rfl⟩

theorem nbits_ge' (l : List UInt8) : 5 * l.length ≤ HP.nbits l := by
  induction l with
  | nil => simp
  | cons c l ih =>
    have := (HP.bounds c).1
    simp [HP.nbits] at ih ⊢
    omega
theorem dstr_le {h : Bool} {v t : HD.Bs} (e : HD.dstr h v = some t) (hv : v.length ≤ 2 ^ 26) : t.length ≤ 2 ^ 27 := by
  cases h with
  | false =>
    obtain rfl := Option.some.inj e
    omega
  | true =>
    have e : HP.hdec v = some t := e
    have h1 := HP.length_henc t
    rw [HP.henc_hdec e] at h1
    have h2 := nbits_ge' t
    unfold HP.hencLen at h1
    omega
def nmOf : Sum HD.Bs (Bool × HD.Bs) → HD.Bs
  | .inl n => n
  | .inr _ => []
def hfCells (n v : HD.Bs) (b : Bool) : Array Value := #[.string ⟨n.toArray⟩, .string ⟨v.toArray⟩, .bool b]
def unCells (h : Bool) (g o n c : Nat) : Array Value := #[.bool h, .slice (some ⟨g, o, none⟩) n c]
/-- What is known behind a literal's name. -/
structure NmRel (w wx : World) (g b10 b12 i : Nat) (nm : Sum HD.Bs (Bool × HD.Bs)) (v rest2 : HD.Bs) (o2 c2 : Nat) : Prop where
  below : Below w.heap.size w wx
  row : Row wx b10 3 (fun j => (hfCells (nmOf nm) [] false).getD j undef)
  und : ∀ h b, nm = .inr (h, b) → ∃ o3 c3, Row wx b12 2 (fun j => (unCells h g o3 b.length c3).getD j undef) ∧ Buf wx g o3 c3 b
  buf : Buf wx g o2 c2 rest2
  sort : (0 < i ∧ ∃ n, nm = .inl n ∧ n.length ≤ 2 ^ 27) ∨ (i = 0 ∧ ∃ h b, nm = .inr (h, b) ∧ b.length ≤ v.length)
  len : rest2.length ≤ v.length
theorem Row.of_cells (w : World) (cs : Array Value) (t : TypeId) (ht : t ≠ 5) (n : Nat) (hn : cs.size = n) : Row (w.alloc (.cells cs t)) w.heap.size n (fun j => cs.getD j undef) :=
  Row.new w t ht (n := n) hn (fun i hi => by rw [Array.getD_eq_getD_getElem?, Array.getElem?_eq_getElem (show i < cs.size by omega)]; rfl)
theorem rstr_blen {v : HD.Bs} {h : Bool} {b r : HD.Bs} (e : HD.rstr v = .ok h b r) : b.length ≤ v.length := by
  cases v with
  | nil => cases e
  | cons c p =>
    rw [HD.rstr] at e
    split at e
    · cases e
    · cases e
    · rename_i n rest hr
      have := HD.rvi_len hr
      split at e
      · cases e
      · injection e with _ e _; subst e; rw [List.length_take]; omega
theorem static_short : (HD.static.all fun e => decide (e.1.length ≤ 2 ^ 27 ∧ e.2.length ≤ 2 ^ 27)) = true := by decide +kernel
theorem ent_short {s : HD.St} (h : SOK s) {i : Nat} {e : HD.Bs × HD.Bs} (he : HD.entAt s.ents i = some e) : e.1.length ≤ 2 ^ 27 ∧ e.2.length ≤ 2 ^ 27 := by
  unfold HD.entAt at he
  split at he
  · cases he
  · split at he
    · exact of_decide_eq_true (List.all_eq_true.1 static_short e (List.mem_of_getElem? he))
    · split at he
      · exact h.short e (List.mem_of_getElem? he)
      · cases he
/-- No text of a literal is in codes, or all is known. -/
def PlainL (aN aL : Addr) (n : Nat) (v : HD.Bs) : Prop := aL ≠ aN ∨ ∀ i rest, HD.rvi n v = .ok i rest → (0 < i → ∀ h b r, HD.rstr rest = .ok h b r → h = false) ∧ (i = 0 → ∀ h b r, HD.rstr rest = .ok h b r → h = false ∧ ∀ h' b' r', HD.rstr r = .ok h' b' r' → h' = false)
/-- The same, behind its name. -/
def PlainN (aN aL : Addr) (nm : Sum HD.Bs (Bool × HD.Bs)) (rest2 : HD.Bs) : Prop := aL ≠ aN ∨ ((∀ h b r, HD.rstr rest2 = .ok h b r → h = false) ∧ ∀ h b, nm = .inr (h, b) → h = false)
theorem PlainL.name {aN aL : Addr} {n : Nat} {v rest rest2 b : HD.Bs} {h : Bool} (H : PlainL aN aL n v) (hr : HD.rvi n v = .ok 0 rest) (hs : HD.rstr rest = .ok h b rest2) : PlainN aN aL (.inr (h, b)) rest2 :=
  H.imp id fun H => by
    obtain ⟨h1, h2⟩ := (H 0 rest hr).2 rfl h b rest2 hs
    refine ⟨h2, fun h' b' e => ?_⟩
    injection e with e
    injection e with e _
    rw [← e]; exact h1
theorem PlainL.entry {aN aL : Addr} {n i : Nat} {v rest : HD.Bs} {x : HD.Bs} (H : PlainL aN aL n v) (hr : HD.rvi n v = .ok i rest) (hi : 0 < i) : PlainN aN aL (.inl x) rest :=
  H.imp id fun H => ⟨(H i rest hr).1 hi, fun h b e => by cases e⟩
theorem PlainN.val {aN aL : Addr} {nm : Sum HD.Bs (Bool × HD.Bs)} {rest2 b r : HD.Bs} {h : Bool} (H : PlainN aN aL nm rest2) (hs : HD.rstr rest2 = .ok h b r) (e : h = true) : aL ≠ aN :=
  H.resolve_right fun H => by
    have := H.1 h b r hs
    rw [e] at this; cases this
theorem PlainN.nm {aN aL : Addr} {rest2 b : HD.Bs} {h : Bool} (H : PlainN aN aL (.inr (h, b)) rest2) (e : h = true) : aL ≠ aN :=
  H.resolve_right fun H => by
    have := H.2 h b rfl
    rw [e] at this; cases this
set_option maxHeartbeats 4000000 in
set_option maxRecDepth 100000 in
theorem pLit_any (B : Nat) (w : World) (d g o cap : Nat) (M : Emitter) (hM : EmOk B M) (s : HD.St) (l : List HD.Fld) (p : DP) (aI aN aL : Addr) (v : HD.Bs) (n : Nat) (hn : n = 4 ∨ n = 6) (it : Int) (ix sn : Bool) (hix : decide (it = 0) = ix) (hsn : decide (it = 2) = sn)
    (hL : Live B w d M s l p) (hE : EnvO B w aI aN aL) (hb : Buf w g o cap v) (hg : IsU8 w g) (h11 : p.f 11 = .slice (some ⟨g, o, none⟩) v.length cap) (hc : p.cnt + s.ents.length + 1 < 2 ^ 62) (hl : l.length ≤ 2 ^ 40) (hv26 : v.length ≤ 2 ^ 26) (hTx : PlainL aN aL n v) :
    Calls Tryd.prog 56 #[.pointer (some ⟨d, 0, none⟩), .int .u8 (n : Nat), .int .i64 it] w (REnds B w d g M s l p aI aN (HD.pLit s n ix sn v)) := by
  have c11 := hL.row.cell' (i := 11) (by decide) h11
  have hn7 : n = 4 ∨ n = 5 ∨ n = 6 ∨ n = 7 := by omega
  have hn8 : n ≤ 7 := by omega
  have HL := Lib.hid hL
  have HE := Lib.hid hE
  have HB := Lib.hid hb
  have Hg := Lib.hid hg
  have HM := Lib.hid hM
  have Hl := Lib.hid hl
  have Hc := Lib.hid hc
  have Hix := Lib.hid hix
  have Hsn := Lib.hid hsn
  have HTx := Lib.hid hTx
  have hdl := hL.lt
  clear hL hE hb hg h11 hM hl hc hix hsn hTx
  go_enter Tryd.func56, Tryd.ntmps56
  go_wp2_with fail
  refine (varInt_any n hn7 _ g o cap v _ HB.out HE.out.eN).mono ?_
  rintro e w1 ⟨hv, hb1⟩
  have Hb1 := Lib.hid hb1
  have hL1 := HL.out.below hb1
  have c9 := hL1.row.cell' (i := 9) (by decide) hL1.mem.on
  have HL1 := Lib.hid hL1
  clear hb1 c11 hL1
  cases hr : HD.rvi n v with
  | more =>
    rw [hr] at hv
    obtain ⟨s0, rfl⟩ := hv
    have Hr := Lib.hid hr
    clear hr
    go_wp2_with fail
    go_ret
    rw [show HD.pLit s n ix sn v = .more by simp only [HD.pLit, Hr.out]]
    exact ⟨rfl, Hb1.out⟩
  | over =>
    rw [hr] at hv
    obtain ⟨s0, a, rfl, ha⟩ := hv
    have Hr := Lib.hid hr
    clear hr
    unfold codingErr
    go_wp2_with fail
    go_ret
    rw [show HD.pLit s n ix sn v = .bad .coding by simp only [HD.pLit, Hr.out]]
    exact ⟨⟨_, rfl, a, rfl, ha⟩, Hb1.out⟩
  | ok i rest =>
    have hlt := HD.rvi_lt hn8 hr
    have hrl := HD.rvi_len hr
    rw [hr] at hv
    obtain ⟨o1, cap1, rfl, hbr⟩ := hv
    have HBr := Lib.hid hbr
    have Hr := Lib.hid hr
    obtain ⟨on, hon⟩ : ∃ b, b = s.on := ⟨_, rfl⟩
    rw [← hon] at c9
    have Hon := Lib.hid hon
    clear hr hbr hon
    have hents : s.ents.length ≤ 2 ^ 40 := by
      have h1 := tsize_ge s.ents
      have h2 := HL.out.ok.size
      have h3 := HL.out.ok.max
      omega
    obtain ⟨want, hwant⟩ : ∃ b, b = (on || ix) := ⟨_, rfl⟩
    have Hwant := Lib.hid hwant
    clear hwant
    go_upto_region 6 with (fail)
    obtain ⟨W2, hW2⟩ : ∃ W2, W2 = w1.alloc (.cells #[.string ByteArray.empty, .string ByteArray.empty, .bool false] 54) := ⟨_, rfl⟩
    have c9' : W2.cell? ⟨d, 9, none⟩ = some (.bool on) := by
      rw [hW2]
      exact (World.cell?_of_block (a := ⟨d, 9, none⟩) (Below.heap_alloc _ _ _ (World.block_lt_of_cell? _ _ c9))).trans c9
    have hW2' : w1.alloc (.cells #[.string { data := #[] }, .string { data := #[] }, .bool false] 54) = W2 := by rw [hW2]; rfl
    rw [hW2']
    have HW2 := Lib.hid hW2
    clear hW2 hW2' c9
    go_cut [11] from 30 (fun c wx => c = .bool want ∧ wx = W2)
    case first =>
      cases on with
      | true =>
        go_wp2_with fail
        go_meet
        exact ⟨by rw [Hwant.out]; rfl, rfl⟩
      | false =>
        go_wp2_with fail
        refine (itIdx_any it ix Hix.out _).mono ?_
        rintro e w3 ⟨rfl, rfl⟩
        go_wp2_with fail
        go_meet
        exact ⟨by rw [Hwant.out]; rfl, rfl⟩
    case rest =>
      obtain ⟨rfl, rfl⟩ := hcut
      have hwc : wc.heap.size = w1.heap.size + 1 := by rw [HW2.out]; simp
      have hb2 : Below w1.heap.size w1 wc := by rw [HW2.out]; exact (Below.refl _ _).alloc (Nat.le_refl _) _
      have hr10 : Row wc w1.heap.size 3 (fun j => (hfCells [] [] false).getD j undef) := by rw [HW2.out]; exact Row.of_cells w1 (hfCells [] [] false) 54 (by decide) 3 rfl
      have Hb2 := Lib.hid hb2
      have Hr10 := Lib.hid hr10
      clear hb2 hr10
      go_upto_if 39 with (fail)
      have hr12 : Row (wc.alloc (.cells #[.bool false, .slice none 0 0] 123)) wc.heap.size 2 (fun j => (#[Value.bool false, .slice none 0 0] : Array Value).getD j undef) := Row.of_cells wc #[.bool false, .slice none 0 0] 123 (by decide) 2 rfl
      have hb3 : Below w1.heap.size w1 (wc.alloc (.cells #[.bool false, .slice none 0 0] 123)) := Hb2.out.alloc (by omega) _
      have hr10 := Hr10.out.alloc (.cells #[.bool false, .slice none 0 0] 123)
      have hs3 : (wc.alloc (.cells #[.bool false, .slice none 0 0] 123)).heap.size = w1.heap.size + 2 := by simp [hwc]
      generalize wc.alloc (.cells #[.bool false, .slice none 0 0] 123) = W3 at hr12 hb3 hr10 hs3 ⊢
      rw [hwc] at hr12
      clear Hr10 Hb2 HW2
      have Hr10 := Lib.hid hr10
      have Hr12 := Lib.hid hr12
      have Hb3 := Lib.hid hb3
      have hb13 := Hb1.out.trans (hb3.mono Hb1.out.size)
      have HL3 := Lib.hid (HL.out.below hb13)
      have HE3 := Lib.hid (HE.out.below (hb13.mono HL.out.lo))
      have Hb13 := Lib.hid hb13
      clear hr10 hr12 hb3 hb13
      go_cut [7, 9, 13, 14] from 38 (fun v7 v9 _ _ wx => ∃ (nm : Sum HD.Bs (Bool × HD.Bs)) (rest2 : HD.Bs) (o2 c2 : Nat), v7 = .slice (some ⟨g, o2, none⟩) rest2.length c2 ∧ v9 = .nilIface ∧ HD.pLit s n ix sn v = HD.pVal s ix sn nm rest2 ∧ PlainN aN aL nm rest2 ∧ NmRel w wx g w1.heap.size (w1.heap.size + 1) i nm v rest2 o2 c2)
      case first =>
        rcases Nat.eq_zero_or_pos i with rfl | hpos
        · have d1 : decide ((0 : Int) < ((0 : Nat) : Int)) = false := by decide
          have e10 := HL3.out.row.cell' (i := 10) (by decide) HL3.out.mem.most
          go_wp2_with fail
          refine (readString_any d aN g o1 cap1 rest _ (HBr.out.below (Hb3.out)) e10 HE3.out.eN).mono ?_
          rintro e w4 ⟨hv, hb4⟩
          have hr12 := Hr12.out.of_heap (hb4.block (w1.heap.size + 1) (by omega))
          have u0 := hr12.cell' (i := 0) (v := .bool false) (by decide) rfl
          have u1 := hr12.cell' (i := 1) (v := .slice none 0 0) (by decide) rfl
          have uf := fun j => hr12.unfrozen j none
          have hsz4 := hb4.size
          have Hb4 := Lib.hid (Hb13.out.trans (hb4.mono Hb13.out.size))
          have Hb34 := Lib.hid hb4
          have Hr12' := Lib.hid hr12
          clear hb4 hr12
          cases hs : HD.rstr rest with
          | more =>
            rw [hs] at hv
            obtain ⟨s0, rfl⟩ := hv
            have Hs := Lib.hid hs
            clear hs
            go_wp2_with fail
            go_ret
            rw [show HD.pLit s n ix sn v = .more by simp [HD.pLit, Hr.out, Hs.out]]
            exact ⟨rfl, (Hb4.out.setCell (by show w.heap.size ≤ w1.heap.size + 1; have := Hb1.out.size; omega) _).setCell (by show w.heap.size ≤ w1.heap.size + 1; have := Hb1.out.size; omega) _⟩
          | over =>
            rw [hs] at hv
            obtain ⟨s0, a, rfl, ha⟩ := hv
            have Hs := Lib.hid hs
            clear hs
            unfold codingErr
            go_wp2_with fail
            go_ret
            rw [show HD.pLit s n ix sn v = .bad .coding by simp [HD.pLit, Hr.out, Hs.out]]
            refine ⟨⟨_, rfl, a, rfl, ?_⟩, (Hb4.out.setCell (by show w.heap.size ≤ w1.heap.size + 1; have := Hb1.out.size; omega) _).setCell (by show w.heap.size ≤ w1.heap.size + 1; have := Hb1.out.size; omega) _⟩
            have hne : w1.heap.size + 1 ≠ a.block := by have := ha.1; omega
            exact (ha.mono (by have := Hb13.out.size; omega)).of_heap ((other_set hne).trans (other_set hne))
          | ok h b rest2 =>
            rw [hs] at hv
            obtain ⟨o3, c3, o2, c2, rfl, hbb, hb2⟩ := hv
            have Hs := Lib.hid hs
            have Hbb := Lib.hid hbb
            have Hb2 := Lib.hid hb2
            clear hs hbb hb2
            go_wp2_with fail
            go_meet
            have hlo : w.heap.size ≤ w1.heap.size := Hb1.out.size
            have hb5 := (Hb4.out.setCell (p := ⟨w1.heap.size + 1, 0, none⟩) (by show w.heap.size ≤ w1.heap.size + 1; omega) (.bool h)).setCell (p := ⟨w1.heap.size + 1, 1, none⟩) (by show w.heap.size ≤ w1.heap.size + 1; omega) (.slice (some ⟨g, o3, none⟩) b.length c3)
            have hgw : g < w.heap.size := Hg.out.lt
            have hk : ∀ k, k ≠ w1.heap.size + 1 → ((w4.setCell ⟨w1.heap.size + 1, 0, none⟩ (.bool h)).setCell ⟨w1.heap.size + 1, 1, none⟩ (.slice (some ⟨g, o3, none⟩) b.length c3)).heap[k]? = w4.heap[k]? := fun k hk => (other_set (Ne.symm hk)).trans (other_set (Ne.symm hk))
            have hbl := rstr_blen Hs.out
            have hrl2 := HD.rstr_len Hs.out
            refine ⟨.inr (h, b), rest2, o2, c2, rfl, rfl, by simp [HD.pLit, Hr.out, Hs.out], HTx.out.name Hr.out Hs.out, hb5, ?_, ?_, ?_, Or.inr ⟨rfl, h, b, rfl, by omega⟩, by omega⟩
            · exact (Hr10.out.of_heap (Hb34.out.block w1.heap.size (by omega))).of_heap (hk _ (by omega))
            · rintro h' b' e
              injection e with e
              injection e with e1 e2
              subst e1; subst e2
              refine ⟨o3, c3, ((Hr12'.out.set 0 (.bool h)).set 1 (.slice (some ⟨g, o3, none⟩) b.length c3)).congr fun j hj => ?_, Hbb.out.kept fun _ => hk g (by omega)⟩
              match j, hj with
              | 0, _ => rfl
              | 1, _ => rfl
            · exact Hb2.out.kept fun _ => hk g (by omega)
        · have d1 : decide ((0 : Int) < (i : Int)) = true := by simp; omega
          go_wp2_with fail
          refine (at_any B _ d 16 p.f s.ents p.cnt p.ev p.m1 p.m2 p.l1 p.l2 i HL3.out.mem.tab hents hlt).mono ?_
          rintro e w4 ⟨rfl, hb4⟩
          have hsz4 := hb4.size
          have Hb4 := Lib.hid (Hb13.out.trans (hb4.mono Hb13.out.size))
          have hr10 := Hr10.out.of_heap (hb4.block w1.heap.size (by omega))
          have v0 := hr10.cell' (i := 0) (v := .string ByteArray.empty) (by decide) rfl
          have v1 := hr10.cell' (i := 1) (v := .string ByteArray.empty) (by decide) rfl
          have v2 := hr10.cell' (i := 2) (v := .bool false) (by decide) rfl
          have vf := fun j => hr10.unfrozen j none
          have hne4 : w1.heap.size ≠ w4.heap.size := by omega
          have hlt4 : w1.heap.size < w4.heap.size := by omega
          have Hr10' := Lib.hid hr10
          have Hb34 := Lib.hid hb4
          clear hb4 hr10
          cases hent : HD.entAt s.ents i with
          | none =>
            have Hent := Lib.hid hent
            clear hent
            unfold atVal
            go_wp2_with fail
            go_ret
            rw [show HD.pLit s n ix sn v = .bad (.index i) by simp [HD.pLit, Hr.out, Hent.out, hpos]]
            exact ⟨⟨_, rfl, errV_index i⟩, Hb4.out.alloc Hb4.out.size _⟩
          | some es =>
            have Hent := Lib.hid hent
            clear hent
            unfold atVal
            go_wp2_with fail
            go_meet
            have hlo : w.heap.size ≤ w1.heap.size := Hb1.out.size
            have hgw : g < w.heap.size := Hg.out.lt
            have hb5 := (Hb4.out.setCell (p := ⟨w1.heap.size, 0, none⟩) hlo (.string ⟨es.1.toArray⟩)).alloc (by rw [World.size_setCell]; exact Hb4.out.size) (.cells #[.string ⟨es.1.toArray⟩, .string ⟨es.2.toArray⟩, .bool false] 54)
            refine ⟨.inl es.1, rest, o1, cap1, rfl, rfl, by simp [HD.pLit, Hr.out, Hent.out, hpos], HTx.out.entry Hr.out hpos, hb5, ?_, ?_, ?_, Or.inl ⟨hpos, es.1, rfl, (ent_short HL.out.ok Hent.out).1⟩, by omega⟩
            · refine ((Hr10'.out.set 0 (.string ⟨es.1.toArray⟩)).alloc _).congr fun j hj => ?_
              match j, hj with
              | 0, _ => rfl
              | 1, _ => rfl
              | 2, _ => rfl
            · rintro h' b' e
              cases e
            · refine HBr.out.kept fun _ => ?_
              refine (Below.heap_alloc _ _ _ (by rw [World.size_setCell]; omega)).trans ((other_set (by show w1.heap.size ≠ g; omega)).trans ?_)
              exact (Hb34.out.block g (by omega)).trans (Hb3.out.block g (by omega))
      case rest =>
        obtain ⟨nm, rest2, o2, c2, rfl, rfl, hP, hPl, hN⟩ := hcut
        have HPl := Lib.hid hPl
        clear hPl
        have hlo : w.heap.size ≤ w1.heap.size := Hb1.out.size
        have hgw : g < w.heap.size := Hg.out.lt
        have hL4 := HL.out.below hN.below
        have hE4 := HE.out.below (hN.below.mono HL.out.lo)
        have e10 := hL4.row.cell' (i := 10) (by decide) hL4.mem.most
        have h10 := hN.row.lt
        have HN := Lib.hid hN
        have HP := Lib.hid hP
        have HE4 := Lib.hid hE4
        clear hN hP hE4 hL4 Hb3 HL3 HE3 Hb13 Hr10 Hr12
        go_wp2_with fail
        refine (readString_any d aN g o2 c2 rest2 _ (by exact HN.out.buf) (by exact e10) (by exact HE4.out.eN)).mono ?_
        rintro e w5 ⟨hv, hb5⟩
        have Hb05 := Lib.hid (HN.out.below.trans (hb5.mono HN.out.below.size))
        have Hb45 := Lib.hid hb5
        have hs45 := hb5.size
        clear hb5 e10
        cases hs2 : HD.rstr rest2 with
        | more =>
          rw [hs2] at hv
          obtain ⟨s0, rfl⟩ := hv
          have Hs2 := Lib.hid hs2
          clear hs2
          go_wp2_with fail
          go_ret
          rw [HP.out, show HD.pVal s ix sn nm rest2 = .more by simp only [HD.pVal, Hs2.out]]
          exact ⟨rfl, Hb05.out.alloc Hb05.out.size _⟩
        | over =>
          rw [hs2] at hv
          obtain ⟨s0, a, rfl, ha⟩ := hv
          have Hs2 := Lib.hid hs2
          have Ha := Lib.hid ha
          clear hs2 ha
          unfold codingErr
          go_wp2_with fail
          go_ret
          rw [HP.out, show HD.pVal s ix sn nm rest2 = .bad .coding by simp only [HD.pVal, Hs2.out]]
          refine ⟨⟨_, rfl, a, rfl, ?_⟩, Hb05.out.alloc Hb05.out.size _⟩
          obtain ⟨h1, ca, ta, h2⟩ := Ha.out
          exact ⟨Nat.le_trans HN.out.below.size h1, ca, ta, (Below.heap_alloc _ _ _ (Array.getElem?_eq_some_iff.1 h2).1).trans h2⟩
        | ok h2 b2 rest3 =>
          rw [hs2] at hv
          obtain ⟨o5, c5, o6, c6, rfl, hbb, hbr⟩ := hv
          have Hs2 := Lib.hid hs2
          clear hs2
          go_upto_if 76 with (fail)
          have hb6 : Below w5.heap.size w5 (w5.alloc (.cells #[.bool h2, .slice (some ⟨g, o5, none⟩) b2.length c5] 123)) := (Below.refl _ _).alloc (Nat.le_refl _) _
          have hr15 : Row (w5.alloc (.cells #[.bool h2, .slice (some ⟨g, o5, none⟩) b2.length c5] 123)) w5.heap.size 2 (fun j => (unCells h2 g o5 b2.length c5).getD j undef) := Row.of_cells w5 (unCells h2 g o5 b2.length c5) 123 (by decide) 2 rfl
          have hs6 : (w5.alloc (.cells #[.bool h2, .slice (some ⟨g, o5, none⟩) b2.length c5] 123)).heap.size = w5.heap.size + 1 := by simp
          generalize w5.alloc (.cells #[.bool h2, .slice (some ⟨g, o5, none⟩) b2.length c5] 123) = W6 at hb6 hr15 hs6 ⊢
          have hb06 := Hb05.out.trans (hb6.mono Hb05.out.size)
          have hb46 := Hb45.out.trans (hb6.mono Hb45.out.size)
          have Hr10 := Lib.hid (HN.out.row.of_heap (hb46.block w1.heap.size h10))
          have Hbb := Lib.hid (hbb.below hb6)
          have Hbr := Lib.hid (hbr.below hb6)
          have Hr15 := Lib.hid hr15
          have Hb06 := Lib.hid hb06
          have Hb46 := Lib.hid hb46
          have HL6 := Lib.hid (HL.out.below hb06)
          have HE6 := Lib.hid (HE.out.below (hb06.mono HL.out.lo))
          clear hb6 hr15 hb06 hb46 hbb hbr
          have hl2 := rstr_blen Hs2.out
          have hnl := HN.out.len
          go_cut [9] from 77 (fun _ wx => ∃ N X : HD.Bs, HD.pVal s ix sn nm rest2 = HD.pEnd s ix sn N X rest3 ∧ N.length ≤ 2 ^ 27 ∧ X.length ≤ 2 ^ 27 ∧ Below w.heap.size w wx ∧ Row wx w1.heap.size 3 (fun j => (hfCells N X false).getD j undef) ∧ Buf wx g o6 c6 rest3)
          case first =>
            cases want with
            | false =>
              go_wp2_with fail
              go_meet
              have hw : (s.on || ix) = false := by rw [← Hon.out, ← Hwant.out]
              refine ⟨nmOf nm, [], ?_, ?_, by simp, Hb06.out, Hr10.out, Hbr.out⟩
              · simp only [HD.pVal, Hs2.out, hw]
                cases nm <;> rfl
              · rcases HN.out.sort with ⟨-, n', rfl, hl⟩ | ⟨-, h', b', rfl, -⟩
                · exact hl
                · simp [nmOf]
            | true =>
              have hw : (s.on || ix) = true := by rw [← Hon.out, ← Hwant.out]
              have Hw := Lib.hid hw
              clear hw
              rcases HN.out.sort with ⟨hpos, n', rfl, hl'⟩ | ⟨rfl, h', b', rfl, hl'⟩
              · have d1 : decide ((i : Int) ≤ 0) = false := by simp; omega
                have x0 := Hr15.out.cell' (i := 0) (v := .bool h2) (by decide) rfl
                have x1 := Hr15.out.cell' (i := 1) (v := .slice (some ⟨g, o5, none⟩) b2.length c5) (by decide) rfl
                have e10 := HL6.out.row.cell' (i := 10) (by decide) HL6.out.mem.most
                go_wp2_with fail
                refine (decodeString_any d aI h2 g o5 c5 b2 _ Hbb.out (by omega) e10 (fun e => HE6.out.len (HPl.out.val Hs2.out e)) (fun e => HE6.out.code (HPl.out.val Hs2.out e)) (fun e => HE6.out.eI (HPl.out.val Hs2.out e))).mono ?_
                rintro e w8 ⟨hds, hb8⟩
                have hr10 := Hr10.out.of_heap (hb8.block w1.heap.size (by omega))
                have y1 := hr10.cell' (i := 1) (v := .string ByteArray.empty) (by decide) rfl
                have yf := fun j => hr10.unfrozen j none
                have hb08 := Hb06.out.trans (hb8.mono Hb06.out.size)
                have Hb08 := Lib.hid hb08
                have Hb68 := Lib.hid hb8
                have Hr10' := Lib.hid hr10
                clear hb8 hb08 x0 x1 e10 hr10
                cases hd : HD.dstr h2 b2 with
                | none =>
                  rw [hd] at hds
                  obtain rfl : e = .returned (.tuple #[.string ByteArray.empty, .iface 111 (.pointer (some aI))]) := hds
                  have Hd := Lib.hid hd
                  clear hd
                  go_wp2_with fail
                  go_ret
                  rw [HP.out, show HD.pVal s ix sn _ rest2 = .bad .huff by simp only [HD.pVal, Hs2.out, Hw.out, Hd.out, if_true]]
                  exact ⟨⟨_, rfl, rfl⟩, Hb08.out.setCell (by exact hlo) _⟩
                | some x =>
                  rw [hd] at hds
                  obtain rfl : e = .returned (.tuple #[.string ⟨x.toArray⟩, .nilIface]) := hds
                  have hx27 : x.length ≤ 2 ^ 27 := dstr_le hd (by omega)
                  have Hd := Lib.hid hd
                  clear hd
                  go_wp2_with fail
                  go_meet
                  refine ⟨n', x, by simp only [HD.pVal, Hs2.out, Hw.out, Hd.out, if_true], hl', hx27, Hb08.out.setCell (by exact hlo) _, ?_, ?_⟩
                  · refine (Hr10'.out.set 1 (.string ⟨x.toArray⟩)).congr fun j hj => ?_
                    match j, hj with
                    | 0, _ => rfl
                    | 1, _ => rfl
                    | 2, _ => rfl
                  · exact (Hbr.out.below Hb68.out).kept fun _ => other_set (by show w1.heap.size ≠ g; omega)
              · obtain ⟨o3, c3, hr12, hbn⟩ := HN.out.und h' b' rfl
                have hr12' := hr12.of_heap (Hb46.out.block _ hr12.lt)
                have x0 := hr12'.cell' (i := 0) (v := .bool h') (by decide) rfl
                have x1 := hr12'.cell' (i := 1) (v := .slice (some ⟨g, o3, none⟩) b'.length c3) (by decide) rfl
                have e10 := HL6.out.row.cell' (i := 10) (by decide) HL6.out.mem.most
                have hbn6 := hbn.below Hb46.out
                clear hr12 hr12' hbn
                go_wp2_with fail
                refine (decodeString_any d aI h' g o3 c3 b' _ hbn6 (by omega) e10 (fun e => HE6.out.len (HPl.out.nm e)) (fun e => HE6.out.code (HPl.out.nm e)) (fun e => HE6.out.eI (HPl.out.nm e))).mono ?_
                rintro e w7 ⟨hds, hb7⟩
                have hr10 := Hr10.out.of_heap (hb7.block w1.heap.size (by omega))
                have y0 := hr10.cell' (i := 0) (v := .string ByteArray.empty) (by decide) rfl
                have yf := fun j => hr10.unfrozen j none
                have hs7 := hb7.size
                have Hb67 := Lib.hid hb7
                have hb07 := Hb06.out.trans (hb7.mono Hb06.out.size)
                have Hb07 := Lib.hid hb07
                have Hr10' := Lib.hid hr10
                clear hb7 hb07 x0 x1 e10 hbn6 hr10
                cases hd : HD.dstr h' b' with
                | none =>
                  rw [hd] at hds
                  obtain rfl : e = .returned (.tuple #[.string ByteArray.empty, .iface 111 (.pointer (some aI))]) := hds
                  have Hd := Lib.hid hd
                  clear hd
                  go_wp2_with fail
                  go_ret
                  rw [HP.out, show HD.pVal s ix sn (.inr (h', b')) rest2 = .bad .huff by simp only [HD.pVal, Hs2.out, Hw.out, Hd.out, if_true]]
                  exact ⟨⟨_, rfl, rfl⟩, Hb07.out.setCell (by exact hlo) _⟩
                | some n' =>
                  rw [hd] at hds
                  obtain rfl : e = .returned (.tuple #[.string ⟨n'.toArray⟩, .nilIface]) := hds
                  have hl' : n'.length ≤ 2 ^ 27 := dstr_le hd (by omega)
                  have Hd0 := Lib.hid hd
                  clear hd
                  go_upto_region 24 with (fail)
                  have hb77 : Below w.heap.size w (w7.setCell ⟨w1.heap.size, 0, none⟩ (.string ⟨n'.toArray⟩)) := Hb07.out.setCell (by exact hlo) _
                  have hk7 : ∀ k, k ≠ w1.heap.size → (w7.setCell ⟨w1.heap.size, 0, none⟩ (.string ⟨n'.toArray⟩)).heap[k]? = w7.heap[k]? := fun k hk => other_set (Ne.symm hk)
                  have hs77 : (w7.setCell ⟨w1.heap.size, 0, none⟩ (.string ⟨n'.toArray⟩)).heap.size = w7.heap.size := World.size_setCell _ _ _
                  have hr77 : Row (w7.setCell ⟨w1.heap.size, 0, none⟩ (.string ⟨n'.toArray⟩)) w1.heap.size 3 (fun j => (hfCells n' [] false).getD j undef) := (Hr10'.out.set 0 (.string ⟨n'.toArray⟩)).congr fun j hj => by
                    match j, hj with
                    | 0, _ => rfl
                    | 1, _ => rfl
                    | 2, _ => rfl
                  generalize w7.setCell ⟨w1.heap.size, 0, none⟩ (.string ⟨n'.toArray⟩) = W7 at hb77 hk7 hs77 hr77 ⊢
                  have hr15 := (Hr15.out.of_heap (Hb67.out.block w5.heap.size (by omega))).of_heap (hk7 w5.heap.size (by omega))
                  have Hbb := Lib.hid ((Hbb.out.below Hb67.out).kept fun _ => hk7 g (by omega))
                  have Hbr := Lib.hid ((Hbr.out.below Hb67.out).kept fun _ => hk7 g (by omega))
                  have HL6 := Lib.hid (HL.out.below hb77)
                  have HE6 := Lib.hid (HE.out.below (hb77.mono HL.out.lo))
                  have Hb06 := Lib.hid hb77
                  have Hr10 := Lib.hid hr77
                  have x0 := hr15.cell' (i := 0) (v := .bool h2) (by decide) rfl
                  have x1 := hr15.cell' (i := 1) (v := .slice (some ⟨g, o5, none⟩) b2.length c5) (by decide) rfl
                  have e10 := HL6.out.row.cell' (i := 10) (by decide) HL6.out.mem.most
                  clear hb77 hk7 hr77 hr15 y0 yf
                  go_wp2_with fail
                  refine (decodeString_any d aI h2 g o5 c5 b2 _ Hbb.out (by omega) e10 (fun e => HE6.out.len (HPl.out.val Hs2.out e)) (fun e => HE6.out.code (HPl.out.val Hs2.out e)) (fun e => HE6.out.eI (HPl.out.val Hs2.out e))).mono ?_
                  rintro e w8 ⟨hds, hb8⟩
                  have hr10 := Hr10.out.of_heap (hb8.block w1.heap.size (by omega))
                  have y1 := hr10.cell' (i := 1) (v := .string ByteArray.empty) (by decide) rfl
                  have yf := fun j => hr10.unfrozen j none
                  have hb08 := Hb06.out.trans (hb8.mono Hb06.out.size)
                  have Hb08 := Lib.hid hb08
                  have Hb68 := Lib.hid hb8
                  have Hr10' := Lib.hid hr10
                  clear hb8 hb08 x0 x1 e10 hr10
                  cases hd : HD.dstr h2 b2 with
                  | none =>
                    rw [hd] at hds
                    obtain rfl : e = .returned (.tuple #[.string ByteArray.empty, .iface 111 (.pointer (some aI))]) := hds
                    have Hd := Lib.hid hd
                    clear hd
                    go_wp2_with fail
                    go_ret
                    rw [HP.out, show HD.pVal s ix sn _ rest2 = .bad .huff by simp only [HD.pVal, Hs2.out, Hw.out, Hd.out, if_true, Hd0.out]]
                    exact ⟨⟨_, rfl, rfl⟩, Hb08.out.setCell (by exact hlo) _⟩
                  | some x =>
                    rw [hd] at hds
                    obtain rfl : e = .returned (.tuple #[.string ⟨x.toArray⟩, .nilIface]) := hds
                    have hx27 : x.length ≤ 2 ^ 27 := dstr_le hd (by omega)
                    have Hd := Lib.hid hd
                    clear hd
                    go_wp2_with fail
                    go_meet
                    refine ⟨n', x, by simp only [HD.pVal, Hs2.out, Hw.out, Hd.out, if_true, Hd0.out], hl', hx27, Hb08.out.setCell (by exact hlo) _, ?_, ?_⟩
                    · refine (Hr10'.out.set 1 (.string ⟨x.toArray⟩)).congr fun j hj => ?_
                      match j, hj with
                      | 0, _ => rfl
                      | 1, _ => rfl
                      | 2, _ => rfl
                    · exact (Hbr.out.below Hb68.out).kept fun _ => other_set (by show w1.heap.size ≠ g; omega)
          case rest =>
            obtain ⟨N, X, hP2, hN27, hX27, hb7, hr7, hbr7⟩ := hcut
            have HP9 := Lib.hid (HP.out.trans hP2)
            clear HP hP2 Hs2 HN Hr10 Hbb Hbr Hr15 Hb06 Hb46 HL6 HE6 Hb45 Hb05 HE4 Hwant
            have hL9 := HL.out.below hb7
            have e11 := hL9.row.cell (i := 11) (by decide)
            have fz := fun j => hL9.row.unfrozen j none
            have hd9 : d < wc.heap.size := hL9.lt
            have Hb7 := Lib.hid hb7
            have Hr7 := Lib.hid hr7
            have Hbr7 := Lib.hid hbr7
            have HL9 := Lib.hid hL9
            clear hb7 hr7 hbr7 hL9
            go_wp2_with fail
            refine (itIdx_any it ix Hix.out _).mono ?_
            rintro e w10 ⟨rfl, hw10⟩
            have hl10 : Live B w10 d M s l { p with f := putF p.f 11 (.slice (some ⟨g, o6, none⟩) rest3.length c6) } := by
              rw [hw10]
              exact HL9.out.put (b := s.first) (HL9.out.row.set 11 _) (fun i hi => by simp only [putF]; rw [if_neg (by omega)]) (by simp [putF, HL9.out.mem.first]) (fun k hk _ => other_set (Ne.symm hk))
            have hu10 : Upd (p.own d) w w10 := by rw [hw10]; exact (Upd.of_below Hb7.out).setCell (a := ⟨d, 11, none⟩) (Or.inl (Or.inl (Or.inl rfl))) _
            have hg9 : IsU8 wc g := Hg.out.of_heap (Hb7.out.block g Hg.out.lt)
            have hgd : d ≠ g := fun e => HL9.out.kind hg9 (e ▸ Or.inl (Or.inl rfl))
            have hg10 : IsU8 w10 g := by rw [hw10]; exact hg9.of_heap (other_set hgd)
            have hb10 : Buf w10 g o6 c6 rest3 := by rw [hw10]; exact Hbr7.out.kept fun _ => other_set hgd
            have hdb : d ≠ w1.heap.size := by omega
            have hr10 : Row w10 w1.heap.size 3 (fun j => (hfCells N X false).getD j undef) := by rw [hw10]; exact Hr7.out.of_heap (other_set hdb)
            have hs10 : w10.heap.size = wc.heap.size := by rw [hw10]; exact World.size_setCell _ _ _
            have hw9 := Hb7.out.size
            have hb1s := hr10.lt
            have Hl10 := Lib.hid hl10
            have Hu10 := Lib.hid hu10
            have Hg10 := Lib.hid hg10
            have Hb10 := Lib.hid hb10
            clear hl10 hu10 hg9 hg10 hb10 hw10 e11 fz
            cases ix with
            | false =>
              have z0 := hr10.cell' (i := 0) (v := .string ⟨N.toArray⟩) (by decide) rfl
              have z1 := hr10.cell' (i := 1) (v := .string ⟨X.toArray⟩) (by decide) rfl
              have z2 := hr10.cell' (i := 2) (v := .bool false) (by decide) rfl
              have zf := fun j => hr10.unfrozen j none
              clear hr10
              go_wp2_with fail
              refine (sensitive_any it sn Hsn.out _).mono ?_
              rintro e w11 ⟨rfl, rfl⟩
              go_wp2_with fail
              have hu11 : Upd (fun k => k = w1.heap.size) w11 (w11.setCell ⟨w1.heap.size, 2, none⟩ (.bool sn)) := (Upd.refl (fun k => k = w1.heap.size) w11).setCell (a := ⟨w1.heap.size, 2, none⟩) (Or.inl rfl) _
              have hnp : ∀ k, DP.own d { p with f := putF p.f 11 (.slice (some ⟨g, o6, none⟩) rest3.length c6) } k → k ≠ w1.heap.size := fun k hk e => by have h1 : p.own d k := hk; have := HL.out.own_lt h1; omega
              have hl12 := Hl10.out.frame (w' := w11.setCell ⟨w1.heap.size, 2, none⟩ (.bool sn)) fun k hk => other_set (Ne.symm (hnp k hk))
              have hg12 : IsU8 (w11.setCell ⟨w1.heap.size, 2, none⟩ (.bool sn)) g := Hg10.out.of_heap (other_set (by show w1.heap.size ≠ g; omega))
              have hb12 : Buf (w11.setCell ⟨w1.heap.size, 2, none⟩ (.bool sn)) g o6 c6 rest3 := Hb10.out.kept fun _ => other_set (by show w1.heap.size ≠ g; omega)
              have hu12 : Upd (p.own d) w (w11.setCell ⟨w1.heap.size, 2, none⟩ (.bool sn)) := Hu10.out.trans hu11 (fun k hk e => by omega)
              refine (callEmit_any B _ d M HM.out { s with ents := s.ents } l { p with f := putF p.f 11 (.slice (some ⟨g, o6, none⟩) rest3.length c6) } ⟨N, X, sn⟩ hl12 Hl.out).mono ?_
              rintro e w13 ⟨rfl, E', hl13, hE13, hu13⟩
              have Hl12 := Lib.hid hl12
              have Hg12 := Lib.hid hg12
              have Hb12 := Lib.hid hb12
              have Hu12 := Lib.hid hu12
              have Hl13 := Lib.hid hl13
              have HE13 := Lib.hid hE13
              have Hu13 := Lib.hid hu13
              clear hl12 hg12 hb12 hu12 hl13 hE13 hu13 hu11
              go_wp2_with fail
              go_ret
              rw [HP9.out]
              exact REnds.tell Hl12.out (fun k h => Or.inl h) (fun i hi h => by simp only [putF]; rw [if_neg h]) (by simp [putF]) Hb12.out Hu12.out (by simp) Hg12.out Hl13.out HE13.out Hu13.out
            | true =>
              have z0 := hr10.cell' (i := 0) (v := .string ⟨N.toArray⟩) (by decide) rfl
              have z1 := hr10.cell' (i := 1) (v := .string ⟨X.toArray⟩) (by decide) rfl
              have z2 := hr10.cell' (i := 2) (v := .bool false) (by decide) rfl
              have Hz := Lib.hid (And.intro z0 (And.intro z1 z2))
              have Hr10 := Lib.hid hr10
              clear z0 z1 z2 hr10
              go_wp2_with fail
              refine wp_region_held_drew (S := (fun w' => w'.cell? ⟨w1.heap.size, 0, none⟩ = some (.string ⟨N.toArray⟩) ∧ w'.cell? ⟨w1.heap.size, 1, none⟩ = some (.string ⟨X.toArray⟩) ∧ w'.cell? ⟨w1.heap.size, 2, none⟩ = some (.bool false))) (by kernel_rfl) ((by exact Hz.out)) (fun hHeld => ?_)
              refine takeH 0 (v := ?_) rfl rfl (by kernel_rfl) (by kernel_rfl) (by kernel_rfl) (fun _ _ _ h => h) (Or.inl ⟨by rfl, ?_⟩) (by assumption) ?_
              rotate_left
              · (intro w hSw; (try dsimp only at hSw); go_simp <;> with_reducible rfl)
              simp only [List.setIfInBounds_toArray, List.set_cons_zero, List.set_cons_succ]
              refine takeH 1 (v := ?_) rfl rfl (by kernel_rfl) (by kernel_rfl) (by kernel_rfl) (fun _ _ _ h => h) (Or.inl ⟨by rfl, ?_⟩) (by assumption) ?_
              rotate_left
              · (intro w hSw; (try dsimp only at hSw); go_simp <;> with_reducible rfl)
              simp only [List.setIfInBounds_toArray, List.set_cons_zero, List.set_cons_succ]
              refine takeH 2 (v := ?_) rfl rfl (by kernel_rfl) (by kernel_rfl) (by kernel_rfl) (fun _ _ _ h => h) (Or.inl ⟨by rfl, ?_⟩) (by assumption) ?_
              rotate_left
              · (intro w hSw; (try dsimp only at hSw); go_simp <;> with_reducible rfl)
              simp only [List.setIfInBounds_toArray, List.set_cons_zero, List.set_cons_succ]
              refine takeH 3 (v := ?_) rfl rfl (by kernel_rfl) (by kernel_rfl) (by kernel_rfl) (fun _ _ _ h => h) (Or.inl ⟨by rfl, ?_⟩) (by assumption) ?_
              rotate_left
              · (intro w hSw; (try dsimp only at hSw); go_simp <;> with_reducible rfl)
              simp only [List.setIfInBounds_toArray, List.set_cons_zero, List.set_cons_succ]
              refine wpAnyH_ready (rs := [4]) (by kernel_rfl) (by simp) ?_
              refine AllReadyH.cons rfl (fun K hK => ?_) AllReadyH.nil
              go_simp
              have hts : HD.tsize s.ents + HD.esize (N, X) < 2 ^ 32 := by
                have h1 := HL.out.ok.size
                have h2 := HL.out.ok.max
                show _ + (N.length + X.length + 32) < _
                omega
              have hmx : s.max < 2 ^ 32 := by have := HL.out.ok.max; omega
              refine (add_any B _ d 16 _ s.ents p.cnt s.max p.ev p.m1 p.m2 p.l1 p.l2 (N, X) Hl10.out.mem.tab.drew Hl10.out.mem.sized Hl10.out.lo Hc.out hents hmx hts).mono ?_
              rintro e w12 ⟨rfl, q, ev', f', hq, hev, hevb, hf, hS', hT', hu'⟩
              have hu' : Upd (tabOwn d p.ev p.m1 p.m2) w10 w12 := ((Upd.refl _ w10).drew).step hu'
              have hto : ∀ k, tabOwn d p.ev p.m1 p.m2 k → k < w.heap.size := fun k hk => HL.out.mem.tab.own_lt hk
              have hnb : ¬ tabOwn d p.ev p.m1 p.m2 w1.heap.size := fun h => by have := hto _ h; omega
              have hr11 := Hr10.out.of_heap (hu'.block w1.heap.size hb1s hnb)
              have z0 := hr11.cell' (i := 0) (v := .string ⟨N.toArray⟩) (by decide) rfl
              have z1 := hr11.cell' (i := 1) (v := .string ⟨X.toArray⟩) (by decide) rfl
              have z2 := hr11.cell' (i := 2) (v := .bool false) (by decide) rfl
              have zf := fun j => hr11.unfrozen j none
              have hto2 : ∀ k, tabOwn d ev' p.m1 p.m2 k → tabOwn d p.ev p.m1 p.m2 k ∨ w10.heap.size ≤ k := fun k hk => by
                rcases hk with h | h | h | h
                · exact Or.inl (Or.inl h)
                · rcases hevb with e | ⟨g', e, hg'⟩
                  · exact Or.inl (Or.inr (Or.inl (e ▸ h)))
                  · rw [e] at h
                    obtain rfl := Option.some.inj h
                    exact Or.inr hg'
                · exact Or.inl (Or.inr (Or.inr (Or.inl h)))
                · exact Or.inl (Or.inr (Or.inr (Or.inr h)))
              have hE10 : ∀ k, p.E k → w12.heap[k]? = w10.heap[k]? := fun k hk => hu'.block k (M.lt Hl10.out.em hk) fun h => HL.out.apart k h hk
              have hl11 : Live B w12 d M { s with ents := HD.evict s.max (s.ents ++ [(N, X)]) } l ⟨f', p.cnt + q, ev', p.m1, p.m2, delS (p.cnt + 1) ((s.ents ++ [(N, X)]).take q) (mput p.l1 N (s.ents.length + p.cnt + 1)), delP (p.cnt + 1) ((s.ents ++ [(N, X)]).take q) (mput p.l2 (N, X) (s.ents.length + p.cnt + 1)), p.E⟩ := by
                refine ⟨⟨hT', hS', ?_, ?_, ?_, ?_⟩, M.frame Hl10.out.em hE10, HL.out.emB, ?_, fun k hk he => ?_, ⟨HD.evict_le _ _, HL.out.ok.max, HL.out.ok.allowed, fun e he => ?_⟩⟩
                · exact (hf 7 (by decide)).trans Hl10.out.mem.allowed
                · exact (hf 9 (by decide)).trans Hl10.out.mem.on
                · exact (hf 10 (by decide)).trans Hl10.out.mem.most
                · exact (hf 15 (by decide)).trans Hl10.out.mem.first
                · exact (hf 8 (by decide)).trans Hl10.out.emv
                · rcases hto2 k hk with h | h
                  · exact HL.out.apart k h he
                  · have := M.lt HL.out.em he
                    omega
                · have he : e ∈ HD.evict s.max (s.ents ++ [(N, X)]) := he
                  rw [hev] at he
                  rcases List.mem_append.1 (List.mem_of_mem_drop he) with h | h
                  · exact HL.out.ok.short e h
                  · obtain rfl := List.mem_singleton.1 h
                    exact ⟨hN27, hX27⟩
              have hlen : (HD.evict s.max (s.ents ++ [(N, X)])).length + q = s.ents.length + 1 := by
                rw [hev, List.length_drop, List.length_append]
                simp only [List.length_singleton]
                omega
              have hgn : ¬ tabOwn d p.ev p.m1 p.m2 g := fun h => Hl10.out.kind Hg10.out (Or.inl h)
              have hb11 : Buf w12 g o6 c6 rest3 := Hb10.out.kept fun _ => hu'.block g Hg10.out.lt hgn
              have hg11 : IsU8 w12 g := Hg10.out.of_heap (hu'.block g Hg10.out.lt hgn)
              have hu11' : Upd (p.own d) w w12 := Hu10.out.trans hu' (fun k _ h => Or.inl h)
              have Hf := Lib.hid hf
              have Hl10 := Lib.hid hl11
              have Hb10 := Lib.hid hb11
              have Hg10 := Lib.hid hg11
              have Hu10 := Lib.hid hu11'
              have Hlen := Lib.hid hlen
              have Hto2 := Lib.hid hto2
              clear hev hevb hf hS' hT' hu' hnb hr11 hE10 hl11 hb11 hg11 hu11' hlen hgn hto2
              go_simp
              refine hK.out _ _ (by exact ⟨z0, z1, z2⟩) (fun hHeld => ?_)
              clear hK K
              refine wpAnyH_done (by kernel_rfl) ?_ _
              go_wp2_with fail
              refine (sensitive_any it sn Hsn.out _).mono ?_
              rintro e w11 ⟨rfl, hw11⟩
              subst hw11
              go_wp2_with fail
              have hu11 : Upd (fun k => k = w1.heap.size) w11 (w11.setCell ⟨w1.heap.size, 2, none⟩ (.bool sn)) := (Upd.refl (fun k => k = w1.heap.size) w11).setCell (a := ⟨w1.heap.size, 2, none⟩) (Or.inl rfl) _
              have hw10s : w.heap.size ≤ w10.heap.size := by omega
              have hto2 := Hto2.out
              have hf := Hf.out
              have hlen := Hlen.out
              have hnum : p.cnt + q + (HD.evict s.max (s.ents ++ [(N, X)])).length ≤ p.cnt + s.ents.length + 1 := by omega
              have hnb2 : ∀ k, (tabOwn d ev' p.m1 p.m2 k ∨ p.E k) → k ≠ w1.heap.size := fun k hk e => by
                rcases hk with h | h
                · rcases hto2 k h with h | h
                  · have := hto k h; omega
                  · omega
                · have := M.lt HL.out.em h; omega
              have hnp : ∀ k, DP.own d ⟨f', p.cnt + q, ev', p.m1, p.m2, delS (p.cnt + 1) ((s.ents ++ [(N, X)]).take q) (mput p.l1 N (s.ents.length + p.cnt + 1)), delP (p.cnt + 1) ((s.ents ++ [(N, X)]).take q) (mput p.l2 (N, X) (s.ents.length + p.cnt + 1)), p.E⟩ k → k ≠ w1.heap.size := hnb2
              have hl12 := Hl10.out.frame (w' := w11.setCell ⟨w1.heap.size, 2, none⟩ (.bool sn)) fun k hk => other_set (Ne.symm (hnp k hk))
              have hg12 : IsU8 (w11.setCell ⟨w1.heap.size, 2, none⟩ (.bool sn)) g := Hg10.out.of_heap (other_set (by show w1.heap.size ≠ g; omega))
              have hb12 : Buf (w11.setCell ⟨w1.heap.size, 2, none⟩ (.bool sn)) g o6 c6 rest3 := Hb10.out.kept fun _ => other_set (by show w1.heap.size ≠ g; omega)
              have hu12 : Upd (p.own d) w (w11.setCell ⟨w1.heap.size, 2, none⟩ (.bool sn)) := Hu10.out.trans hu11 (fun k hk e => by omega)
              refine (callEmit_any B _ d M HM.out { s with ents := HD.evict s.max (s.ents ++ [(N, X)]) } l ⟨f', p.cnt + q, ev', p.m1, p.m2, delS (p.cnt + 1) ((s.ents ++ [(N, X)]).take q) (mput p.l1 N (s.ents.length + p.cnt + 1)), delP (p.cnt + 1) ((s.ents ++ [(N, X)]).take q) (mput p.l2 (N, X) (s.ents.length + p.cnt + 1)), p.E⟩ ⟨N, X, sn⟩ hl12 Hl.out).mono ?_
              rintro e w13 ⟨rfl, E', hl13, hE13, hu13⟩
              have Hl12 := Lib.hid hl12
              have Hg12 := Lib.hid hg12
              have Hb12 := Lib.hid hb12
              have Hu12 := Lib.hid hu12
              have Hl13 := Lib.hid hl13
              have HE13 := Lib.hid hE13
              have Hu13 := Lib.hid hu13
              clear hl12 hg12 hb12 hu12 hl13 hE13 hu13 hu11
              go_wp2_with fail
              go_ret
              rw [HP9.out]
              exact REnds.tell Hl12.out (fun k h => h.elim (fun h => (hto2 k h).imp Or.inl (fun h => Nat.le_trans hw10s h)) (fun h => Or.inl (Or.inr h))) (fun i hi h => (hf i (by omega)).trans (by simp only [putF]; rw [if_neg h])) ((hf 11 (by decide)).trans (by simp [putF])) Hb12.out Hu12.out hnum Hg12.out Hl13.out HE13.out Hu13.out
end Go.Proofs.YtmlnmllnlekcgaaDoor
/-
  Every representation meets what is asked of it, if the emitter meets what is asked of it.
-/
namespace Go.Proofs.YtmlnmllnlekcgaaDoor
open Go.ChangeShapes Go.WideShapes Go.ChangeAt Go.RowKit

theorem stepOk_all {B d : Nat} {M : Emitter} {aI aN aL : Addr} (hM : EmOk B M) (s : HD.St) (v : HD.Bs) (h : v.length ≤ 2 ^ 26) (hne : v ≠ []) (hp : ∀ b u, v = b :: u → b.toNat < 128 → ∀ n, n = 4 ∨ n = 6 → PlainL aN aL n v) : StepOk B d M aI aN aL s v := by
  cases v with
  | nil => exact absurd rfl hne
  | cons b v =>
    intro w p l g o cap hL hE hb hu h11 hc hl
    have hl40 : l.length ≤ 2 ^ 40 := by omega
    have c11 := hL.row.cell' (i := 11) (by decide) h11
    have hb256 : b.toNat < 256 := b.toNat_lt
    by_cases h1 : 128 ≤ b.toNat
    · have hP : HD.pRepr s (b :: v) = HD.pIdx s (b :: v) := by rw [HD.pRepr, if_pos h1]
      rw [hP]
      refine repr_idx d g o v.length cap b.toNat w _ c11 hb.head hb256 h1 REnds.back ?_
      exact pIdx_any B w d g o cap M hM s l p aI aN aL _ hL hE hb hu h11 hl40
    · by_cases h2 : 64 ≤ b.toNat
      · have hP : HD.pRepr s (b :: v) = HD.pLit s 6 true false (b :: v) := by rw [HD.pRepr, if_neg h1, if_pos h2]
        rw [hP]
        refine repr_lit6 d g o v.length cap b.toNat w _ c11 hb.head (by omega) h2 REnds.back ?_
        exact pLit_any B w d g o cap M hM s l p aI aN aL _ 6 (by decide) 0 true false (by decide) (by decide) hL hE hb hu h11 hc hl40 h (hp b v rfl (by omega) _ (by decide))
      · by_cases h3 : b.toNat < 16
        · have hP : HD.pRepr s (b :: v) = HD.pLit s 4 false false (b :: v) := by rw [HD.pRepr, if_neg h1, if_neg h2, if_pos h3]
          rw [hP]
          refine repr_lit4 d g o v.length cap b.toNat w _ c11 hb.head h3 REnds.back ?_
          exact pLit_any B w d g o cap M hM s l p aI aN aL _ 4 (by decide) 1 false false (by decide) (by decide) hL hE hb hu h11 hc hl40 h (hp b v rfl (by omega) _ (by decide))
        · by_cases h4 : b.toNat < 32
          · have hP : HD.pRepr s (b :: v) = HD.pLit s 4 false true (b :: v) := by rw [HD.pRepr, if_neg h1, if_neg h2, if_neg h3, if_pos h4]
            rw [hP]
            refine repr_lit4s d g o v.length cap b.toNat w _ c11 hb.head h4 (by omega) REnds.back ?_
            exact pLit_any B w d g o cap M hM s l p aI aN aL _ 4 (by decide) 2 false true (by decide) (by decide) hL hE hb hu h11 hc hl40 h (hp b v rfl (by omega) _ (by decide))
          · exact reprUpd_any B w d g o cap M s l p aI aN aL b v hL hE hb hu h11 hc (by omega) (by omega)
theorem stepsAll {B d : Nat} {M : Emitter} {aI aN aL : Addr} (hM : EmOk B M) (hT : aL ≠ aN) : Steps B d M aI aN aL (fun _ v => v.length ≤ 2 ^ 26) where
  ok s v h hne := stepOk_all hM s v h hne fun _ _ _ _ _ _ => Or.inl hT
  bad _ _ _ _ _ := Or.inl hT
  next s v ents max o rest h hr := by
    have := HD.pRepr_len hr
    omega
end Go.Proofs.YtmlnmllnlekcgaaDoor
/-
  The thin package's emitter meets what callEmit asks.
-/
namespace Go.Proofs.YtmlnmllnlekcgaaDoor
open Go.ChangeShapes Go.WideShapes Go.ChangeAt Go.RowKit

theorem infoFld' : (Tryd.prog.info? 30).map (fun i => (i.zero, i.size, i.bytes)) = some (some (.agg #[.string ByteArray.empty, .string ByteArray.empty, .bool false]), 3, 40) := by kernel_rfl
theorem fromField_any (f : HD.Fld) (w : World) : Calls Tryd.prog 20 #[fldV f] w fun e w' => e = .returned (fldV f) ∧ Below w.heap.size w w' := by
  unfold fldV
  go_enter Tryd.func20, Tryd.ntmps20
  go_wp2_with fail
  (try simp only [Exit.inBlock, Exit.then])
  refine bodyPost_ret (v := fldV f) ?_ rfl ?_
  · simp only [results, Tryd.results20]
    go_simp
    rfl
  exact ⟨rfl, ((Below.refl _ _).alloc (Nat.le_refl _) _).alloc (by simp) _⟩

set_option maxHeartbeats 1000000 in
set_option maxRecDepth 100000 in
theorem emOk_impl (B e : Nat) (hBe : B ≤ e) : EmOk B (implEm B e) where
  call := by
    refine ⟨19, .pointer (some ⟨e, 0, none⟩), rfl, fun args w => ?_, ?_⟩
    · simp [callFunc, Tryd.func19]
      rw [if_neg (by decide +kernel), if_neg]
      intro h
      have h2 : Tryd.f19.body.isSome = true := by kernel_rfl
      rw [h] at h2; cases h2
    · intro w l E f hB ⟨v, hr, hown, hne, hE⟩ hl
      obtain ⟨a, cap, rfl⟩ := own_form hown
      have q := hr.cell (i := 0) (by decide)
      have fz := hr.unfrozen 0 none
      have hew := hr.lt
      obtain ⟨i0, hi, hz0, hz1, hzb⟩ := info_parts infoFld'
      have Hr := Lib.hid hr
      have Hown := Lib.hid hown
      have Hne := Lib.hid hne
      have HE := Lib.hid hE
      have Hi := Lib.hid hi
      clear hr hown hne hE hi
      unfold fldV
      have hb1 : Below w.heap.size w (w.alloc (.cells #[.string ⟨f.name.toArray⟩, .string ⟨f.value.toArray⟩, .bool f.sens] 54)) := (Below.refl _ _).alloc (Nat.le_refl _) _
      have q0 : (w.alloc (.cells #[.string ⟨f.name.toArray⟩, .string ⟨f.value.toArray⟩, .bool f.sens] 54)).cell? ⟨w.heap.size, 0, none⟩ = some (.string ⟨f.name.toArray⟩) := (Lib.cell_of_heap (heap_alloc_new w _) 0).trans rfl
      have q1 : (w.alloc (.cells #[.string ⟨f.name.toArray⟩, .string ⟨f.value.toArray⟩, .bool f.sens] 54)).cell? ⟨w.heap.size, 1, none⟩ = some (.string ⟨f.value.toArray⟩) := (Lib.cell_of_heap (heap_alloc_new w _) 1).trans rfl
      have q2 : (w.alloc (.cells #[.string ⟨f.name.toArray⟩, .string ⟨f.value.toArray⟩, .bool f.sens] 54)).cell? ⟨w.heap.size, 2, none⟩ = some (.bool f.sens) := (Lib.cell_of_heap (heap_alloc_new w _) 2).trans rfl
      have qe := (hb1.cell (p := ⟨e, 0, none⟩) hew).trans q
      have HQ := Lib.hid (And.intro qe (And.intro q0 (And.intro q1 q2)))
      have Hb1 := Lib.hid hb1
      clear hb1 q0 q1 q2 qe
      go_enter Tryd.func19, Tryd.ntmps19
      go_wp2_with fail
      refine wp_region_held_drew (S := (fun w' => w'.cell? ⟨w.heap.size, 0, none⟩ = some (.string ⟨f.name.toArray⟩) ∧ w'.cell? ⟨w.heap.size, 1, none⟩ = some (.string ⟨f.value.toArray⟩) ∧ w'.cell? ⟨w.heap.size, 2, none⟩ = some (.bool f.sens))) (by kernel_rfl) ((by exact HQ.out.2)) (fun hHeld => ?_)
      refine takeH 1 (v := ?_) rfl rfl (by kernel_rfl) (by kernel_rfl) (by kernel_rfl) (fun _ _ _ h => h) (Or.inl ⟨by rfl, ?_⟩) (by assumption) ?_
      rotate_left
      · (intro w hSw; (try dsimp only at hSw); go_simp <;> with_reducible rfl)
      simp only [List.setIfInBounds_toArray, List.set_cons_zero, List.set_cons_succ]
      refine wpAnyH_ready (rs := [0, 2]) (by kernel_rfl) (by simp) ?_
      refine AllReadyH.cons rfl (fun K hK => ?_) (AllReadyH.cons rfl (fun K hK => ?_) AllReadyH.nil)
      · have qe := HQ.out.1
        go_simp
        refine hK.out _ _ (by exact HQ.out.2) (fun hHeld => ?_)
        clear hK K qe
        refine wpAnyH_ready (rs := [2]) (by kernel_rfl) (by simp) ?_
        refine AllReadyH.cons rfl (fun K hK => ?_) AllReadyH.nil
        go_simp
        refine (fromField_any f _).mono ?_
        rintro x w2 ⟨rfl, hb2⟩
        have hb2 : Below (w.alloc (.cells #[.string ⟨f.name.toArray⟩, .string ⟨f.value.toArray⟩, .bool f.sens] 54)).heap.size (w.alloc (.cells #[.string ⟨f.name.toArray⟩, .string ⟨f.value.toArray⟩, .bool f.sens] 54)) w2 := ⟨hb2.os, hb2.tape, hb2.output, hb2.size, hb2.block⟩
        have hs1 : (w.alloc (.cells #[.string ⟨f.name.toArray⟩, .string ⟨f.value.toArray⟩, .bool f.sens] 54)).heap.size = w.heap.size + 1 := by simp
        have hcell : ∀ k j u, k < w.heap.size + 1 → (w.alloc (.cells #[.string ⟨f.name.toArray⟩, .string ⟨f.value.toArray⟩, .bool f.sens] 54)).cell? ⟨k, j, none⟩ = some u → w2.cell? ⟨k, j, none⟩ = some u := fun k j u hk h => (hb2.cell (p := ⟨k, j, none⟩) (by rw [hs1]; exact hk)).trans h
        have HQ2 := Lib.hid (And.intro (hcell e 0 _ (by omega) HQ.out.1) (And.intro (hcell w.heap.size 0 _ (by omega) HQ.out.2.1) (And.intro (hcell w.heap.size 1 _ (by omega) HQ.out.2.2.1) (hcell w.heap.size 2 _ (by omega) HQ.out.2.2.2))))
        have hb02 : Below w.heap.size w w2 := Hb1.out.trans (hb2.mono (by omega))
        have hs2 : w.heap.size + 1 ≤ w2.heap.size := by have := hb2.size; omega
        have Hb02 := Lib.hid hb02
        clear hcell hb2 hb02 hs1
        unfold fldV
        go_simp
        refine hK.out _ _ (by exact HQ2.out.2) (fun hHeld => ?_)
        clear hK K
        refine wpAnyH_ready (rs := [3]) (by kernel_rfl) (by simp) ?_
        refine AllReadyH.cons rfl (fun K hK => ?_) AllReadyH.nil
        go_simp
        have hb3 : Below w2.heap.size w2 (w2.alloc (.cells #[.string ⟨f.name.toArray⟩, .string ⟨f.value.toArray⟩, .bool f.sens] 30)) := (Below.refl _ _).alloc (Nat.le_refl _) _
        have hn3 := news_of_new w2 (fCells f) 30
        have hs3 : (w2.alloc (.cells #[.string ⟨f.name.toArray⟩, .string ⟨f.value.toArray⟩, .bool f.sens] 30)).heap.size = w2.heap.size + 1 := by simp
        have hn3 : ∀ (q : Nat) u, (fCells f)[q]? = some u → (w2.alloc (.cells #[.string ⟨f.name.toArray⟩, .string ⟨f.value.toArray⟩, .bool f.sens] 30)).cell? ((⟨w2.heap.size, 0, none⟩ : Addr).add q) = some u := hn3
        generalize w2.alloc (.cells #[.string ⟨f.name.toArray⟩, .string ⟨f.value.toArray⟩, .bool f.sens] 30) = w3 at hb3 hn3 hs3 ⊢
        have hb03 : Below w.heap.size w w3 := Hb02.out.trans (hb3.mono (by omega))
        have hown3 := ownsRow_of_heap Hown.out fun g hg => hb03.block g (Hown.out.lt g hg).2
        have hr3 := Hr.out.of_heap (hb03.block e hew)
        have HQ3 := Lib.hid (And.intro ((hb3.cell (p := ⟨e, 0, none⟩) (by show e < w2.heap.size; omega)).trans HQ2.out.1) (And.intro ((hb3.cell (p := ⟨w.heap.size, 0, none⟩) (by show w.heap.size < w2.heap.size; omega)).trans HQ2.out.2.1) (And.intro ((hb3.cell (p := ⟨w.heap.size, 1, none⟩) (by show w.heap.size < w2.heap.size; omega)).trans HQ2.out.2.2.1) ((hb3.cell (p := ⟨w.heap.size, 2, none⟩) (by show w.heap.size < w2.heap.size; omega)).trans HQ2.out.2.2.2))))
        have Hb03 := Lib.hid hb03
        have Hown3 := Lib.hid hown3
        have Hr3 := Lib.hid hr3
        have Hn3 := Lib.hid hn3
        clear hb3 hb03 hown3 hr3 hn3
        refine hK.out _ _ (by exact HQ3.out.2) (fun hHeld => ?_)
        clear hK K
        refine wpAnyH_ready (rs := [4]) (by kernel_rfl) (by simp) ?_
        refine AllReadyH.cons rfl (fun K hK => ?_) AllReadyH.nil
        refine step_append_own_at rfl 7 rfl _ _ 22 rfl B 30 i0 (.agg #[.string ByteArray.empty, .string ByteArray.empty, .bool false]) 3 40 Tryd.underlying22 Hi.out hz0 hz1 hzb rfl (by decide) (.slice a l.length cap) l.length (flds l) rfl (by exact Hown3.out) ⟨w2.heap.size, 0, none⟩ 1 1 (fCells f) rfl rfl (by exact Hn3.out) (by intro u hu; simp [fCells] at hu; rcases hu with rfl | rfl | rfl <;> rfl) (by unfold maxLen; omega) (by omega) (by omega) ?_
        intro v4 w4 hown4 hgrow4 _ hat4
        obtain ⟨a4, cap4, rfl⟩ := own_form hown4
        have hs34 : w3.heap.size ≤ w4.heap.size := hgrow4.size
        have hke : w4.heap[e]? = w3.heap[e]? := hgrow4.block e (by omega) (fun h => Hne.out h.symm)
        have hkw : w4.heap[w.heap.size]? = w3.heap[w.heap.size]? := hgrow4.block _ (by omega) (fun h => by have := (Hown.out.lt _ h.symm).2; omega)
        have hr4 := Hr3.out.of_heap hke
        have c4 := hr4.cell (i := 0) (by decide)
        have f4 := hr4.unfrozen 0 none
        have HQ4 := Lib.hid (And.intro ((World.cell?_of_block (a := ⟨w.heap.size, 0, none⟩) hkw).trans HQ3.out.2.1) (And.intro ((World.cell?_of_block (a := ⟨w.heap.size, 1, none⟩) hkw).trans HQ3.out.2.2.1) ((World.cell?_of_block (a := ⟨w.heap.size, 2, none⟩) hkw).trans HQ3.out.2.2.2)))
        have hb4 : Upd (fun k => k = e ∨ (Value.slice a l.length cap).ownBlock = some k) w w4 := (Upd.of_below Hb03.out).step (Upd.of_grown hgrow4 fun k h => Or.inr h)
        have hnv : (Value.slice a4 (l.length + 1) cap4).ownBlock ≠ some e := by
          rcases hat4 with h | h
          · rw [h]; exact Hne.out
          · rw [h]; intro h'; have := Option.some.inj h'; omega
        have hEv : ∀ k, (Value.slice a4 (l.length + 1) cap4).ownBlock = some k → E k ∨ w.heap.size ≤ k := fun k hk => by
          rcases hat4 with h | h
          · exact Or.inl ((HE.out k).2 (Or.inr (h ▸ hk)))
          · rw [h] at hk; have := Option.some.inj hk; exact Or.inr (by omega)
        have Hown4 := Lib.hid hown4
        have Hr4 := Lib.hid hr4
        have Hb4 := Lib.hid hb4
        have Hnv := Lib.hid hnv
        have HEv := Lib.hid hEv
        clear hown4 hgrow4 hat4 hke hkw hr4 hb4 hnv hEv
        refine hK.out _ _ (by exact HQ4.out) (fun hHeld => ?_)
        clear hK K
        refine wpAnyH_ready (rs := [5]) (by kernel_rfl) (by simp) ?_
        refine AllReadyH.cons rfl (fun K hK => ?_) AllReadyH.nil
        go_simp
        have hne0 : e ≠ w.heap.size := Nat.ne_of_lt hew
        have hkw : ∀ u, (w4.setCell ⟨e, 0, none⟩ u).heap[w.heap.size]? = w4.heap[w.heap.size]? := fun u => other_set hne0
        refine hK.out _ _ (by exact ⟨(World.cell?_of_block (a := ⟨w.heap.size, 0, none⟩) (hkw (.slice a4 (l.length + 1) cap4))).trans HQ4.out.1, (World.cell?_of_block (a := ⟨w.heap.size, 1, none⟩) (hkw (.slice a4 (l.length + 1) cap4))).trans HQ4.out.2.1, (World.cell?_of_block (a := ⟨w.heap.size, 2, none⟩) (hkw (.slice a4 (l.length + 1) cap4))).trans HQ4.out.2.2⟩) (fun hHeld => ?_)
        clear hK K
        refine wpAnyH_done (by kernel_rfl) ?_ _
        go_wp2_with fail
        go_end0
        refine ⟨rfl, fun k => k = e ∨ (Value.slice a4 (l.length + 1) cap4).ownBlock = some k, ⟨(.slice a4 (l.length + 1) cap4), ?_, ?_, Hnv.out, fun k => Iff.rfl⟩, ?_, ?_⟩
        · exact (Hr4.out.set 0 (.slice a4 (l.length + 1) cap4)).congr fun i hi => by simp [show i = 0 by omega]
        · rw [flds_append, List.length_append]
          refine ownsRow_of_heap ?_ fun g' hg => other_set (fun h => Hnv.out (by rw [hg, h]))
          simpa [flds, fCells] using Hown4.out
        · rintro k (h | h)
          · exact Or.inl ((HE.out k).2 (Or.inl h))
          · exact HEv.out k h
        · refine Upd.setCell (Hb4.out.mono fun k h => (HE.out k).2 h) (a := ⟨e, 0, none⟩) (Or.inl ((HE.out e).2 (Or.inl rfl))) _
      ·
        go_simp
        refine (fromField_any f _).mono ?_
        rintro x w2 ⟨rfl, hb2⟩
        have hb2 : Below (w.alloc (.cells #[.string ⟨f.name.toArray⟩, .string ⟨f.value.toArray⟩, .bool f.sens] 54)).heap.size (w.alloc (.cells #[.string ⟨f.name.toArray⟩, .string ⟨f.value.toArray⟩, .bool f.sens] 54)) w2 := ⟨hb2.os, hb2.tape, hb2.output, hb2.size, hb2.block⟩
        have hs1 : (w.alloc (.cells #[.string ⟨f.name.toArray⟩, .string ⟨f.value.toArray⟩, .bool f.sens] 54)).heap.size = w.heap.size + 1 := by simp
        have hcell : ∀ k j u, k < w.heap.size + 1 → (w.alloc (.cells #[.string ⟨f.name.toArray⟩, .string ⟨f.value.toArray⟩, .bool f.sens] 54)).cell? ⟨k, j, none⟩ = some u → w2.cell? ⟨k, j, none⟩ = some u := fun k j u hk h => (hb2.cell (p := ⟨k, j, none⟩) (by rw [hs1]; exact hk)).trans h
        have HQ2 := Lib.hid (And.intro (hcell e 0 _ (by omega) HQ.out.1) (And.intro (hcell w.heap.size 0 _ (by omega) HQ.out.2.1) (And.intro (hcell w.heap.size 1 _ (by omega) HQ.out.2.2.1) (hcell w.heap.size 2 _ (by omega) HQ.out.2.2.2))))
        have hb02 : Below w.heap.size w w2 := Hb1.out.trans (hb2.mono (by omega))
        have hs2 : w.heap.size + 1 ≤ w2.heap.size := by have := hb2.size; omega
        have Hb02 := Lib.hid hb02
        clear hcell hb2 hb02 hs1
        unfold fldV
        go_simp
        refine hK.out _ _ (by exact HQ2.out.2) (fun hHeld => ?_)
        clear hK K
        refine wpAnyH_ready (rs := [0, 3]) (by kernel_rfl) (by simp) ?_
        refine AllReadyH.cons rfl (fun K hK => ?_) (AllReadyH.cons rfl (fun K hK => ?_) AllReadyH.nil)
        · have qe := HQ2.out.1
          go_simp
          refine hK.out _ _ (by exact HQ2.out.2) (fun hHeld => ?_)
          clear hK K qe
          refine wpAnyH_ready (rs := [3]) (by kernel_rfl) (by simp) ?_
          refine AllReadyH.cons rfl (fun K hK => ?_) AllReadyH.nil
          go_simp
          have hb3 : Below w2.heap.size w2 (w2.alloc (.cells #[.string ⟨f.name.toArray⟩, .string ⟨f.value.toArray⟩, .bool f.sens] 30)) := (Below.refl _ _).alloc (Nat.le_refl _) _
          have hn3 := news_of_new w2 (fCells f) 30
          have hs3 : (w2.alloc (.cells #[.string ⟨f.name.toArray⟩, .string ⟨f.value.toArray⟩, .bool f.sens] 30)).heap.size = w2.heap.size + 1 := by simp
          have hn3 : ∀ (q : Nat) u, (fCells f)[q]? = some u → (w2.alloc (.cells #[.string ⟨f.name.toArray⟩, .string ⟨f.value.toArray⟩, .bool f.sens] 30)).cell? ((⟨w2.heap.size, 0, none⟩ : Addr).add q) = some u := hn3
          generalize w2.alloc (.cells #[.string ⟨f.name.toArray⟩, .string ⟨f.value.toArray⟩, .bool f.sens] 30) = w3 at hb3 hn3 hs3 ⊢
          have hb03 : Below w.heap.size w w3 := Hb02.out.trans (hb3.mono (by omega))
          have hown3 := ownsRow_of_heap Hown.out fun g hg => hb03.block g (Hown.out.lt g hg).2
          have hr3 := Hr.out.of_heap (hb03.block e hew)
          have HQ3 := Lib.hid (And.intro ((hb3.cell (p := ⟨e, 0, none⟩) (by show e < w2.heap.size; omega)).trans HQ2.out.1) (And.intro ((hb3.cell (p := ⟨w.heap.size, 0, none⟩) (by show w.heap.size < w2.heap.size; omega)).trans HQ2.out.2.1) (And.intro ((hb3.cell (p := ⟨w.heap.size, 1, none⟩) (by show w.heap.size < w2.heap.size; omega)).trans HQ2.out.2.2.1) ((hb3.cell (p := ⟨w.heap.size, 2, none⟩) (by show w.heap.size < w2.heap.size; omega)).trans HQ2.out.2.2.2))))
          have Hb03 := Lib.hid hb03
          have Hown3 := Lib.hid hown3
          have Hr3 := Lib.hid hr3
          have Hn3 := Lib.hid hn3
          clear hb3 hb03 hown3 hr3 hn3
          refine hK.out _ _ (by exact HQ3.out.2) (fun hHeld => ?_)
          clear hK K
          refine wpAnyH_ready (rs := [4]) (by kernel_rfl) (by simp) ?_
          refine AllReadyH.cons rfl (fun K hK => ?_) AllReadyH.nil
          refine step_append_own_at rfl 7 rfl _ _ 22 rfl B 30 i0 (.agg #[.string ByteArray.empty, .string ByteArray.empty, .bool false]) 3 40 Tryd.underlying22 Hi.out hz0 hz1 hzb rfl (by decide) (.slice a l.length cap) l.length (flds l) rfl (by exact Hown3.out) ⟨w2.heap.size, 0, none⟩ 1 1 (fCells f) rfl rfl (by exact Hn3.out) (by intro u hu; simp [fCells] at hu; rcases hu with rfl | rfl | rfl <;> rfl) (by unfold maxLen; omega) (by omega) (by omega) ?_
          intro v4 w4 hown4 hgrow4 _ hat4
          obtain ⟨a4, cap4, rfl⟩ := own_form hown4
          have hs34 : w3.heap.size ≤ w4.heap.size := hgrow4.size
          have hke : w4.heap[e]? = w3.heap[e]? := hgrow4.block e (by omega) (fun h => Hne.out h.symm)
          have hkw : w4.heap[w.heap.size]? = w3.heap[w.heap.size]? := hgrow4.block _ (by omega) (fun h => by have := (Hown.out.lt _ h.symm).2; omega)
          have hr4 := Hr3.out.of_heap hke
          have c4 := hr4.cell (i := 0) (by decide)
          have f4 := hr4.unfrozen 0 none
          have HQ4 := Lib.hid (And.intro ((World.cell?_of_block (a := ⟨w.heap.size, 0, none⟩) hkw).trans HQ3.out.2.1) (And.intro ((World.cell?_of_block (a := ⟨w.heap.size, 1, none⟩) hkw).trans HQ3.out.2.2.1) ((World.cell?_of_block (a := ⟨w.heap.size, 2, none⟩) hkw).trans HQ3.out.2.2.2)))
          have hb4 : Upd (fun k => k = e ∨ (Value.slice a l.length cap).ownBlock = some k) w w4 := (Upd.of_below Hb03.out).step (Upd.of_grown hgrow4 fun k h => Or.inr h)
          have hnv : (Value.slice a4 (l.length + 1) cap4).ownBlock ≠ some e := by
            rcases hat4 with h | h
            · rw [h]; exact Hne.out
            · rw [h]; intro h'; have := Option.some.inj h'; omega
          have hEv : ∀ k, (Value.slice a4 (l.length + 1) cap4).ownBlock = some k → E k ∨ w.heap.size ≤ k := fun k hk => by
            rcases hat4 with h | h
            · exact Or.inl ((HE.out k).2 (Or.inr (h ▸ hk)))
            · rw [h] at hk; have := Option.some.inj hk; exact Or.inr (by omega)
          have Hown4 := Lib.hid hown4
          have Hr4 := Lib.hid hr4
          have Hb4 := Lib.hid hb4
          have Hnv := Lib.hid hnv
          have HEv := Lib.hid hEv
          clear hown4 hgrow4 hat4 hke hkw hr4 hb4 hnv hEv
          refine hK.out _ _ (by exact HQ4.out) (fun hHeld => ?_)
          clear hK K
          refine wpAnyH_ready (rs := [5]) (by kernel_rfl) (by simp) ?_
          refine AllReadyH.cons rfl (fun K hK => ?_) AllReadyH.nil
          go_simp
          have hne0 : e ≠ w.heap.size := Nat.ne_of_lt hew
          have hkw : ∀ u, (w4.setCell ⟨e, 0, none⟩ u).heap[w.heap.size]? = w4.heap[w.heap.size]? := fun u => other_set hne0
          refine hK.out _ _ (by exact ⟨(World.cell?_of_block (a := ⟨w.heap.size, 0, none⟩) (hkw (.slice a4 (l.length + 1) cap4))).trans HQ4.out.1, (World.cell?_of_block (a := ⟨w.heap.size, 1, none⟩) (hkw (.slice a4 (l.length + 1) cap4))).trans HQ4.out.2.1, (World.cell?_of_block (a := ⟨w.heap.size, 2, none⟩) (hkw (.slice a4 (l.length + 1) cap4))).trans HQ4.out.2.2⟩) (fun hHeld => ?_)
          clear hK K
          refine wpAnyH_done (by kernel_rfl) ?_ _
          go_wp2_with fail
          go_end0
          refine ⟨rfl, fun k => k = e ∨ (Value.slice a4 (l.length + 1) cap4).ownBlock = some k, ⟨(.slice a4 (l.length + 1) cap4), ?_, ?_, Hnv.out, fun k => Iff.rfl⟩, ?_, ?_⟩
          · exact (Hr4.out.set 0 (.slice a4 (l.length + 1) cap4)).congr fun i hi => by simp [show i = 0 by omega]
          · rw [flds_append, List.length_append]
            refine ownsRow_of_heap ?_ fun g' hg => other_set (fun h => Hnv.out (by rw [hg, h]))
            simpa [flds, fCells] using Hown4.out
          · rintro k (h | h)
            · exact Or.inl ((HE.out k).2 (Or.inl h))
            · exact HEv.out k h
          · refine Upd.setCell (Hb4.out.mono fun k h => (HE.out k).2 h) (a := ⟨e, 0, none⟩) (Or.inl ((HE.out e).2 (Or.inl rfl))) _
        ·
          go_simp
          have hb3 : Below w2.heap.size w2 (w2.alloc (.cells #[.string ⟨f.name.toArray⟩, .string ⟨f.value.toArray⟩, .bool f.sens] 30)) := (Below.refl _ _).alloc (Nat.le_refl _) _
          have hn3 := news_of_new w2 (fCells f) 30
          have hs3 : (w2.alloc (.cells #[.string ⟨f.name.toArray⟩, .string ⟨f.value.toArray⟩, .bool f.sens] 30)).heap.size = w2.heap.size + 1 := by simp
          have hn3 : ∀ (q : Nat) u, (fCells f)[q]? = some u → (w2.alloc (.cells #[.string ⟨f.name.toArray⟩, .string ⟨f.value.toArray⟩, .bool f.sens] 30)).cell? ((⟨w2.heap.size, 0, none⟩ : Addr).add q) = some u := hn3
          generalize w2.alloc (.cells #[.string ⟨f.name.toArray⟩, .string ⟨f.value.toArray⟩, .bool f.sens] 30) = w3 at hb3 hn3 hs3 ⊢
          have hb03 : Below w.heap.size w w3 := Hb02.out.trans (hb3.mono (by omega))
          have hown3 := ownsRow_of_heap Hown.out fun g hg => hb03.block g (Hown.out.lt g hg).2
          have hr3 := Hr.out.of_heap (hb03.block e hew)
          have HQ3 := Lib.hid (And.intro ((hb3.cell (p := ⟨e, 0, none⟩) (by show e < w2.heap.size; omega)).trans HQ2.out.1) (And.intro ((hb3.cell (p := ⟨w.heap.size, 0, none⟩) (by show w.heap.size < w2.heap.size; omega)).trans HQ2.out.2.1) (And.intro ((hb3.cell (p := ⟨w.heap.size, 1, none⟩) (by show w.heap.size < w2.heap.size; omega)).trans HQ2.out.2.2.1) ((hb3.cell (p := ⟨w.heap.size, 2, none⟩) (by show w.heap.size < w2.heap.size; omega)).trans HQ2.out.2.2.2))))
          have Hb03 := Lib.hid hb03
          have Hown3 := Lib.hid hown3
          have Hr3 := Lib.hid hr3
          have Hn3 := Lib.hid hn3
          clear hb3 hb03 hown3 hr3 hn3
          refine hK.out _ _ (by exact HQ3.out.2) (fun hHeld => ?_)
          clear hK K
          refine wpAnyH_ready (rs := [0]) (by kernel_rfl) (by simp) ?_
          refine AllReadyH.cons rfl (fun K hK => ?_) AllReadyH.nil
          have qe := HQ3.out.1
          go_simp
          refine hK.out _ _ (by exact HQ3.out.2) (fun hHeld => ?_)
          clear hK K qe
          refine wpAnyH_ready (rs := [4]) (by kernel_rfl) (by simp) ?_
          refine AllReadyH.cons rfl (fun K hK => ?_) AllReadyH.nil
          refine step_append_own_at rfl 7 rfl _ _ 22 rfl B 30 i0 (.agg #[.string ByteArray.empty, .string ByteArray.empty, .bool false]) 3 40 Tryd.underlying22 Hi.out hz0 hz1 hzb rfl (by decide) (.slice a l.length cap) l.length (flds l) rfl (by exact Hown3.out) ⟨w2.heap.size, 0, none⟩ 1 1 (fCells f) rfl rfl (by exact Hn3.out) (by intro u hu; simp [fCells] at hu; rcases hu with rfl | rfl | rfl <;> rfl) (by unfold maxLen; omega) (by omega) (by omega) ?_
          intro v4 w4 hown4 hgrow4 _ hat4
          obtain ⟨a4, cap4, rfl⟩ := own_form hown4
          have hs34 : w3.heap.size ≤ w4.heap.size := hgrow4.size
          have hke : w4.heap[e]? = w3.heap[e]? := hgrow4.block e (by omega) (fun h => Hne.out h.symm)
          have hkw : w4.heap[w.heap.size]? = w3.heap[w.heap.size]? := hgrow4.block _ (by omega) (fun h => by have := (Hown.out.lt _ h.symm).2; omega)
          have hr4 := Hr3.out.of_heap hke
          have c4 := hr4.cell (i := 0) (by decide)
          have f4 := hr4.unfrozen 0 none
          have HQ4 := Lib.hid (And.intro ((World.cell?_of_block (a := ⟨w.heap.size, 0, none⟩) hkw).trans HQ3.out.2.1) (And.intro ((World.cell?_of_block (a := ⟨w.heap.size, 1, none⟩) hkw).trans HQ3.out.2.2.1) ((World.cell?_of_block (a := ⟨w.heap.size, 2, none⟩) hkw).trans HQ3.out.2.2.2)))
          have hb4 : Upd (fun k => k = e ∨ (Value.slice a l.length cap).ownBlock = some k) w w4 := (Upd.of_below Hb03.out).step (Upd.of_grown hgrow4 fun k h => Or.inr h)
          have hnv : (Value.slice a4 (l.length + 1) cap4).ownBlock ≠ some e := by
            rcases hat4 with h | h
            · rw [h]; exact Hne.out
            · rw [h]; intro h'; have := Option.some.inj h'; omega
          have hEv : ∀ k, (Value.slice a4 (l.length + 1) cap4).ownBlock = some k → E k ∨ w.heap.size ≤ k := fun k hk => by
            rcases hat4 with h | h
            · exact Or.inl ((HE.out k).2 (Or.inr (h ▸ hk)))
            · rw [h] at hk; have := Option.some.inj hk; exact Or.inr (by omega)
          have Hown4 := Lib.hid hown4
          have Hr4 := Lib.hid hr4
          have Hb4 := Lib.hid hb4
          have Hnv := Lib.hid hnv
          have HEv := Lib.hid hEv
          clear hown4 hgrow4 hat4 hke hkw hr4 hb4 hnv hEv
          refine hK.out _ _ (by exact HQ4.out) (fun hHeld => ?_)
          clear hK K
          refine wpAnyH_ready (rs := [5]) (by kernel_rfl) (by simp) ?_
          refine AllReadyH.cons rfl (fun K hK => ?_) AllReadyH.nil
          go_simp
          have hne0 : e ≠ w.heap.size := Nat.ne_of_lt hew
          have hkw : ∀ u, (w4.setCell ⟨e, 0, none⟩ u).heap[w.heap.size]? = w4.heap[w.heap.size]? := fun u => other_set hne0
          refine hK.out _ _ (by exact ⟨(World.cell?_of_block (a := ⟨w.heap.size, 0, none⟩) (hkw (.slice a4 (l.length + 1) cap4))).trans HQ4.out.1, (World.cell?_of_block (a := ⟨w.heap.size, 1, none⟩) (hkw (.slice a4 (l.length + 1) cap4))).trans HQ4.out.2.1, (World.cell?_of_block (a := ⟨w.heap.size, 2, none⟩) (hkw (.slice a4 (l.length + 1) cap4))).trans HQ4.out.2.2⟩) (fun hHeld => ?_)
          clear hK K
          refine wpAnyH_done (by kernel_rfl) ?_ _
          go_wp2_with fail
          go_end0
          refine ⟨rfl, fun k => k = e ∨ (Value.slice a4 (l.length + 1) cap4).ownBlock = some k, ⟨(.slice a4 (l.length + 1) cap4), ?_, ?_, Hnv.out, fun k => Iff.rfl⟩, ?_, ?_⟩
          · exact (Hr4.out.set 0 (.slice a4 (l.length + 1) cap4)).congr fun i hi => by simp [show i = 0 by omega]
          · rw [flds_append, List.length_append]
            refine ownsRow_of_heap ?_ fun g' hg => other_set (fun h => Hnv.out (by rw [hg, h]))
            simpa [flds, fCells] using Hown4.out
          · rintro k (h | h)
            · exact Or.inl ((HE.out k).2 (Or.inl h))
            · exact HEv.out k h
          · refine Upd.setCell (Hb4.out.mono fun k h => (HE.out k).2 h) (a := ⟨e, 0, none⟩) (Or.inl ((HE.out e).2 (Or.inl rfl))) _
end Go.Proofs.YtmlnmllnlekcgaaDoor
/-
  What impl.Decode hands back, as the laws read it.
-/
namespace Go.Proofs.YtmlnmllnlekcgaaDoor
open Go.ChangeShapes Go.WideShapes Go.ChangeAt Go.RowKit

/-- Answers lie at the head of block g. -/
structure AnsMem (w : World) (g cap : Nat) (A : List HD.Ans) : Prop where
  len : A.length ≤ cap
  ex : ∃ vs X, (∀ j v, vs[j]? = some v → w.cell? ⟨g, j, none⟩ = some v) ∧ (∀ i a, A[i]? = some a → AnsAt w X vs i a) ∧ (∀ k, X k → k < w.heap.size)
theorem AnsMem.mono {w w' : World} {g cap : Nat} {A : List HD.Ans} (h : AnsMem w g cap A) (hb : Below w.heap.size w w') : AnsMem w' g cap A := by
  obtain ⟨h1, vs, X, h2, h3, h4⟩ := h
  refine ⟨h1, vs, X, fun j v hv => (hb.cell (p := ⟨g, j, none⟩) (World.block_lt_of_cell? _ _ (h2 j v hv))).trans (h2 j v hv), fun i a ha => ?_, fun k hk => Nat.lt_of_lt_of_le (h4 k hk) hb.size⟩
  have := (h3 i a ha).move (w' := w') (Y := X) (fun k hk => hb.block k (h4 k hk)) (fun k hk => hk) []
  rwa [List.append_nil] at this
theorem ans_of_run {w w' : World} {A : List HD.Ans} {e : Ending} (h : RunEnds w A e w') (hA : 0 < A.length) : ∃ g cap, e = .returned (.slice (some ⟨g, 0, none⟩) A.length cap) ∧ AnsMem w' g cap A ∧ Below w.heap.size w w' := by
  obtain ⟨ov, vs, X, rfl, hown, hat, hX, -, hb⟩ := h
  rcases hown.2 with ⟨e, h0⟩ | ⟨g, cap, cur, e, -, -, h1, -, -⟩
  · omega
  · subst e
    exact ⟨g, cap, rfl, ⟨h1, vs, X, fun j v hv => by
      have := hown.cells (g := g) rfl j v hv
      rwa [Lib.addr_add, Nat.zero_add] at this, hat, fun k hk => (hX k hk).1⟩, hb⟩
theorem AnsAt.drop {w : World} {X : Nat → Prop} {vs : List Value} {k i : Nat} {a : HD.Ans} (h : AnsAt w X vs (k + i) a) : AnsAt w X (vs.drop (k * 6)) i a := by
  obtain ⟨fv, lv, nn, h0, h1, h2, h3, h4, h5, hf, hl⟩ := h
  have key : ∀ j v, vs[(k + i) * 6 + j]? = some v → (vs.drop (k * 6))[i * 6 + j]? = some v := fun j v hv => by
    rw [List.getElem?_drop, show k * 6 + (i * 6 + j) = (k + i) * 6 + j by omega]; exact hv
  exact ⟨fv, lv, nn, key 0 _ h0, key 1 _ h1, key 2 _ h2, key 3 _ h3, key 4 _ h4, key 5 _ h5, hf, hl⟩
theorem sum_drop (l : List Nat) : ∀ k, (l.drop k).sum ≤ l.sum := by
  induction l with
  | nil => simp
  | cons a l ih =>
    intro k
    cases k with
    | zero => simp
    | succ k => have := ih k; simp; omega
/-- read, of the answers from place k on. -/
theorem AnsMem.read {w : World} {g cap : Nat} {A : List HD.Ans} (h : AnsMem w g cap A) (k : Nat) (hk : k ≤ A.length) (hn : A.length ≤ 2 ^ 22) (hS : (A.map fun a => a.out.length).sum ≤ 2 ^ 40) :
    Calls Tryd.prog 9 #[.slice (some ⟨g, k * 6, none⟩) (A.length - k) (cap - k)] w (ReadEnds w (HD.rd [] (A.drop k))) := by
  obtain ⟨h1, vs, X, h2, h3, h4⟩ := h
  have e : (A.drop k).length = A.length - k := List.length_drop
  rw [← e]
  refine read_any w (A.drop k) g (k * 6) (cap - k) (vs.drop (k * 6)) X (by omega) ?_ (fun j v hv => ?_) (by omega) (fun i a ha => ?_) h4
  · rw [List.map_drop]
    exact Nat.le_trans (sum_drop _ k) hS
  · rw [List.getElem?_drop] at hv
    exact h2 _ v hv
  · rw [List.getElem?_drop] at ha
    exact (h3 _ a ha).drop
/-- One answer's cells. -/
theorem AnsMem.at {w : World} {g cap : Nat} {A : List HD.Ans} (h : AnsMem w g cap A) (i : Nat) (a : HD.Ans) (ha : A[i]? = some a) : ∃ fv lv nn, w.cell? ⟨g, i * 6, none⟩ = some fv ∧ w.cell? ⟨g, i * 6 + 1, none⟩ = some lv ∧ w.cell? ⟨g, i * 6 + 2, none⟩ = some (.int .i64 nn) ∧
    w.cell? ⟨g, i * 6 + 3, none⟩ = some (.bool a.flag) ∧ w.cell? ⟨g, i * 6 + 4, none⟩ = some (.int .i64 (HD.code a.err)) ∧ w.cell? ⟨g, i * 6 + 5, none⟩ = some (.int .i64 (HD.idx a.err)) ∧ FSl w fv a.out ∧ FSl w lv a.lst := by
  obtain ⟨h1, vs, X, h2, h3, h4⟩ := h
  obtain ⟨fv, lv, nn, k0, k1, k2, k3, k4, k5, hf, hl⟩ := h3 i a ha
  exact ⟨fv, lv, nn, h2 _ _ k0, h2 _ _ k1, h2 _ _ k2, h2 _ _ k3, h2 _ _ k4, h2 _ _ k5, FSl.of_frow hf, FSl.of_frow hl⟩

/-- A block that is read whole. -/
def wholeCmds (v : HD.Bs) : List HD.Cmd := [.write v, .close]
def st0 (size : Nat) : HD.DS := ⟨⟨[], size, size, true, true⟩, []⟩
/-- Steps of the kinds that the laws use, with few bytes. -/
def CmdFine : HD.Cmd → Prop
  | .write v => v.length ≤ 2 ^ 24
  | .close => True
  | .on _ => True
  | .isOn => True
  | .allow n => n ≤ 2 ^ 31
  | _ => False
theorem runOk_fine {B d : Nat} {M : Emitter} {aI aN aL : Addr} (hM : EmOk B M) (hT : aL ≠ aN) : ∀ (cs : List HD.Cmd) (σ : HD.DS), (∀ c ∈ cs, CmdFine c) → σ.save.length + (cs.map HD.Cmd.len).sum ≤ 2 ^ 26 → RunOk B d M aI aN aL σ cs
  | [], _, _, _ => trivial
  | c :: cs, σ, hf, hs => by
    have hl := HD.dstep_len σ c
    simp only [List.map_cons, List.sum_cons] at hs
    refine ⟨?_, runOk_fine hM hT cs _ (fun c' hc' => hf c' (List.mem_cons_of_mem _ hc')) (by omega)⟩
    have hc := hf c List.mem_cons_self
    cases c with
    | write v => exact cmdOk_write (stepsAll hM hT) (by show (σ.save ++ v).length ≤ _; rw [List.length_append]; simp only [HD.Cmd.len, HD.Cmd.bytes] at hs; omega)
    | close => exact cmdOk_close (Or.inl hT)
    | full v => exact hc.elim
    | on b => exact cmdOk_on
    | resize n => exact hc.elim
    | allow n => exact cmdOk_allow hc
    | isOn => exact cmdOk_isOn

/-- impl.Decode, of steps of these kinds. -/
theorem decode_steps (w : World) (size : Nat) (aI aN aL : Addr) (gs os cap : Nat) (cs : List HD.Cmd) (bs : List Value) (hs : size ≤ 2 ^ 31) (hE : Env w.heap.size w aI aN aL) (hm : StepsMem w gs os cs bs) (hcap : cap ≤ maxLen) (hn : cs.length ≤ cap) (hn40 : cs.length ≤ 2 ^ 22) (hpos : 0 < cs.length)
    (hf : ∀ c ∈ cs, CmdFine c) (hT : (cs.map HD.Cmd.len).sum ≤ 2 ^ 26) :
    Calls Tryd.prog 10 #[.int .i64 (size : Nat), .slice (some ⟨gs, os, none⟩) cs.length cap] w fun e w' => ∃ g c, e = .returned (.slice (some ⟨g, 0, none⟩) cs.length c) ∧ AnsMem w' g c (HD.drun (st0 size) cs) ∧ Below w.heap.size w w' := by
  refine (run_any w size aI aN aL gs os cap cs bs hs hE hm hcap hn (by omega) (runOk_fine (emOk_impl _ _ (Nat.le_refl _)) hE.2 cs _ hf (by simpa using hT)) (by unfold lens; omega)).mono ?_
  intro e w' h
  obtain ⟨g, c, rfl, h1, h2⟩ := ans_of_run h (by rw [HD.drun_len]; exact hpos)
  rw [HD.drun_len]
  exact ⟨g, c, rfl, h1, h2⟩
theorem drun_sum0 (size : Nat) (cs : List HD.Cmd) (hT : (cs.map HD.Cmd.len).sum ≤ 2 ^ 26) : ((HD.drun (st0 size) cs).map fun a => a.out.length).sum ≤ 2 ^ 40 := by
  have := HD.drun_sum cs (st0 size)
  have h0 : (st0 size).save.length = 0 := rfl
  omega
/-- The steps that laws.whole lays. -/
theorem whole_steps (w : World) (v : HD.Bs) (sa : Option Addr) (cap : Nat) (h : CmdV w (.write v) (.slice sa v.length cap)) :
    StepsMem (w.alloc (.cells #[.int .i64 0, .slice sa v.length cap, .int .i64 0, .bool false, .int .i64 1, .slice none 0 0, .int .i64 0, .bool false] 58)) w.heap.size 0 (wholeCmds v) [.slice sa v.length cap, .slice none 0 0] := by
  refine steps_of_cells rfl (fun j u hu => ?_) ?_
  · have := news_of_new w (stepCells (wholeCmds v) [.slice sa v.length cap, .slice none 0 0]) 58 j u hu
    rwa [Lib.addr_add] at this
  · intro i h1 h2
    match i, h1, h2 with
    | 0, _, _ => exact h.of_below ((Below.refl _ _).alloc (Nat.le_refl _) _)
    | 1, _, _ => exact CmdV.plain rfl (by show 0 < _; decide)
theorem CmdV.write_src {w : World} {v : HD.Bs} {sa : Option Addr} {cap : Nat} (hl : v.length < 2 ^ 40) (h : SrcAny sa cap v w) : CmdV w (.write v) (.slice sa v.length cap) := by
  refine ⟨hl, by simp [sizeOfC], ?_⟩
  rcases h with ⟨rfl, rfl, rfl⟩ | ⟨a, rfl, hb⟩
  · exact Or.inl ⟨rfl, rfl⟩
  · exact Or.inr ⟨a, cap, rfl, hb, rfl⟩
/-- A row of cells that was just laid. -/
theorem own_new {w : World} (cs : Array Value) (t : TypeId) (s n : Nat) (hs : cs.size = n * s) (hn : n ≤ maxLen) : (w.alloc (.cells cs t)).ownsRow w.heap.size t s (.slice (some ⟨w.heap.size, 0, none⟩) n n) n cs.toList := by
  refine ⟨by simpa using hs, Or.inr ⟨w.heap.size, n, cs, rfl, Nat.le_refl _, heap_alloc_new w _, Nat.le_refl _, hn, hs, ?_⟩⟩
  rw [List.take_of_length_le (by simp [hs])]
theorem own_some {w : World} {B e size n : Nat} {v : Value} {xs : List Value} (h : w.ownsRow B e size v n xs) (hn : 0 < n) : ∃ g cap, v = .slice (some ⟨g, 0, none⟩) n cap ∧ n ≤ cap ∧ cap ≤ maxLen ∧ B ≤ g ∧ g < w.heap.size := by
  rcases h.2 with ⟨-, h0⟩ | ⟨g, cap, cur, e, h1, h2, h3, h4, -⟩
  · omega
  · exact ⟨g, cap, e, h3, h4, h1, (Array.getElem?_eq_some_iff.1 h2).1⟩
theorem decode_whole (w : World) (size : Nat) (aI aN aL : Addr) (gs : Nat) (v : HD.Bs) (bs : List Value) (hs : size ≤ 2 ^ 31) (hE : Env w.heap.size w aI aN aL) (hm : StepsMem w gs 0 (wholeCmds v) bs) (hv : v.length ≤ 2 ^ 24) :
    Calls Tryd.prog 10 #[.int .i64 (size : Nat), .slice (some ⟨gs, 0, none⟩) 2 2] w fun e w' => ∃ g c, e = .returned (.slice (some ⟨g, 0, none⟩) 2 c) ∧ AnsMem w' g c (HD.drun (st0 size) (wholeCmds v)) ∧ Below w.heap.size w w' := by
  have h := decode_steps w size aI aN aL gs 0 2 (wholeCmds v) bs hs hE hm (by decide) (by show 2 ≤ 2; decide) (by show 2 ≤ 2 ^ 22; decide) (by show 0 < 2; decide) (fun c hc => by
    simp only [wholeCmds, List.mem_cons, List.not_mem_nil, or_false] at hc
    rcases hc with rfl | rfl
    · exact hv
    · trivial) (by show v.length + (0 + 0) ≤ _; omega)
  exact h
theorem read_whole {w : World} {g c size : Nat} {v : HD.Bs} (h : AnsMem w g c (HD.drun (st0 size) (wholeCmds v))) (hv : v.length ≤ 2 ^ 24) : Calls Tryd.prog 9 #[.slice (some ⟨g, 0, none⟩) 2 c] w (ReadEnds w (HD.rd [] (HD.drun (st0 size) (wholeCmds v)))) := by
  have hlen : (HD.drun (st0 size) (wholeCmds v)).length = 2 := by rw [HD.drun_len]; rfl
  have h2 := h.read 0 (Nat.zero_le _) (by rw [hlen]; decide) (drun_sum0 size _ (by show v.length + (0 + 0) ≤ _; omega))
  rw [hlen, List.drop_zero] at h2
  simpa using h2
theorem infoDS' : (Tryd.prog.info? 58).map (fun i => (i.zero, i.size, i.bytes)) = some (some (.agg #[.int .i64 0, .slice none 0 0, .int .i64 0, .bool false]), 4, 48) := by kernel_rfl
theorem byteCells_append (a b : HD.Bs) : Lib.byteCells (a ++ b) = Lib.byteCells a ++ Lib.byteCells b := by simp [Lib.byteCells]
end Go.Proofs.YtmlnmllnlekcgaaDoor
/-
  PLAIN: a decoder that must not emit reads the next block as if it had emitted. No program in sight.
-/
namespace Go.Proofs.YtmlnmllnlekcgaaDoor.HD

def loudCmds (b c : Bs) : List Cmd := [.write b, .close, .write c, .close]
def quietCmds (b c : Bs) : List Cmd := [.isOn, .on false, .write b, .close, .isOn, .on true, .isOn, .write c, .close]

theorem W_on : ∀ (n : Nat) (s : St) (out : List Fld) (v : Bs), v.length ≤ n → (W s out v).st.on = s.on
  | n, s, out, [], _ => by simp [W_nil]
  | 0, _, _, _ :: _, h => by simp at h
  | n + 1, s, out, b :: v, h => by
    rw [W_cons]
    cases hr : pRepr s (b :: v) with
    | more => rfl
    | bad e => rfl
    | ok ents max o rest =>
      have hl := pRepr_len hr
      exact W_on n { s with ents := ents, max := max, first := false } _ rest (by simp at *; omega)
theorem write_on (s : St) (save p : Bs) : (write s save p).st.on = s.on := by
  unfold write
  split
  · rfl
  · exact W_on _ s [] (save ++ p) (Nat.le_refl _)
theorem close_on (s : St) (save : Bs) : (close s save).st.on = s.on := by
  unfold close
  split <;> rfl

/-- The answers of the quiet decoder: whether it emits; and, if the block is right, what it tells of it and of the next one. -/
theorem quiet_run (s : St) (hs : s.on = true) (b c : Bs) : ∃ a0 a1 a2 a3 a4 a5 a6 l, drun ⟨s, []⟩ (quietCmds b c) = a0 :: a1 :: a2 :: a3 :: a4 :: a5 :: a6 :: l ∧ a0.flag = true ∧ a4.flag = false ∧ a6.flag = true ∧
    ∃ b0 b1 m, drun ⟨s, []⟩ (loudCmds b c) = b0 :: b1 :: m ∧ (b0.err = none → b1.err = none → a2.err = none ∧ a3.err = none ∧ a2.out = [] ∧ a3.out = [] ∧ l = m) := by
  refine ⟨_, _, _, _, _, _, _, _, rfl, hs, ?_, rfl, _, _, _, rfl, ?_⟩
  · show (close (write { s with on := false } [] b).st (write { s with on := false } [] b).save).st.on = false
    rw [close_on, write_on]
  · intro h0 h1
    have hw : write s [] b = W s [] b := by
      have := write_eq (s := s) (save := []) (p := b) rfl
      rwa [List.nil_append] at this
    have h0 : (W s [] b).err = none := by rw [← hw]; exact h0
    obtain ⟨hq, hon⟩ := W_quiet _ s [] b (Nat.le_refl _) hs h0
    have hwq : write { s with on := false } [] b = ⟨(W s [] b).st.quiet, [], (W s [] b).save, none⟩ := by
      have := write_eq (s := s.quiet) (save := []) (p := b) rfl
      rw [List.nil_append] at this
      exact this.trans hq
    have h1 : (close (write s [] b).st (write s [] b).save).err = none := h1
    rw [hw] at h1
    have hsv : (W s [] b).save = [] := by
      unfold close at h1
      split at h1
      · assumption
      · cases h1
    have hcl : close (W s [] b).st (W s [] b).save = ⟨{ (W s [] b).st with first := true }, [], [], none⟩ := by unfold close; rw [if_pos hsv]
    have hcq : close (W s [] b).st.quiet (W s [] b).save = ⟨{ (W s [] b).st.quiet with first := true }, [], [], none⟩ := by unfold close; rw [if_pos hsv]
    refine ⟨?_, ?_, ?_, rfl, ?_⟩
    · show (write { s with on := false } [] b).err = none
      rw [hwq]
    · show (close (write { s with on := false } [] b).st (write { s with on := false } [] b).save).err = none
      rw [hwq, hcq]
    · show (write { s with on := false } [] b).out = []
      rw [hwq]
    · show drun ⟨{ (close (write { s with on := false } [] b).st (write { s with on := false } [] b).save).st with on := true }, (close (write { s with on := false } [] b).st (write { s with on := false } [] b).save).save⟩ [.write c, .close] = drun ⟨(close (write s [] b).st (write s [] b).save).st, (close (write s [] b).st (write s [] b).save).save⟩ [.write c, .close]
      rw [hwq, hw]
      dsimp only
      rw [hcl, hcq]
      dsimp only [St.quiet]
      rw [show ({ (W s [] b).st with on := true, first := true } : St) = { (W s [] b).st with first := true } by rw [← hon]]
end Go.Proofs.YtmlnmllnlekcgaaDoor.HD
