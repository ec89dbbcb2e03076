/-
  Texts of this seat, one behind the other: Decode, Text, HText, VarInt, Conv. What each one shows stands at its head. No condition.
-/
import Derived.Test.YtmlnmllnlekcgaaDoorMb3
import Derived.Lib.BufferOld
import Derived.Deep.Cut
import Derived.LaidEql
import Derived.Deep.LoopGhost
import Derived.BigQuiet
import Derived.Deep.QuietTactic
import Derived.Laws.BytesArg
/-
  The contract of huffmanDecode, without a bound on the text's length: it answers as the plain decoder does.
-/
namespace Go.Proofs.YtmlnmllnlekcgaaDoor
open Go.ChangeShapes Go.WideShapes Go.ChangeAt Go.RowKit

/-- The bytes that a call reads: a slice's, below block B. -/
def Src (B : Nat) (sa : Option Addr) (v : List UInt8) (w : World) : Prop := v ≠ [] → ∃ g o, sa = some ⟨g, o, none⟩ ∧ g < B ∧ ∀ i (h : i < v.length), w.cell? ⟨g, o + i, none⟩ = some (.int .u8 (v[i].toNat : Nat))

theorem Src.below {B : Nat} {sa : Option Addr} {v : List UInt8} {w w' : World} (h : Src B sa v w) (hb : Below B w w') : Src B sa v w' := fun hv => by
  obtain ⟨g, o, e, hg, hc⟩ := h hv
  exact ⟨g, o, e, hg, fun i hi => (hb.cell (p := ⟨g, o + i, none⟩) hg).trans (hc i hi)⟩

abbrev IsBuf (B b : Nat) (t : List UInt8) (w : World) : Prop := Lib.IsBuffer 75 5 B b (Lib.byteCells t) w

/-- How the decoder ends. -/
def DecEnds (B b : Nat) (ev : Value) : Option (List UInt8) → Ending → World → Prop
  | some t, e, w' => e = .returned .nilIface ∧ IsBuf B b t w'
  | none, e, w' => e = .returned ev ∧ ∃ t, IsBuf B b t w'

theorem leafV_done {s : Nat} (hs : s < 256) : leafV 256 (s * 3) = .pointer none ∧ leafV 256 (s * 3 + 1) = .int .u8 (cl8 s : Nat) ∧ leafV 256 (s * 3 + 2) = .int .u8 (s : Nat) := by
  have e1 : (s * 3 + 1) / 3 = s := by omega
  have e2 : (s * 3 + 2) / 3 = s := by omega
  unfold leafV
  refine ⟨by rw [if_pos (by omega)], ?_, ?_⟩
  · rw [if_neg (by omega), if_pos (by omega), if_pos (by omega), e1]
  · rw [if_neg (by omega), if_pos (by omega), if_neg (by omega), e2]

theorem byteCells_snoc (l : List UInt8) {s : Nat} (hs : s < 256) : Lib.byteCells l ++ [.int .u8 (s : Nat)] = Lib.byteCells (l ++ [UInt8.ofNat s]) := by
  simp [Lib.byteCells]
  omega
theorem byteCells_len (l : List UInt8) : (Lib.byteCells l).length = l.length := Lib.byteCells_length l

theorem feed_step {f kk : Nat} {l : List Bool} {out : List UInt8} (h8 : 8 ≤ l.length) (hf : l.length ≤ f + 7) : ∃ f', f = f' + 1 ∧ HP.feed f ⟨kk, l, out⟩ = (match HP.tab kk (HP.ofBits (l.take 8)) with
      | .none => none
      | .leaf s cl => HP.feed f' ⟨0, l.drop cl, out ++ [UInt8.ofNat s]⟩
      | .inner k' => HP.feed f' ⟨k', l.drop 8, out⟩) := by
  cases f with
  | zero => omega
  | succ f' =>
    refine ⟨f', rfl, ?_⟩
    rw [HP.feed, if_neg (show ¬ l.length < 8 by omega)]
    rfl
theorem feed_done {f kk : Nat} {l : List Bool} {out : List UInt8} (h8 : l.length < 8) : HP.feed f ⟨kk, l, out⟩ = some ⟨kk, l, out⟩ := by
  cases f with
  | zero => rfl
  | succ f' => rw [HP.feed, if_pos h8]

theorem fin_step {f kk : Nat} {l : List Bool} {out : List UInt8} (h0 : 0 < l.length) (hf : l.length ≤ f) : ∃ f', f = f' + 1 ∧ HP.fin f ⟨kk, l, out⟩ = (match HP.tab kk (HP.ofBits (l ++ List.replicate (8 - l.length) false)) with
      | .none => none
      | .inner _ => some ⟨kk, l, out⟩
      | .leaf s cl => if l.length < cl then some ⟨kk, l, out⟩ else HP.fin f' ⟨0, l.drop cl, out ++ [UInt8.ofNat s]⟩) := by
  cases f with
  | zero => omega
  | succ f' =>
    refine ⟨f', rfl, ?_⟩
    rw [HP.fin, if_neg (show ¬ l = [] by intro h; rw [h] at h0; cases h0)]
    rfl
theorem fin_done {f kk : Nat} {l : List Bool} {out : List UInt8} (h0 : l.length = 0) : HP.fin f ⟨kk, l, out⟩ = some ⟨kk, l, out⟩ := by
  cases f with
  | zero => rfl
  | succ f' => rw [HP.fin, if_pos (List.eq_nil_of_length_eq_zero h0)]
theorem pad_index {C m x : Nat} (h : C * 2 ^ (8 - m) % 256 = x) : IntKind.u64.wrap ((C : Int) * 2 ^ (8 - m)) % 256 = (x : Int) := by
  have e : IntKind.u64.wrap ((C : Int) * 2 ^ (8 - m)) = ((C * 2 ^ (8 - m) % 2 ^ 64 : Nat) : Int) := by
    simp [IntKind.wrap, IntKind.bits, IntKind.signed]
  have e2 : C * 2 ^ (8 - m) % 2 ^ 64 % 256 = x := by rw [Nat.mod_mod_of_dvd _ (by decide), h]
  rw [e]
  omega

theorem mask_is : ∀ m, m < 8 → IntKind.u64.wrap (IntKind.u64.wrap ((2 : Int) ^ m) - 1) = ((2 ^ m - 1 : Nat) : Int) := by decide
theorem mask_test {C m : Nat} {l : List Bool} (hC : C < 2 ^ 64) (hm : m < 8) (hl : l.length = m) (hCl : C % 2 ^ m = HP.ofBits l) {r : Bool} (hr : l.all id = r) :
    (bits BinOp.and IntKind.u64 (C : Int) (IntKind.u64.wrap (IntKind.u64.wrap (2 ^ m) - 1)) != IntKind.u64.wrap (IntKind.u64.wrap (2 ^ m) - 1)) = !r := by
  have h2 : 2 ^ m - 1 < 2 ^ 64 := by
    have : (2 : Nat) ^ m ≤ 2 ^ 8 := Nat.pow_le_pow_right (by decide) (by omega)
    omega
  have ha := HP.all_ones hl hCl
  rw [mask_is m hm, bits_and_u64_nat _ _ hC h2, Nat.and_two_pow_sub_one_eq_mod, ← hr]
  by_cases h : l.all id = true
  · rw [h, ha.2 h]; simp
  · have hne : ¬ C % 2 ^ m = 2 ^ m - 1 := fun e => h (ha.1 e)
    rw [Bool.not_eq_true] at h
    rw [h]
    simp only [bne_iff_ne, ne_eq, Bool.not_false]
    exact fun e => hne (by exact_mod_cast e)
theorem mask_zero {C : Nat} (hC : C < 2 ^ 64) : (bits BinOp.and IntKind.u64 (C : Int) 0 != 0) = false := by
  have h := bits_and_u64_nat C 0 hC (by decide)
  rw [show ((0 : Nat) : Int) = 0 from rfl, Nat.and_zero] at h
  rw [h]; rfl

set_option maxRecDepth 100000 in
set_option maxHeartbeats 1000000 in
theorem decode_any (B b cap : Nat) (sa : Option Addr) (v : List UInt8) (ev : Value) (w : World) (hv : v.length ≤ 134217728) (hb : IsBuf B b [] w) (hB : B ≤ w.heap.size) (hsrc : Src B sa v w)
    (hl : LenTab w) (hc : CodeTab w) (he : w.cell? ⟨3, 0, none⟩ = some ev) (hG : 3 < B) :
    Calls Tryd.prog 71 #[.pointer (some ⟨b, 0, none⟩), .int .i64 0, .slice sa v.length cap] w fun e w' =>
      DecEnds B b ev (HP.hdec v) e w' ∧ Below B w w' := by
  have Hl := Lib.hid hl
  have Hc := Lib.hid hc
  have Hb := Lib.hid hb
  have Hsrc := Lib.hid hsrc
  have He := Lib.hid he
  clear hl hc hb hsrc he
  go_enter Tryd.func71, Tryd.ntmps71
  go_wp2_with fail
  refine (tree_any w Hl.out Hc.out).mono ?_
  rintro e w1 ⟨rfl, hm, hbel⟩
  have HT := Lib.hid hm.at
  have HB1 := Lib.hid (Below.mono hbel hB)
  have Hb1 := Lib.hid (Hb.out.old hbel)
  have hbN : b < w.heap.size := Hb.out.lt
  have hw1 : w.heap.size ≤ w1.heap.size := hbel.size
  rw [show (w.heap.size + 1 : Nat) = nodeB w.heap.size 0 from rfl]
  generalize hN : w.heap.size = N at *
  clear hm hbel Hb Hl Hc
  go_wp2_with fail
  go_loopw [8, 9, 10, 11, 20] (fun p c q sb i wr => ∃ (k kk C : Nat) (l : List Bool) (out : List UInt8), k ≤ v.length ∧ i = .int .i64 k ∧ p = .pointer (some ⟨nodeB N kk, 0, none⟩) ∧ c = .int .u64 C ∧ C < 2 ^ 64 ∧ q = .int .u8 (l.length : Nat) ∧ sb = .int .u8 ((HP.pl kk + l.length : Nat)) ∧ l.length < 8 ∧ kk < 15 ∧ C % 2 ^ l.length = HP.ofBits l ∧ HP.feedAll v ⟨0, [], []⟩ = HP.feedAll (v.drop k) ⟨kk, l, out⟩ ∧ out.length + l.length ≤ 8 * k ∧ IsBuf B b out wr ∧ Below B w wr ∧ TreeAt N wr) (fun _ _ _ _ i _ => v.length - (intOf i).toNat)
  case atStart => exact ⟨0, 0, 0, [], [], Nat.zero_le _, rfl, rfl, rfl, by decide, rfl, rfl, by decide, by decide, rfl, by rw [List.drop_zero], Nat.zero_le _, Hb1.out, HB1.out, HT.out⟩
  case round =>
    obtain ⟨k, kk, C, l, out, hk, rfl, rfl, rfl, hC, rfl, rfl, hl8, hkk, hCl, hfeed, hout, hbuf, hbel, htree⟩ := hrel
    have HCl := Lib.hid hCl
    have Hfeed := Lib.hid hfeed
    have Hbuf := Lib.hid hbuf
    have Hbel := Lib.hid hbel
    have Htree := Lib.hid htree
    have hpl := HP.pl_le kk hkk
    clear hCl hfeed hbuf hbel htree HT HB1 Hb1
    by_cases hlt : k < v.length
    · have hne : v ≠ [] := by intro h; rw [h] at hlt; cases hlt
      obtain ⟨g, off, rfl, hg, hcell⟩ := (Hsrc.out.below Hbel.out) hne
      have hby := hcell k hlt
      have h256 : v[k].toNat < 256 := by simpa using v[k].toNat_lt
      have hdrop : v.drop k = v[k] :: v.drop (k + 1) := List.drop_eq_getElem_cons hlt
      have HX : Hid (HP.stepX C 8 v[k].toNat % 2 ^ (l.length + 8) = HP.ofBits (l ++ HP.bits8 v[k])) := HP.stepX_bits (L := 8) (C := v[k].toNat) rfl HCl.out h256 (by omega)
      have HXlt := Lib.hid (HP.stepX_lt (X := C) (L := 8) (C := v[k].toNat) (by decide) h256)
      have hor := or_step (X := C) (L := 8) (C := v[k].toNat) (by decide) h256
      have Hf2 := Hfeed.out
      rw [hdrop, HP.feedAll] at Hf2
      dsimp only at Hf2
      have Hf3 := Lib.hid Hf2
      have Hb8 : Hid ((l ++ HP.bits8 v[k]).length = l.length + 8) := by show (l ++ HP.bits8 v[k]).length = _; rw [List.length_append, HP.length_bits8]
      clear hcell hdrop Hf2 Hfeed
      generalize hplk : HP.pl kk = plk at *
      have Hplk := Lib.hid hplk
      clear hplk
      generalize l.length = m at *
      generalize v[k].toNat = bt at *
      generalize hsX : HP.stepX C 8 bt = X at *
      have hx : bits BinOp.or IntKind.u64 (IntKind.u64.wrap ((C : Int) * 256)) (bt : Int) = (X : Int) := by
        have e : IntKind.u64.wrap (bt : Int) = bt := by simp [IntKind.wrap, IntKind.bits, IntKind.signed]; omega
        rw [e] at hor
        exact hor
      clear hor
      go_wp2_with fail
      generalize hF : HP.feed (m + 8) ⟨kk, l ++ HP.bits8 v[k], out⟩ = F at Hf3
      have HF := Lib.hid hF
      clear hF hx
      generalize l ++ HP.bits8 v[k] = l0 at *
      generalize IntKind.u64.wrap ((C : Int) * 256) = wr256
      rw [Int.natCast_add plk m]
      go_loopw [8, 10, 11] (fun p q sb wr => ∃ (f kk : Nat) (l : List Bool) (out : List UInt8), p = .pointer (some ⟨nodeB N kk, 0, none⟩) ∧ q = .int .u8 (l.length : Nat) ∧ sb = .int .u8 ((HP.pl kk + l.length : Nat)) ∧ l.length ≤ 15 ∧ kk < 15 ∧ X % 2 ^ l.length = HP.ofBits l ∧ HP.feed f ⟨kk, l, out⟩ = F ∧ l.length ≤ f + 7 ∧ out.length + l.length ≤ 8 * (k + 1) ∧ IsBuf B b out wr ∧ Below B w wr ∧ TreeAt N wr) (fun _ q _ _ => (intOf q).toNat)
      case atStart =>
        have e8 := Hb8.out
        exact ⟨m + 8, kk, l0, out, rfl, by rw [e8]; go_num, by rw [e8, Hplk.out]; go_num, by omega, hkk, by rw [e8]; exact HX.out, HF.out, by omega, by omega, Hbuf.out, Hbel.out, Htree.out⟩
      case round =>
        obtain ⟨f, kk, l, out, rfl, rfl, rfl, hl15, hkk, hXl, hfe, hlf, hout, hbuf, hbel, htree⟩ := hrel
        have HXl := Lib.hid hXl
        have Hfe := Lib.hid hfe
        have Hbuf := Lib.hid hbuf
        have Hbel := Lib.hid hbel
        have Htree := Lib.hid htree
        have hpl := HP.pl_le kk hkk
        clear hXl hfe hbuf hbel htree
        by_cases h8 : 8 ≤ l.length
        · obtain ⟨f', rfl, hfs⟩ := feed_step (kk := kk) (out := out) h8 hlf
          obtain ⟨m', hm'⟩ : ∃ m', l.length = m' + 8 := ⟨l.length - 8, by omega⟩
          have htop := HP.top8 hm' (by rw [← hm']; exact HXl.out)
          have hx256 : HP.ofBits (l.take 8) < 256 := HP.ofBits8_lt (by omega)
          have hfe := Hfe.out
          rw [hfs] at hfe
          clear hfs Hfe
          have hn := (Htree.out.node kk hkk).cell' (i := 0) (by decide) (show nodeV N kk 0 = .pointer (some ⟨rowB N kk, 0, none⟩) from rfl)
          have hr := (Htree.out.row kk hkk).cell hx256
          have htb : HP.tab kk (HP.ofBits (l.take 8)) = HP.tab kk (HP.ofBits (l.take 8)) := rfl
          generalize HP.ofBits (l.take 8) = x at *
          have hti : (X : Int) / 2 ^ m' % 256 = (x : Int) := by rw [← htop]; simp
          have hxI : (x : Int) < 256 := by omega
          clear htop htb
          rw [hm']
          have Hm' := Lib.hid hm'
          have hlow : ∀ cl, cl ≤ 8 → (l.drop cl).length = m' + 8 - cl ∧ X % 2 ^ (m' + 8 - cl) = HP.ofBits (l.drop cl) := fun cl hcl => ⟨by rw [List.length_drop, Hm'.out], HP.low_bits (m := m' + 8 - cl) (cl := cl) (by rw [Hm'.out]; omega) (by rw [show m' + 8 - cl + cl = l.length by rw [Hm'.out]; omega]; exact HXl.out)⟩
          have Hlow := Lib.hid hlow
          rw [hm'] at hl15 hlf hout
          clear hlow hm' h8
          go_upto_region 12 with (fail)
          rw [hti]
          cases ht : HP.tab kk x with
          | none =>
            rw [ht] at hr hfe
            rw [show entV N .none = .pointer none from rfl] at hr
            have he2 := (Hbel.out.cell (p := ⟨3, 0, none⟩) hG).trans He.out
            have hd : HP.hdec v = none := by unfold HP.hdec; rw [Hf3.out, ← hfe]
            have Hd := Lib.hid hd
            clear ht hfe hd
            go_wp2_with fail
            go_ret
            exact ⟨by rw [Hd.out]; exact ⟨rfl, _, Hbuf.out⟩, Hbel.out⟩
          | inner k' =>
            rw [ht] at hr hfe
            obtain ⟨_, hk', _, hplk', _⟩ := HP.inner_ok ht
            rw [show entV N (.inner k') = .pointer (some ⟨nodeB N k', 0, none⟩) from rfl] at hr
            have hn' := (Htree.out.node k' hk').cell' (i := 0) (by decide) (show nodeV N k' 0 = .pointer (some ⟨rowB N k', 0, none⟩) from rfl)
            have Hfe := Lib.hid hfe
            have Hplk' := Lib.hid hplk'
            clear ht hfe hplk'
            go_wp2_with fail
            obtain ⟨e1, e2⟩ := Hlow.out 8 (by omega)
            rw [Nat.add_sub_cancel] at e1 e2
            exact ⟨⟨f', k', l.drop 8, out, rfl, by rw [e1], by rw [e1, Hplk'.out]; go_num, by omega, hk', by rw [e1]; exact e2, Hfe.out, by omega, by omega, Hbuf.out, Hbel.out, Htree.out⟩, by simp [intOf]; omega⟩
          | leaf s cl =>
            rw [ht] at hr hfe
            obtain ⟨hs, hcl1, hcl8, hcl⟩ := HP.leaf_cl ht
            obtain ⟨v0, v1, v2⟩ := leafV_done hs
            rw [show entV N (.leaf s cl) = .pointer (some ⟨N + 2, s * 3, none⟩) from rfl] at hr
            have c0 := Htree.out.leaves.cell' (i := s * 3) (by omega) v0
            have c2 := Htree.out.leaves.cell' (i := s * 3 + 2) (by omega) v2
            have Hfe := Lib.hid hfe
            have Hcl := Lib.hid hcl
            have Hv1 := Lib.hid v1
            clear ht hfe v0 v1 v2 hcl
            go_wp2_with fail
            refine (Buffer_WriteByte B b _ s _ Hbuf.out (by have := Hbel.out.size; omega) (Lib.byteCells_one _) (by rw [byteCells_len]; omega)).mono ?_
            rintro e w2 ⟨rfl, hb2, hbel2, hk2⟩
            rw [byteCells_snoc out hs] at hb2
            have Hb2 := Lib.hid hb2
            have Hbel2 := Lib.hid (Hbel.out.trans hbel2)
            have Htree2 := Lib.hid (Htree.out.kept hk2 (by omega))
            have c1 := Htree2.out.leaves.cell' (i := s * 3 + 1) (by omega) Hv1.out
            rw [show cl8 s = cl from Hcl.out] at c1
            clear hb2 hbel2 hk2 c0 c2 hr hn Hbuf Hbel Htree
            go_wp2_with fail
            obtain ⟨e1, e2⟩ := Hlow.out cl hcl8
            exact ⟨⟨f', 0, l.drop cl, out ++ [UInt8.ofNat s], rfl, by rw [e1]; go_num, by rw [e1, HP.pl_zero]; go_num, by rw [e1]; omega, by omega, by rw [e1]; exact e2, Hfe.out, by rw [e1]; omega, by rw [List.length_append, e1, List.length_singleton]; omega, Hb2.out, Hbel2.out, Htree2.out⟩, by simp [intOf]; omega⟩
        · have hfd := Hfe.out
          rw [feed_done (by omega)] at hfd
          have Hfd := Lib.hid hfd
          clear hfd
          go_wp2_with fail
          exact ⟨⟨k + 1, kk, X, l, out, by omega, by go_num, rfl, rfl, HXlt.out, rfl, rfl, by omega, hkk, HXl.out, by rw [Hf3.out, ← Hfd.out], by omega, Hbuf.out, Hbel.out, Htree.out⟩, by simp [intOf]; omega⟩
    · obtain rfl : k = v.length := by omega
      have Hf4 : Hid (HP.feedAll v ⟨0, [], []⟩ = some ⟨kk, l, out⟩) := by
        have := Hfeed.out
        rw [List.drop_length, HP.feedAll] at this
        exact this
      clear Hfeed
      have hdc : HP.hdec v = (match HP.fin l.length ⟨kk, l, out⟩ with
          | none => none
          | some st' => if 7 < HP.pl st'.k + st'.q.length then none else if st'.q.all id then some st'.out else none) := by
        unfold HP.hdec; rw [Hf4.out]; rfl
      have Hdc := Lib.hid hdc
      clear hdc
      have hout8 : out.length + l.length ≤ 1073741824 := by omega
      go_wp2_with fail
      generalize hF : HP.fin l.length ⟨kk, l, out⟩ = F at Hdc
      have HF := Lib.hid hF
      clear hF
      go_loopw [8, 10, 11] (fun p q sb wr => ∃ (f kk : Nat) (l : List Bool) (out : List UInt8), p = .pointer (some ⟨nodeB N kk, 0, none⟩) ∧ q = .int .u8 (l.length : Nat) ∧ sb = .int .u8 ((HP.pl kk + l.length : Nat)) ∧ l.length < 8 ∧ kk < 15 ∧ C % 2 ^ l.length = HP.ofBits l ∧ HP.fin f ⟨kk, l, out⟩ = F ∧ l.length ≤ f ∧ out.length + l.length ≤ 1073741824 ∧ IsBuf B b out wr ∧ Below B w wr ∧ TreeAt N wr) (fun _ q _ _ => (intOf q).toNat)
      case atStart => exact ⟨l.length, kk, l, out, rfl, rfl, rfl, hl8, hkk, HCl.out, HF.out, Nat.le_refl _, hout8, Hbuf.out, Hbel.out, Htree.out⟩
      case round =>
        clear hpl hout8 hout hl8 hkk
        obtain ⟨f, kk, l, out, rfl, rfl, rfl, hl8, hkk, hXl, hfe, hlf, hout, hbuf, hbel, htree⟩ := hrel
        have HXl := Lib.hid hXl
        have Hfe := Lib.hid hfe
        have Hbuf := Lib.hid hbuf
        have Hbel := Lib.hid hbel
        have Htree := Lib.hid htree
        have hpl := HP.pl_le kk hkk
        have he2 := (Hbel.out.cell (p := ⟨3, 0, none⟩) hG).trans He.out
        clear hXl hfe hbuf hbel htree
        by_cases h0 : 0 < l.length
        · have hn := (Htree.out.node kk hkk).cell' (i := 0) (by decide) (show nodeV N kk 0 = .pointer (some ⟨rowB N kk, 0, none⟩) from rfl)
          obtain ⟨f', rfl, hfs⟩ := fin_step (kk := kk) (out := out) h0 hlf
          have hfe := Hfe.out
          rw [hfs] at hfe
          clear hfs Hfe
          have hpb := HP.pad_bits rfl (by omega) HXl.out
          have hx256 : HP.ofBits (l ++ List.replicate (8 - l.length) false) < 256 := by rw [← hpb]; exact Nat.mod_lt _ (by decide)
          have hti := pad_index hpb
          have hr := (Htree.out.row kk hkk).cell hx256
          generalize HP.ofBits (l ++ List.replicate (8 - l.length) false) = x at *
          have hxI : (x : Int) < 256 := by omega
          clear hpb
          have hlow : ∀ cl, cl ≤ l.length → (l.drop cl).length = l.length - cl ∧ C % 2 ^ (l.length - cl) = HP.ofBits (l.drop cl) := fun cl hcl => ⟨by rw [List.length_drop], HP.low_bits (m := l.length - cl) (cl := cl) (by omega) (by rw [show l.length - cl + cl = l.length by omega]; exact HXl.out)⟩
          have Hlow := Lib.hid hlow
          clear hlow
          generalize hm : l.length = m at *
          have Hm := Lib.hid hm
          clear hm
          cases ht : HP.tab kk x with
          | none =>
            rw [ht] at hr hfe
            rw [show entV N .none = .pointer none from rfl] at hr
            have hd : HP.hdec v = none := by rw [Hdc.out, ← hfe]
            have Hd := Lib.hid hd
            clear ht hfe hd
            go_wp2_with fail
            go_ret
            exact ⟨by rw [Hd.out]; exact ⟨rfl, _, Hbuf.out⟩, Hbel.out⟩
          | inner k' =>
            rw [ht] at hr hfe
            obtain ⟨_, hk', _, _, _⟩ := HP.inner_ok ht
            rw [show entV N (.inner k') = .pointer (some ⟨nodeB N k', 0, none⟩) from rfl] at hr
            have hn' := (Htree.out.node k' hk').cell' (i := 0) (by decide) (show nodeV N k' 0 = .pointer (some ⟨rowB N k', 0, none⟩) from rfl)
            have Hfin : Hid (HP.hdec v = if 7 < HP.pl kk + m then none else if l.all id then some out else none) := by
              show HP.hdec v = _
              rw [Hdc.out, ← hfe, ← Hm.out]
            clear ht hfe
            by_cases h7 : 7 < HP.pl kk + m
            · go_wp2_with fail
              go_ret
              exact ⟨by rw [Hfin.out, if_pos h7]; exact ⟨rfl, _, Hbuf.out⟩, Hbel.out⟩
            · by_cases hall : l.all id = true
              · have hmk := mask_test hC hl8 Hm.out HXl.out hall
                go_wp2_with fail
                go_ret
                exact ⟨by rw [Hfin.out, if_neg h7, if_pos hall]; exact ⟨rfl, Hbuf.out⟩, Hbel.out⟩
              · have hmk := mask_test hC hl8 Hm.out HXl.out (Bool.not_eq_true _ ▸ hall)
                go_wp2_with fail
                go_ret
                exact ⟨by rw [Hfin.out, if_neg h7, if_neg hall]; exact ⟨rfl, _, Hbuf.out⟩, Hbel.out⟩
          | leaf s cl =>
            rw [ht] at hr hfe
            obtain ⟨hs, hcl1, hcl8, hcl⟩ := HP.leaf_cl ht
            obtain ⟨v0, v1, v2⟩ := leafV_done hs
            rw [show cl8 s = cl from hcl] at v1
            rw [show entV N (.leaf s cl) = .pointer (some ⟨N + 2, s * 3, none⟩) from rfl] at hr
            have c0 := Htree.out.leaves.cell' (i := s * 3) (by omega) v0
            have c1 := Htree.out.leaves.cell' (i := s * 3 + 1) (by omega) v1
            have c2 := Htree.out.leaves.cell' (i := s * 3 + 2) (by omega) v2
            have Hv1 := Lib.hid v1
            clear ht v0 v1 v2 hcl
            by_cases hmc : m < cl
            · have Hfin : Hid (HP.hdec v = if 7 < HP.pl kk + m then none else if l.all id then some out else none) := by
                show HP.hdec v = _
                dsimp only at hfe
                rw [if_pos hmc] at hfe
                rw [Hdc.out, ← hfe, ← Hm.out]
              clear hfe
              by_cases h7 : 7 < HP.pl kk + m
              · go_wp2_with fail
                go_ret
                exact ⟨by rw [Hfin.out, if_pos h7]; exact ⟨rfl, _, Hbuf.out⟩, Hbel.out⟩
              · by_cases hall : l.all id = true
                · have hmk := mask_test hC hl8 Hm.out HXl.out hall
                  go_wp2_with fail
                  go_ret
                  exact ⟨by rw [Hfin.out, if_neg h7, if_pos hall]; exact ⟨rfl, Hbuf.out⟩, Hbel.out⟩
                · have hmk := mask_test hC hl8 Hm.out HXl.out (Bool.not_eq_true _ ▸ hall)
                  go_wp2_with fail
                  go_ret
                  exact ⟨by rw [Hfin.out, if_neg h7, if_neg hall]; exact ⟨rfl, _, Hbuf.out⟩, Hbel.out⟩
            · dsimp only at hfe
              rw [if_neg hmc] at hfe
              have Hfe := Lib.hid hfe
              clear hfe
              go_wp2_with fail
              refine (Buffer_WriteByte B b _ s _ Hbuf.out (by have := Hbel.out.size; omega) (Lib.byteCells_one _) (by rw [byteCells_len]; omega)).mono ?_
              rintro e w2 ⟨rfl, hb2, hbel2, hk2⟩
              rw [byteCells_snoc out hs] at hb2
              have Hb2 := Lib.hid hb2
              have Hbel2 := Lib.hid (Hbel.out.trans hbel2)
              have Htree2 := Lib.hid (Htree.out.kept hk2 (by omega))
              have c1' := Htree2.out.leaves.cell' (i := s * 3 + 1) (by omega) Hv1.out
              clear hb2 hbel2 hk2 c0 c1 c2 hr hn Hbuf Hbel Htree he2
              go_wp2_with fail
              obtain ⟨e1, e2⟩ := Hlow.out cl (by omega)
              exact ⟨⟨f', 0, l.drop cl, out ++ [UInt8.ofNat s], rfl, by rw [e1]; go_num, by rw [e1, HP.pl_zero]; go_num, by rw [e1]; omega, by omega, by rw [e1]; exact e2, Hfe.out, by rw [e1]; omega, by rw [List.length_append, e1, List.length_singleton]; omega, Hb2.out, Hbel2.out, Htree2.out⟩, by simp [intOf]; omega⟩
        · have hl0 : l.length = 0 := by omega
          have hfe := Hfe.out
          rw [fin_done hl0] at hfe
          have hall : l.all id = true := by rw [List.eq_nil_of_length_eq_zero hl0]; rfl
          have Hfin : Hid (HP.hdec v = if 7 < HP.pl kk + l.length then none else if l.all id then some out else none) := by
            show HP.hdec v = _
            rw [Hdc.out, ← hfe]
          clear hfe Hfe
          rw [hl0]
          rw [hl0, Nat.add_zero] at Hfin
          have hmk := mask_zero hC
          by_cases h7 : 7 < HP.pl kk
          · go_wp2_with fail
            go_ret
            exact ⟨by rw [Hfin.out, if_pos h7]; exact ⟨rfl, _, Hbuf.out⟩, Hbel.out⟩
          · go_wp2_with fail
            go_ret
            exact ⟨by rw [Hfin.out, if_neg h7, if_pos hall]; exact ⟨rfl, Hbuf.out⟩, Hbel.out⟩
#print axioms decode_any
end Go.Proofs.YtmlnmllnlekcgaaDoor
/-
  Contracts of HuffmanDecodeToString, codeOf and HuffmanText.
-/
namespace Go.Proofs.YtmlnmllnlekcgaaDoor
open Go.ChangeShapes Go.WideShapes Go.ChangeAt Go.RowKit

/-- How a decoder's text is told, with an error. -/
def TextEnds (ev : Value) : Option (List UInt8) → Ending → Prop
  | some t, e => e = .returned (.tuple #[.string ⟨t.toArray⟩, .nilIface])
  | none, e => e = .returned (.tuple #[.string ByteArray.empty, ev])


theorem codeOf_nil (w : World) : Calls Tryd.prog 37 #[.nilIface] w fun e w' => e = .returned (.tuple #[.int .i64 0, .int .i64 0]) ∧ w = w' := by
  go_enter Tryd.func37, Tryd.ntmps37
  go_wp2
  go_ret2
  exact ⟨rfl, rfl⟩

theorem assert61 (p : Value) (w : World) : (Instr.typeAssert (.iface 111 p) 80 100 true).run Tryd.prog w = .ok (.tuple #[.agg #[.nilIface], .bool false]) w := by
  simp [Instr.typeAssert, run_underlying Tryd.underlying100, Tryd.zeroValue100]
theorem assert63 (p : Value) (w : World) : (Instr.typeAssert (.iface 111 p) 80 102 true).run Tryd.prog w = .ok (.tuple #[.int .i64 0, .bool false]) w := by
  simp [Instr.typeAssert, run_underlying Tryd.underlying102, Tryd.zeroValue102]

theorem info85 : (Tryd.prog.info? 111).map (·.comparable) = some true := by kernel_rfl
theorem eql_same (a : Addr) (w : World) : (binOp .eql 80 (.iface 111 (.pointer (some a))) (.iface 111 (.pointer (some a)))).run Tryd.prog w = .ok (.bool true) w := by
  obtain ⟨i, hi, hc⟩ : ∃ i, Tryd.prog.info? 111 = some i ∧ i.comparable = true := by
    have h := info85
    cases hi : Tryd.prog.info? 111 with
    | none => rw [hi] at h; cases h
    | some i => rw [hi] at h; exact ⟨i, rfl, by simpa using h⟩
  obtain ⟨j, hj⟩ : ∃ j, Tryd.prog.info? 113 = some j := Option.isSome_iff_exists.1 (by kernel_rfl)
  exact run_eql_iface_ptr_same w a Tryd.underlying80 Tryd.underlying111 hi hc hj

set_option maxRecDepth 100000 in
theorem codeOf_inv (a : Addr) (w : World) (he : w.cell? ⟨3, 0, none⟩ = some (.iface 111 (.pointer (some a)))) :
    Calls Tryd.prog 37 #[.iface 111 (.pointer (some a))] w fun e w' => e = .returned (.tuple #[.int .i64 2, .int .i64 0]) ∧ Below w.heap.size w w' := by
  have hG : 3 < w.heap.size := World.block_lt_of_cell? w ⟨3, 0, none⟩ he
  go_enter Tryd.func37, Tryd.ntmps37
  have h61 := assert61 (.pointer (some a))
  have h63 := assert63 (.pointer (some a))
  have heq := eql_same a
  go_wp2_with fail
  go_ret2
  exact ⟨rfl, (Below.refl _ _).alloc (Nat.le_refl _) _⟩
end Go.Proofs.YtmlnmllnlekcgaaDoor
/-
  The contract of impl.HuffmanText.
-/
namespace Go.Proofs.YtmlnmllnlekcgaaDoor
open Go.ChangeShapes Go.WideShapes Go.ChangeAt Go.RowKit

/-- The bytes of any slice. -/
def SrcAny (sa : Option Addr) (cap : Nat) (v : List UInt8) (w : World) : Prop := (sa = none ∧ cap = 0 ∧ v = []) ∨ ∃ a, sa = some a ∧ ∀ q u, (Lib.byteCells v)[q]? = some u → w.cell? (a.add q) = some u

theorem src_of_own {w : World} {B cap : Nat} {sa : Option Addr} {v : List UInt8} (h : w.ownsRow B 5 1 (.slice sa v.length cap) v.length (Lib.byteCells v)) : Src w.heap.size sa v w := by
  intro hv
  rcases h.2 with ⟨_, hn⟩ | ⟨g, cap', cur, e, _, hg, _, _, hcs, htk⟩
  · exact absurd (List.eq_nil_of_length_eq_zero hn) hv
  · injection e with e1 _ _
    refine ⟨g, 0, e1, Lib.lt_of_heap hg, fun i hi => ?_⟩
    rw [Nat.zero_add, Lib.cell_of_heap hg, ← Array.getElem?_toList]
    have h1 : (cur.toList.take (v.length * 1))[i]? = (Lib.byteCells v)[i]? := by rw [htk]
    rw [List.getElem?_take, if_pos (by omega)] at h1
    rw [h1]
    simp [Lib.byteCells, hi]

/-- What HuffmanText tells. -/
def textOf : Option (List UInt8) → Value
  | some t => .tuple #[.string ⟨t.toArray⟩, .int .i64 0]
  | none => .tuple #[.string ByteArray.empty, .int .i64 2]

end Go.Proofs.YtmlnmllnlekcgaaDoor
/-
  The contract of readVarInt.
-/
namespace Go.Proofs.YtmlnmllnlekcgaaDoor
open Go.ChangeShapes Go.WideShapes Go.ChangeAt Go.RowKit

/-- Bytes in block g from place o on. -/
structure Buf (w : World) (g o cap : Nat) (v : List UInt8) : Prop where
  fit : v.length ≤ cap
  most : cap ≤ maxLen
  cell : ∀ i (h : i < v.length), w.cell? ⟨g, o + i, none⟩ = some (.int .u8 (v[i].toNat : Nat))

theorem Buf.kept {w w' : World} {g o cap : Nat} {v : List UInt8} (h : Buf w g o cap v) (hk : v ≠ [] → w'.heap[g]? = w.heap[g]?) : Buf w' g o cap v :=
  ⟨h.fit, h.most, fun i hi => by
    rw [World.cell?_of_block (a := ⟨g, o + i, none⟩) (hk (fun e => by rw [e] at hi; exact absurd hi (Nat.not_lt_zero _)))]
    exact h.cell i hi⟩
theorem Buf.tail {w : World} {g o cap : Nat} {b : UInt8} {v : List UInt8} (h : Buf w g o cap (b :: v)) : Buf w g (o + 1) (cap - 1) v :=
  ⟨by have := h.fit; simp at this; omega, by have := h.most; omega, fun i hi => by
    have := h.cell (i + 1) (by simp; omega)
    rw [show o + 1 + i = o + (i + 1) by omega, this]
    rfl⟩
theorem Buf.nil {w : World} {g o cap : Nat} (h : cap ≤ maxLen) : Buf w g o cap [] := ⟨Nat.zero_le _, h, fun _ hi => absurd hi (Nat.not_lt_zero _)⟩
theorem Buf.head {w : World} {g o cap : Nat} {b : UInt8} {v : List UInt8} (h : Buf w g o cap (b :: v)) : w.cell? ⟨g, o, none⟩ = some (.int .u8 (b.toNat : Nat)) := h.cell 0 (by simp)

/-- The error that wraps a new text. -/
def codingErr (a : Addr) : Value := .iface 100 (.agg #[.iface 111 (.pointer (some a))])

/-- A new block of which nothing is frozen. -/
def Fresh (n : Nat) (w : World) (a : Addr) : Prop := n ≤ a.block ∧ ∃ ca ta, w.heap[a.block]? = some (.cells ca ta (0, 0))
theorem Fresh.mono {n m : Nat} {w : World} {a : Addr} (h : Fresh n w a) (hm : m ≤ n) : Fresh m w a := ⟨Nat.le_trans hm h.1, h.2⟩
theorem Fresh.of_heap {n : Nat} {w w' : World} {a : Addr} (h : Fresh n w a) (e : w'.heap[a.block]? = w.heap[a.block]?) : Fresh n w' a := by
  obtain ⟨hn, ca, ta, hc⟩ := h
  exact ⟨hn, ca, ta, e.trans hc⟩
theorem Fresh.setBelow {n : Nat} {w : World} {a b : Addr} (h : Fresh n w a) (hb : b.block < n) (u : Value) : Fresh n (w.setCell b u) a := h.of_heap (Below.heap_setCell _ _ _ _ (by have := h.1; omega))

/-- How readVarInt ends. -/
def VIEnds (n : Nat) (En : Value) (g : Nat) : HD.VI → Ending → World → Prop
  | .ok i rest, e, w' => ∃ o cap, e = .returned (.tuple #[.int .u64 (i : Nat), .slice (some ⟨g, o, none⟩) rest.length cap, .nilIface]) ∧ Buf w' g o cap rest
  | .more, e, _ => ∃ s, e = .returned (.tuple #[.int .u64 0, s, En])
  | .over, e, w' => ∃ s a, e = .returned (.tuple #[.int .u64 0, s, codingErr a]) ∧ Fresh n w' a

def lenOf : Value → Nat
  | .slice _ n _ => n
  | _ => 0

theorem and_u64 (b : Nat) (h : b < 256) : bits BinOp.and IntKind.u64 (b : Int) 15 = ((b % 16 : Nat) : Int) ∧ bits BinOp.and IntKind.u64 (b : Int) 31 = ((b % 32 : Nat) : Int) ∧ bits BinOp.and IntKind.u64 (b : Int) 63 = ((b % 64 : Nat) : Int) ∧ bits BinOp.and IntKind.u64 (b : Int) 127 = ((b % 128 : Nat) : Int) := by
  have key : ∀ b : Fin 256, bits BinOp.and IntKind.u64 (b.val : Int) 15 = ((b.val % 16 : Nat) : Int) ∧ bits BinOp.and IntKind.u64 (b.val : Int) 31 = ((b.val % 32 : Nat) : Int) ∧ bits BinOp.and IntKind.u64 (b.val : Int) 63 = ((b.val % 64 : Nat) : Int) ∧ bits BinOp.and IntKind.u64 (b.val : Int) 127 = ((b.val % 128 : Nat) : Int) := by decide +kernel
  exact key ⟨b, h⟩
theorem and_u8 (b : Nat) (h : b < 256) : bits BinOp.and IntKind.u8 (b : Int) 127 = ((b % 128 : Nat) : Int) ∧ bits BinOp.and IntKind.u8 (b : Int) 128 = if b < 128 then 0 else 128 := by
  have key : ∀ b : Fin 256, bits BinOp.and IntKind.u8 (b.val : Int) 127 = ((b.val % 128 : Nat) : Int) ∧ bits BinOp.and IntKind.u8 (b.val : Int) 128 = if b.val < 128 then 0 else 128 := by decide +kernel
  exact key ⟨b, h⟩

theorem sum_u64 {j k : Nat} (c : Nat) (hj : j < 255 + 2 ^ (7 * k)) (hk : k ≤ 8) : IntKind.u64.wrap ((j : Int) + IntKind.u64.wrap ((c : Int) % 128 * 2 ^ (7 * k))) = ((j + c % 128 * 2 ^ (7 * k) : Nat) : Int) := by
  have hp : 2 ^ (7 * k) ≤ 2 ^ 56 := Nat.pow_le_pow_right (by decide) (by omega)
  have h1 : c % 128 * 2 ^ (7 * k) ≤ 127 * 2 ^ 56 := Nat.mul_le_mul (by omega) hp
  have e : (c : Int) % 128 * 2 ^ (7 * k) = ((c % 128 * 2 ^ (7 * k) : Nat) : Int) := by simp
  rw [e]
  generalize c % 128 * 2 ^ (7 * k) = m at *
  generalize 2 ^ (7 * k) = q at *
  simp only [IntKind.wrap, IntKind.bits, IntKind.signed]
  simp
  omega

theorem errNew_any (s : ByteArray) (w : World) : Calls Tryd.prog 47 #[.string s] w fun e w' => (∃ a : Addr, e = .returned (.iface 111 (.pointer (some a))) ∧ Fresh w.heap.size w' a) ∧ Below w.heap.size w w' := by
  go_enter Tryd.func47, Tryd.ntmps47
  go_wp2
  go_ret
  exact ⟨⟨_, rfl, Nat.le_refl _, _, _, heap_alloc_new w _⟩, (Below.refl _ _).alloc (Nat.le_refl _) _⟩
theorem overflow_any (w : World) : Calls Tryd.prog 68 #[] w fun e w' => (∃ a : Addr, e = .returned (codingErr a) ∧ Fresh w.heap.size w' a) ∧ Below w.heap.size w w' := by
  go_enter Tryd.func68, Tryd.ntmps68
  go_wp2_with fail
  refine (errNew_any _ _).mono ?_
  rintro e w1 ⟨⟨a, rfl, ha⟩, hb⟩
  have Hb := Lib.hid hb
  clear hb
  go_wp2_with fail
  go_ret
  exact ⟨⟨a, rfl, ha⟩, Hb.out⟩

set_option maxHeartbeats 4000000 in
set_option maxRecDepth 100000 in
theorem varInt4 (En : Value) (g o cap : Nat) (v : List UInt8) (w : World) (hb : Buf w g o cap v) (he : w.cell? ⟨1, 0, none⟩ = some En) :
    Calls Tryd.prog 59 #[.int .u8 4, .slice (some ⟨g, o, none⟩) v.length cap] w fun e w' => VIEnds w.heap.size En g (HD.rvi 4 v) e w' ∧ Below w.heap.size w w' := by
  have hfit := hb.fit
  have hmost := hb.most
  unfold maxLen at hmost
  have HB := Lib.hid hb
  clear hb
  cases v with
  | nil =>
    go_enter Tryd.func59, Tryd.ntmps59
    go_wp2_with fail
    go_quiet (fail)
    go_wp2_with fail
    refine bodyPost_ret (v := .tuple #[.int .u64 0, .slice (some ⟨g, o, none⟩) 0 cap, En]) (by simp [results, Tryd.results59, go_sem]) rfl ?_
    exact ⟨⟨_, rfl⟩, (Below.refl _ _).trans ⟨rfl, rfl, rfl, Nat.le_refl _, fun _ _ => rfl⟩⟩
  | cons b p =>
    have hc := HB.out.head
    have hb256 := b.toNat_lt
    have hbI : (b.toNat : Int) < 256 := by omega
    have hand := (and_u64 b.toNat (by omega)).1
    have Htail := Lib.hid HB.out.tail
    have hp : HD.rvi 4 (b :: p) = if b.toNat % 16 < 15 then .ok (b.toNat % 16) p else HD.vcont p 15 0 := rfl
    have Hp := Lib.hid hp
    clear hp
    have hpl : p.length + 1 ≤ cap := by simpa using hfit
    clear hfit
    generalize HD.rvi 4 (b :: p) = R at *
    generalize hx : b.toNat % 16 = x at *
    have Hx := Lib.hid hx
    clear hx
    by_cases hlt : x < 15
    · have hltI : (x : Int) < 15 := by omega
      rw [if_pos hlt] at Hp
      by_cases hc1 : cap = 1
      · subst hc1
        obtain rfl : p = [] := List.eq_nil_of_length_eq_zero (by omega)
        go_enter Tryd.func59, Tryd.ntmps59
        go_wp2_with fail
        go_quiet (fail)
        go_wp2_with fail
        refine bodyPost_ret (v := .tuple #[.int .u64 (x : Nat), .slice (some ⟨g, o, none⟩) 0 0, .nilIface]) (by simp [results, Tryd.results59, go_sem]) rfl ?_
        rw [Hp.out]
        exact ⟨⟨o, 0, rfl, Buf.nil (Nat.zero_le _)⟩, (Below.refl _ _).trans ⟨rfl, rfl, rfl, Nat.le_refl _, fun _ _ => rfl⟩⟩
      · go_enter Tryd.func59, Tryd.ntmps59
        go_wp2_with fail
        go_quiet (fail)
        go_wp2_with fail
        refine bodyPost_ret (v := .tuple #[.int .u64 (x : Nat), .slice (some ⟨g, o + 1, none⟩) p.length (cap - 1), .nilIface]) (by simp [results, Tryd.results59, go_sem]) rfl ?_
        rw [Hp.out]
        exact ⟨⟨o + 1, cap - 1, rfl, Htail.out.kept fun _ => rfl⟩, (Below.refl _ _).trans ⟨rfl, rfl, rfl, Nat.le_refl _, fun _ _ => rfl⟩⟩
    · have hltI : ¬ (x : Int) < 15 := by omega
      have hx127 : x = 15 := by have := Hx.out; omega
      subst hx127
      rw [if_neg hlt] at Hp
      by_cases hc1 : cap = 1
      · subst hc1
        obtain rfl : p = [] := List.eq_nil_of_length_eq_zero (by omega)
        go_enter Tryd.func59, Tryd.ntmps59
        go_wp2_with fail
        go_loop [1, 4, 8] (fun s i m => ∃ (o1 cap1 k j : Nat) (q : List UInt8), s = .slice (some ⟨g, o1, none⟩) q.length cap1 ∧ Buf w g o1 cap1 q ∧ i = .int .u64 (j : Nat) ∧ m = .int .u64 ((7 * k : Nat)) ∧ HD.vcont q j (7 * k) = R ∧ j < 255 + 2 ^ (7 * k) ∧ k ≤ 8) (fun s _ _ => lenOf s)
        case atStart => exact ⟨o, 0, 0, 15, [], rfl, Buf.nil (Nat.zero_le _), rfl, rfl, Hp.out.symm, by decide, by decide⟩
        case round =>
          obtain ⟨o1, cap1, k, j, q, rfl, hbuf, rfl, rfl, hq, hj, hk⟩ := hrel
          have HQ := Lib.hid hq
          have HBq := Lib.hid hbuf
          have hf1 := hbuf.fit
          have hm1 := hbuf.most
          unfold maxLen at hm1
          clear hq hbuf
          cases q with
          | nil =>
            go_wp2_with fail
            go_quiet (fail)
            go_wp2_with fail
            refine bodyPost_ret (v := .tuple #[.int .u64 0, .slice (some ⟨g, o, none⟩) 1 1, En]) (by simp [results, Tryd.results59, go_sem]) rfl ?_
            rw [← HQ.out]
            exact ⟨⟨_, rfl⟩, (Below.refl _ _).trans ⟨rfl, rfl, rfl, Nat.le_refl _, fun _ _ => rfl⟩⟩
          | cons c q =>
            have hcc := HBq.out.head
            have hc256 : (c.toNat : Int) < 256 := by have := c.toNat_lt; omega
            obtain ⟨ha1, ha2⟩ := and_u8 c.toNat (by have := c.toNat_lt; omega)
            have hsum := sum_u64 c.toNat hj hk
            have hv : HD.vcont (c :: q) j (7 * k) = if c.toNat < 128 then .ok (j + c.toNat % 128 * 2 ^ (7 * k)) q else if 63 ≤ 7 * k + 7 then .over else HD.vcont q (j + c.toNat % 128 * 2 ^ (7 * k)) (7 * k + 7) := rfl
            have hJ : k ≤ 7 → j + c.toNat % 128 * 2 ^ (7 * k) < 255 + 2 ^ (7 * (k + 1)) := fun _ => by
              have h1 : c.toNat % 128 * 2 ^ (7 * k) ≤ 127 * 2 ^ (7 * k) := Nat.mul_le_mul_right _ (by omega)
              have e : 2 ^ (7 * (k + 1)) = 128 * 2 ^ (7 * k) := by rw [Nat.mul_add, Nat.pow_add, Nat.mul_comm]
              omega
            generalize j + c.toNat % 128 * 2 ^ (7 * k) = J at *
            rw [hv] at HQ
            clear hv
            have HJ := Lib.hid hJ
            clear hJ
            have hq1 : q.length + 1 ≤ cap1 := by simpa using hf1
            clear hf1
            by_cases hc2 : cap1 = 1
            · subst hc2
              obtain rfl : q = [] := List.eq_nil_of_length_eq_zero (by omega)
              by_cases hc128 : c.toNat < 128
              · rw [if_pos hc128] at ha2 HQ
                go_wp2_with fail
                refine bodyPost_ret (v := .tuple #[.int .u64 (J : Nat), .slice (some ⟨g, o1, none⟩) 0 0, .nilIface]) (by simp [results, Tryd.results59, go_sem]) rfl ?_
                rw [← HQ.out]
                exact ⟨⟨_, _, rfl, Buf.nil (Nat.zero_le _)⟩, Below.refl _ _⟩
              · rw [if_neg hc128] at ha2 HQ
                by_cases hk8 : 63 ≤ 7 * k + 7
                · rw [if_pos hk8] at HQ
                  have hk8I : (63 : Int) ≤ 7 * (k : Int) + 7 := by omega
                  go_wp2_with fail
                  refine (overflow_any _).mono ?_
                  rintro e w1 ⟨⟨a, rfl, ha⟩, hb1⟩
                  have Hb1 := Lib.hid hb1
                  clear hb1
                  go_wp2_with fail
                  refine bodyPost_ret (v := .tuple #[.int .u64 0, .slice (some ⟨g, o, none⟩) 1 1, codingErr a]) (by simp [results, Tryd.results59, go_sem]) rfl ?_
                  rw [← HQ.out]
                  exact ⟨⟨_, _, rfl, ha⟩, Hb1.out⟩
                · rw [if_neg hk8] at HQ
                  have hk8I : ¬ (63 : Int) ≤ 7 * (k : Int) + 7 := by omega
                  go_wp2_with fail
                  exact ⟨⟨_, _, k + 1, J, [], rfl, Buf.nil (Nat.zero_le _), rfl, by go_num, by rw [Nat.mul_add]; exact HQ.out, HJ.out (by omega), by omega⟩, by simp [lenOf]⟩
            · have HTl := Lib.hid HBq.out.tail
              by_cases hc128 : c.toNat < 128
              · rw [if_pos hc128] at ha2 HQ
                go_wp2_with fail
                refine bodyPost_ret (v := .tuple #[.int .u64 (J : Nat), .slice (some ⟨g, o1 + 1, none⟩) q.length (cap1 - 1), .nilIface]) (by simp [results, Tryd.results59, go_sem]) rfl ?_
                rw [← HQ.out]
                exact ⟨⟨_, _, rfl, HTl.out⟩, Below.refl _ _⟩
              · rw [if_neg hc128] at ha2 HQ
                by_cases hk8 : 63 ≤ 7 * k + 7
                · rw [if_pos hk8] at HQ
                  have hk8I : (63 : Int) ≤ 7 * (k : Int) + 7 := by omega
                  go_wp2_with fail
                  refine (overflow_any _).mono ?_
                  rintro e w1 ⟨⟨a, rfl, ha⟩, hb1⟩
                  have Hb1 := Lib.hid hb1
                  clear hb1
                  go_wp2_with fail
                  refine bodyPost_ret (v := .tuple #[.int .u64 0, .slice (some ⟨g, o, none⟩) 1 1, codingErr a]) (by simp [results, Tryd.results59, go_sem]) rfl ?_
                  rw [← HQ.out]
                  exact ⟨⟨_, _, rfl, ha⟩, Hb1.out⟩
                · rw [if_neg hk8] at HQ
                  have hk8I : ¬ (63 : Int) ≤ 7 * (k : Int) + 7 := by omega
                  go_wp2_with fail
                  exact ⟨⟨_, _, k + 1, J, q, rfl, HTl.out, rfl, by go_num, by rw [Nat.mul_add]; exact HQ.out, HJ.out (by omega), by omega⟩, by simp [lenOf]⟩
      · go_enter Tryd.func59, Tryd.ntmps59
        go_wp2_with fail
        go_loop [1, 4, 8] (fun s i m => ∃ (o1 cap1 k j : Nat) (q : List UInt8), s = .slice (some ⟨g, o1, none⟩) q.length cap1 ∧ Buf w g o1 cap1 q ∧ i = .int .u64 (j : Nat) ∧ m = .int .u64 ((7 * k : Nat)) ∧ HD.vcont q j (7 * k) = R ∧ j < 255 + 2 ^ (7 * k) ∧ k ≤ 8) (fun s _ _ => lenOf s)
        case atStart => exact ⟨o + 1, cap - 1, 0, 15, p, rfl, Htail.out, rfl, rfl, Hp.out.symm, by decide, by decide⟩
        case round =>
          obtain ⟨o1, cap1, k, j, q, rfl, hbuf, rfl, rfl, hq, hj, hk⟩ := hrel
          have HQ := Lib.hid hq
          have HBq := Lib.hid hbuf
          have hf1 := hbuf.fit
          have hm1 := hbuf.most
          unfold maxLen at hm1
          clear hq hbuf
          cases q with
          | nil =>
            go_wp2_with fail
            go_quiet (fail)
            go_wp2_with fail
            refine bodyPost_ret (v := .tuple #[.int .u64 0, .slice (some ⟨g, o, none⟩) (p.length + 1) cap, En]) (by simp [results, Tryd.results59, go_sem]) rfl ?_
            rw [← HQ.out]
            exact ⟨⟨_, rfl⟩, (Below.refl _ _).trans ⟨rfl, rfl, rfl, Nat.le_refl _, fun _ _ => rfl⟩⟩
          | cons c q =>
            have hcc := HBq.out.head
            have hc256 : (c.toNat : Int) < 256 := by have := c.toNat_lt; omega
            obtain ⟨ha1, ha2⟩ := and_u8 c.toNat (by have := c.toNat_lt; omega)
            have hsum := sum_u64 c.toNat hj hk
            have hv : HD.vcont (c :: q) j (7 * k) = if c.toNat < 128 then .ok (j + c.toNat % 128 * 2 ^ (7 * k)) q else if 63 ≤ 7 * k + 7 then .over else HD.vcont q (j + c.toNat % 128 * 2 ^ (7 * k)) (7 * k + 7) := rfl
            have hJ : k ≤ 7 → j + c.toNat % 128 * 2 ^ (7 * k) < 255 + 2 ^ (7 * (k + 1)) := fun _ => by
              have h1 : c.toNat % 128 * 2 ^ (7 * k) ≤ 127 * 2 ^ (7 * k) := Nat.mul_le_mul_right _ (by omega)
              have e : 2 ^ (7 * (k + 1)) = 128 * 2 ^ (7 * k) := by rw [Nat.mul_add, Nat.pow_add, Nat.mul_comm]
              omega
            generalize j + c.toNat % 128 * 2 ^ (7 * k) = J at *
            rw [hv] at HQ
            clear hv
            have HJ := Lib.hid hJ
            clear hJ
            have hq1 : q.length + 1 ≤ cap1 := by simpa using hf1
            clear hf1
            by_cases hc2 : cap1 = 1
            · subst hc2
              obtain rfl : q = [] := List.eq_nil_of_length_eq_zero (by omega)
              by_cases hc128 : c.toNat < 128
              · rw [if_pos hc128] at ha2 HQ
                go_wp2_with fail
                refine bodyPost_ret (v := .tuple #[.int .u64 (J : Nat), .slice (some ⟨g, o1, none⟩) 0 0, .nilIface]) (by simp [results, Tryd.results59, go_sem]) rfl ?_
                rw [← HQ.out]
                exact ⟨⟨_, _, rfl, Buf.nil (Nat.zero_le _)⟩, Below.refl _ _⟩
              · rw [if_neg hc128] at ha2 HQ
                by_cases hk8 : 63 ≤ 7 * k + 7
                · rw [if_pos hk8] at HQ
                  have hk8I : (63 : Int) ≤ 7 * (k : Int) + 7 := by omega
                  go_wp2_with fail
                  refine (overflow_any _).mono ?_
                  rintro e w1 ⟨⟨a, rfl, ha⟩, hb1⟩
                  have Hb1 := Lib.hid hb1
                  clear hb1
                  go_wp2_with fail
                  refine bodyPost_ret (v := .tuple #[.int .u64 0, .slice (some ⟨g, o, none⟩) (p.length + 1) cap, codingErr a]) (by simp [results, Tryd.results59, go_sem]) rfl ?_
                  rw [← HQ.out]
                  exact ⟨⟨_, _, rfl, ha⟩, Hb1.out⟩
                · rw [if_neg hk8] at HQ
                  have hk8I : ¬ (63 : Int) ≤ 7 * (k : Int) + 7 := by omega
                  go_wp2_with fail
                  exact ⟨⟨_, _, k + 1, J, [], rfl, Buf.nil (Nat.zero_le _), rfl, by go_num, by rw [Nat.mul_add]; exact HQ.out, HJ.out (by omega), by omega⟩, by simp [lenOf]⟩
            · have HTl := Lib.hid HBq.out.tail
              by_cases hc128 : c.toNat < 128
              · rw [if_pos hc128] at ha2 HQ
                go_wp2_with fail
                refine bodyPost_ret (v := .tuple #[.int .u64 (J : Nat), .slice (some ⟨g, o1 + 1, none⟩) q.length (cap1 - 1), .nilIface]) (by simp [results, Tryd.results59, go_sem]) rfl ?_
                rw [← HQ.out]
                exact ⟨⟨_, _, rfl, HTl.out⟩, Below.refl _ _⟩
              · rw [if_neg hc128] at ha2 HQ
                by_cases hk8 : 63 ≤ 7 * k + 7
                · rw [if_pos hk8] at HQ
                  have hk8I : (63 : Int) ≤ 7 * (k : Int) + 7 := by omega
                  go_wp2_with fail
                  refine (overflow_any _).mono ?_
                  rintro e w1 ⟨⟨a, rfl, ha⟩, hb1⟩
                  have Hb1 := Lib.hid hb1
                  clear hb1
                  go_wp2_with fail
                  refine bodyPost_ret (v := .tuple #[.int .u64 0, .slice (some ⟨g, o, none⟩) (p.length + 1) cap, codingErr a]) (by simp [results, Tryd.results59, go_sem]) rfl ?_
                  rw [← HQ.out]
                  exact ⟨⟨_, _, rfl, ha⟩, Hb1.out⟩
                · rw [if_neg hk8] at HQ
                  have hk8I : ¬ (63 : Int) ≤ 7 * (k : Int) + 7 := by omega
                  go_wp2_with fail
                  exact ⟨⟨_, _, k + 1, J, q, rfl, HTl.out, rfl, by go_num, by rw [Nat.mul_add]; exact HQ.out, HJ.out (by omega), by omega⟩, by simp [lenOf]⟩
set_option maxHeartbeats 4000000 in
set_option maxRecDepth 100000 in
theorem varInt5 (En : Value) (g o cap : Nat) (v : List UInt8) (w : World) (hb : Buf w g o cap v) (he : w.cell? ⟨1, 0, none⟩ = some En) :
    Calls Tryd.prog 59 #[.int .u8 5, .slice (some ⟨g, o, none⟩) v.length cap] w fun e w' => VIEnds w.heap.size En g (HD.rvi 5 v) e w' ∧ Below w.heap.size w w' := by
  have hfit := hb.fit
  have hmost := hb.most
  unfold maxLen at hmost
  have HB := Lib.hid hb
  clear hb
  cases v with
  | nil =>
    go_enter Tryd.func59, Tryd.ntmps59
    go_wp2_with fail
    go_quiet (fail)
    go_wp2_with fail
    refine bodyPost_ret (v := .tuple #[.int .u64 0, .slice (some ⟨g, o, none⟩) 0 cap, En]) (by simp [results, Tryd.results59, go_sem]) rfl ?_
    exact ⟨⟨_, rfl⟩, (Below.refl _ _).trans ⟨rfl, rfl, rfl, Nat.le_refl _, fun _ _ => rfl⟩⟩
  | cons b p =>
    have hc := HB.out.head
    have hb256 := b.toNat_lt
    have hbI : (b.toNat : Int) < 256 := by omega
    have hand := (and_u64 b.toNat (by omega)).2.1
    have Htail := Lib.hid HB.out.tail
    have hp : HD.rvi 5 (b :: p) = if b.toNat % 32 < 31 then .ok (b.toNat % 32) p else HD.vcont p 31 0 := rfl
    have Hp := Lib.hid hp
    clear hp
    have hpl : p.length + 1 ≤ cap := by simpa using hfit
    clear hfit
    generalize HD.rvi 5 (b :: p) = R at *
    generalize hx : b.toNat % 32 = x at *
    have Hx := Lib.hid hx
    clear hx
    by_cases hlt : x < 31
    · have hltI : (x : Int) < 31 := by omega
      rw [if_pos hlt] at Hp
      by_cases hc1 : cap = 1
      · subst hc1
        obtain rfl : p = [] := List.eq_nil_of_length_eq_zero (by omega)
        go_enter Tryd.func59, Tryd.ntmps59
        go_wp2_with fail
        go_quiet (fail)
        go_wp2_with fail
        refine bodyPost_ret (v := .tuple #[.int .u64 (x : Nat), .slice (some ⟨g, o, none⟩) 0 0, .nilIface]) (by simp [results, Tryd.results59, go_sem]) rfl ?_
        rw [Hp.out]
        exact ⟨⟨o, 0, rfl, Buf.nil (Nat.zero_le _)⟩, (Below.refl _ _).trans ⟨rfl, rfl, rfl, Nat.le_refl _, fun _ _ => rfl⟩⟩
      · go_enter Tryd.func59, Tryd.ntmps59
        go_wp2_with fail
        go_quiet (fail)
        go_wp2_with fail
        refine bodyPost_ret (v := .tuple #[.int .u64 (x : Nat), .slice (some ⟨g, o + 1, none⟩) p.length (cap - 1), .nilIface]) (by simp [results, Tryd.results59, go_sem]) rfl ?_
        rw [Hp.out]
        exact ⟨⟨o + 1, cap - 1, rfl, Htail.out.kept fun _ => rfl⟩, (Below.refl _ _).trans ⟨rfl, rfl, rfl, Nat.le_refl _, fun _ _ => rfl⟩⟩
    · have hltI : ¬ (x : Int) < 31 := by omega
      have hx127 : x = 31 := by have := Hx.out; omega
      subst hx127
      rw [if_neg hlt] at Hp
      by_cases hc1 : cap = 1
      · subst hc1
        obtain rfl : p = [] := List.eq_nil_of_length_eq_zero (by omega)
        go_enter Tryd.func59, Tryd.ntmps59
        go_wp2_with fail
        go_loop [1, 4, 8] (fun s i m => ∃ (o1 cap1 k j : Nat) (q : List UInt8), s = .slice (some ⟨g, o1, none⟩) q.length cap1 ∧ Buf w g o1 cap1 q ∧ i = .int .u64 (j : Nat) ∧ m = .int .u64 ((7 * k : Nat)) ∧ HD.vcont q j (7 * k) = R ∧ j < 255 + 2 ^ (7 * k) ∧ k ≤ 8) (fun s _ _ => lenOf s)
        case atStart => exact ⟨o, 0, 0, 31, [], rfl, Buf.nil (Nat.zero_le _), rfl, rfl, Hp.out.symm, by decide, by decide⟩
        case round =>
          obtain ⟨o1, cap1, k, j, q, rfl, hbuf, rfl, rfl, hq, hj, hk⟩ := hrel
          have HQ := Lib.hid hq
          have HBq := Lib.hid hbuf
          have hf1 := hbuf.fit
          have hm1 := hbuf.most
          unfold maxLen at hm1
          clear hq hbuf
          cases q with
          | nil =>
            go_wp2_with fail
            go_quiet (fail)
            go_wp2_with fail
            refine bodyPost_ret (v := .tuple #[.int .u64 0, .slice (some ⟨g, o, none⟩) 1 1, En]) (by simp [results, Tryd.results59, go_sem]) rfl ?_
            rw [← HQ.out]
            exact ⟨⟨_, rfl⟩, (Below.refl _ _).trans ⟨rfl, rfl, rfl, Nat.le_refl _, fun _ _ => rfl⟩⟩
          | cons c q =>
            have hcc := HBq.out.head
            have hc256 : (c.toNat : Int) < 256 := by have := c.toNat_lt; omega
            obtain ⟨ha1, ha2⟩ := and_u8 c.toNat (by have := c.toNat_lt; omega)
            have hsum := sum_u64 c.toNat hj hk
            have hv : HD.vcont (c :: q) j (7 * k) = if c.toNat < 128 then .ok (j + c.toNat % 128 * 2 ^ (7 * k)) q else if 63 ≤ 7 * k + 7 then .over else HD.vcont q (j + c.toNat % 128 * 2 ^ (7 * k)) (7 * k + 7) := rfl
            have hJ : k ≤ 7 → j + c.toNat % 128 * 2 ^ (7 * k) < 255 + 2 ^ (7 * (k + 1)) := fun _ => by
              have h1 : c.toNat % 128 * 2 ^ (7 * k) ≤ 127 * 2 ^ (7 * k) := Nat.mul_le_mul_right _ (by omega)
              have e : 2 ^ (7 * (k + 1)) = 128 * 2 ^ (7 * k) := by rw [Nat.mul_add, Nat.pow_add, Nat.mul_comm]
              omega
            generalize j + c.toNat % 128 * 2 ^ (7 * k) = J at *
            rw [hv] at HQ
            clear hv
            have HJ := Lib.hid hJ
            clear hJ
            have hq1 : q.length + 1 ≤ cap1 := by simpa using hf1
            clear hf1
            by_cases hc2 : cap1 = 1
            · subst hc2
              obtain rfl : q = [] := List.eq_nil_of_length_eq_zero (by omega)
              by_cases hc128 : c.toNat < 128
              · rw [if_pos hc128] at ha2 HQ
                go_wp2_with fail
                refine bodyPost_ret (v := .tuple #[.int .u64 (J : Nat), .slice (some ⟨g, o1, none⟩) 0 0, .nilIface]) (by simp [results, Tryd.results59, go_sem]) rfl ?_
                rw [← HQ.out]
                exact ⟨⟨_, _, rfl, Buf.nil (Nat.zero_le _)⟩, Below.refl _ _⟩
              · rw [if_neg hc128] at ha2 HQ
                by_cases hk8 : 63 ≤ 7 * k + 7
                · rw [if_pos hk8] at HQ
                  have hk8I : (63 : Int) ≤ 7 * (k : Int) + 7 := by omega
                  go_wp2_with fail
                  refine (overflow_any _).mono ?_
                  rintro e w1 ⟨⟨a, rfl, ha⟩, hb1⟩
                  have Hb1 := Lib.hid hb1
                  clear hb1
                  go_wp2_with fail
                  refine bodyPost_ret (v := .tuple #[.int .u64 0, .slice (some ⟨g, o, none⟩) 1 1, codingErr a]) (by simp [results, Tryd.results59, go_sem]) rfl ?_
                  rw [← HQ.out]
                  exact ⟨⟨_, _, rfl, ha⟩, Hb1.out⟩
                · rw [if_neg hk8] at HQ
                  have hk8I : ¬ (63 : Int) ≤ 7 * (k : Int) + 7 := by omega
                  go_wp2_with fail
                  exact ⟨⟨_, _, k + 1, J, [], rfl, Buf.nil (Nat.zero_le _), rfl, by go_num, by rw [Nat.mul_add]; exact HQ.out, HJ.out (by omega), by omega⟩, by simp [lenOf]⟩
            · have HTl := Lib.hid HBq.out.tail
              by_cases hc128 : c.toNat < 128
              · rw [if_pos hc128] at ha2 HQ
                go_wp2_with fail
                refine bodyPost_ret (v := .tuple #[.int .u64 (J : Nat), .slice (some ⟨g, o1 + 1, none⟩) q.length (cap1 - 1), .nilIface]) (by simp [results, Tryd.results59, go_sem]) rfl ?_
                rw [← HQ.out]
                exact ⟨⟨_, _, rfl, HTl.out⟩, Below.refl _ _⟩
              · rw [if_neg hc128] at ha2 HQ
                by_cases hk8 : 63 ≤ 7 * k + 7
                · rw [if_pos hk8] at HQ
                  have hk8I : (63 : Int) ≤ 7 * (k : Int) + 7 := by omega
                  go_wp2_with fail
                  refine (overflow_any _).mono ?_
                  rintro e w1 ⟨⟨a, rfl, ha⟩, hb1⟩
                  have Hb1 := Lib.hid hb1
                  clear hb1
                  go_wp2_with fail
                  refine bodyPost_ret (v := .tuple #[.int .u64 0, .slice (some ⟨g, o, none⟩) 1 1, codingErr a]) (by simp [results, Tryd.results59, go_sem]) rfl ?_
                  rw [← HQ.out]
                  exact ⟨⟨_, _, rfl, ha⟩, Hb1.out⟩
                · rw [if_neg hk8] at HQ
                  have hk8I : ¬ (63 : Int) ≤ 7 * (k : Int) + 7 := by omega
                  go_wp2_with fail
                  exact ⟨⟨_, _, k + 1, J, q, rfl, HTl.out, rfl, by go_num, by rw [Nat.mul_add]; exact HQ.out, HJ.out (by omega), by omega⟩, by simp [lenOf]⟩
      · go_enter Tryd.func59, Tryd.ntmps59
        go_wp2_with fail
        go_loop [1, 4, 8] (fun s i m => ∃ (o1 cap1 k j : Nat) (q : List UInt8), s = .slice (some ⟨g, o1, none⟩) q.length cap1 ∧ Buf w g o1 cap1 q ∧ i = .int .u64 (j : Nat) ∧ m = .int .u64 ((7 * k : Nat)) ∧ HD.vcont q j (7 * k) = R ∧ j < 255 + 2 ^ (7 * k) ∧ k ≤ 8) (fun s _ _ => lenOf s)
        case atStart => exact ⟨o + 1, cap - 1, 0, 31, p, rfl, Htail.out, rfl, rfl, Hp.out.symm, by decide, by decide⟩
        case round =>
          obtain ⟨o1, cap1, k, j, q, rfl, hbuf, rfl, rfl, hq, hj, hk⟩ := hrel
          have HQ := Lib.hid hq
          have HBq := Lib.hid hbuf
          have hf1 := hbuf.fit
          have hm1 := hbuf.most
          unfold maxLen at hm1
          clear hq hbuf
          cases q with
          | nil =>
            go_wp2_with fail
            go_quiet (fail)
            go_wp2_with fail
            refine bodyPost_ret (v := .tuple #[.int .u64 0, .slice (some ⟨g, o, none⟩) (p.length + 1) cap, En]) (by simp [results, Tryd.results59, go_sem]) rfl ?_
            rw [← HQ.out]
            exact ⟨⟨_, rfl⟩, (Below.refl _ _).trans ⟨rfl, rfl, rfl, Nat.le_refl _, fun _ _ => rfl⟩⟩
          | cons c q =>
            have hcc := HBq.out.head
            have hc256 : (c.toNat : Int) < 256 := by have := c.toNat_lt; omega
            obtain ⟨ha1, ha2⟩ := and_u8 c.toNat (by have := c.toNat_lt; omega)
            have hsum := sum_u64 c.toNat hj hk
            have hv : HD.vcont (c :: q) j (7 * k) = if c.toNat < 128 then .ok (j + c.toNat % 128 * 2 ^ (7 * k)) q else if 63 ≤ 7 * k + 7 then .over else HD.vcont q (j + c.toNat % 128 * 2 ^ (7 * k)) (7 * k + 7) := rfl
            have hJ : k ≤ 7 → j + c.toNat % 128 * 2 ^ (7 * k) < 255 + 2 ^ (7 * (k + 1)) := fun _ => by
              have h1 : c.toNat % 128 * 2 ^ (7 * k) ≤ 127 * 2 ^ (7 * k) := Nat.mul_le_mul_right _ (by omega)
              have e : 2 ^ (7 * (k + 1)) = 128 * 2 ^ (7 * k) := by rw [Nat.mul_add, Nat.pow_add, Nat.mul_comm]
              omega
            generalize j + c.toNat % 128 * 2 ^ (7 * k) = J at *
            rw [hv] at HQ
            clear hv
            have HJ := Lib.hid hJ
            clear hJ
            have hq1 : q.length + 1 ≤ cap1 := by simpa using hf1
            clear hf1
            by_cases hc2 : cap1 = 1
            · subst hc2
              obtain rfl : q = [] := List.eq_nil_of_length_eq_zero (by omega)
              by_cases hc128 : c.toNat < 128
              · rw [if_pos hc128] at ha2 HQ
                go_wp2_with fail
                refine bodyPost_ret (v := .tuple #[.int .u64 (J : Nat), .slice (some ⟨g, o1, none⟩) 0 0, .nilIface]) (by simp [results, Tryd.results59, go_sem]) rfl ?_
                rw [← HQ.out]
                exact ⟨⟨_, _, rfl, Buf.nil (Nat.zero_le _)⟩, Below.refl _ _⟩
              · rw [if_neg hc128] at ha2 HQ
                by_cases hk8 : 63 ≤ 7 * k + 7
                · rw [if_pos hk8] at HQ
                  have hk8I : (63 : Int) ≤ 7 * (k : Int) + 7 := by omega
                  go_wp2_with fail
                  refine (overflow_any _).mono ?_
                  rintro e w1 ⟨⟨a, rfl, ha⟩, hb1⟩
                  have Hb1 := Lib.hid hb1
                  clear hb1
                  go_wp2_with fail
                  refine bodyPost_ret (v := .tuple #[.int .u64 0, .slice (some ⟨g, o, none⟩) (p.length + 1) cap, codingErr a]) (by simp [results, Tryd.results59, go_sem]) rfl ?_
                  rw [← HQ.out]
                  exact ⟨⟨_, _, rfl, ha⟩, Hb1.out⟩
                · rw [if_neg hk8] at HQ
                  have hk8I : ¬ (63 : Int) ≤ 7 * (k : Int) + 7 := by omega
                  go_wp2_with fail
                  exact ⟨⟨_, _, k + 1, J, [], rfl, Buf.nil (Nat.zero_le _), rfl, by go_num, by rw [Nat.mul_add]; exact HQ.out, HJ.out (by omega), by omega⟩, by simp [lenOf]⟩
            · have HTl := Lib.hid HBq.out.tail
              by_cases hc128 : c.toNat < 128
              · rw [if_pos hc128] at ha2 HQ
                go_wp2_with fail
                refine bodyPost_ret (v := .tuple #[.int .u64 (J : Nat), .slice (some ⟨g, o1 + 1, none⟩) q.length (cap1 - 1), .nilIface]) (by simp [results, Tryd.results59, go_sem]) rfl ?_
                rw [← HQ.out]
                exact ⟨⟨_, _, rfl, HTl.out⟩, Below.refl _ _⟩
              · rw [if_neg hc128] at ha2 HQ
                by_cases hk8 : 63 ≤ 7 * k + 7
                · rw [if_pos hk8] at HQ
                  have hk8I : (63 : Int) ≤ 7 * (k : Int) + 7 := by omega
                  go_wp2_with fail
                  refine (overflow_any _).mono ?_
                  rintro e w1 ⟨⟨a, rfl, ha⟩, hb1⟩
                  have Hb1 := Lib.hid hb1
                  clear hb1
                  go_wp2_with fail
                  refine bodyPost_ret (v := .tuple #[.int .u64 0, .slice (some ⟨g, o, none⟩) (p.length + 1) cap, codingErr a]) (by simp [results, Tryd.results59, go_sem]) rfl ?_
                  rw [← HQ.out]
                  exact ⟨⟨_, _, rfl, ha⟩, Hb1.out⟩
                · rw [if_neg hk8] at HQ
                  have hk8I : ¬ (63 : Int) ≤ 7 * (k : Int) + 7 := by omega
                  go_wp2_with fail
                  exact ⟨⟨_, _, k + 1, J, q, rfl, HTl.out, rfl, by go_num, by rw [Nat.mul_add]; exact HQ.out, HJ.out (by omega), by omega⟩, by simp [lenOf]⟩
set_option maxHeartbeats 4000000 in
set_option maxRecDepth 100000 in
theorem varInt6 (En : Value) (g o cap : Nat) (v : List UInt8) (w : World) (hb : Buf w g o cap v) (he : w.cell? ⟨1, 0, none⟩ = some En) :
    Calls Tryd.prog 59 #[.int .u8 6, .slice (some ⟨g, o, none⟩) v.length cap] w fun e w' => VIEnds w.heap.size En g (HD.rvi 6 v) e w' ∧ Below w.heap.size w w' := by
  have hfit := hb.fit
  have hmost := hb.most
  unfold maxLen at hmost
  have HB := Lib.hid hb
  clear hb
  cases v with
  | nil =>
    go_enter Tryd.func59, Tryd.ntmps59
    go_wp2_with fail
    go_quiet (fail)
    go_wp2_with fail
    refine bodyPost_ret (v := .tuple #[.int .u64 0, .slice (some ⟨g, o, none⟩) 0 cap, En]) (by simp [results, Tryd.results59, go_sem]) rfl ?_
    exact ⟨⟨_, rfl⟩, (Below.refl _ _).trans ⟨rfl, rfl, rfl, Nat.le_refl _, fun _ _ => rfl⟩⟩
  | cons b p =>
    have hc := HB.out.head
    have hb256 := b.toNat_lt
    have hbI : (b.toNat : Int) < 256 := by omega
    have hand := (and_u64 b.toNat (by omega)).2.2.1
    have Htail := Lib.hid HB.out.tail
    have hp : HD.rvi 6 (b :: p) = if b.toNat % 64 < 63 then .ok (b.toNat % 64) p else HD.vcont p 63 0 := rfl
    have Hp := Lib.hid hp
    clear hp
    have hpl : p.length + 1 ≤ cap := by simpa using hfit
    clear hfit
    generalize HD.rvi 6 (b :: p) = R at *
    generalize hx : b.toNat % 64 = x at *
    have Hx := Lib.hid hx
    clear hx
    by_cases hlt : x < 63
    · have hltI : (x : Int) < 63 := by omega
      rw [if_pos hlt] at Hp
      by_cases hc1 : cap = 1
      · subst hc1
        obtain rfl : p = [] := List.eq_nil_of_length_eq_zero (by omega)
        go_enter Tryd.func59, Tryd.ntmps59
        go_wp2_with fail
        go_quiet (fail)
        go_wp2_with fail
        refine bodyPost_ret (v := .tuple #[.int .u64 (x : Nat), .slice (some ⟨g, o, none⟩) 0 0, .nilIface]) (by simp [results, Tryd.results59, go_sem]) rfl ?_
        rw [Hp.out]
        exact ⟨⟨o, 0, rfl, Buf.nil (Nat.zero_le _)⟩, (Below.refl _ _).trans ⟨rfl, rfl, rfl, Nat.le_refl _, fun _ _ => rfl⟩⟩
      · go_enter Tryd.func59, Tryd.ntmps59
        go_wp2_with fail
        go_quiet (fail)
        go_wp2_with fail
        refine bodyPost_ret (v := .tuple #[.int .u64 (x : Nat), .slice (some ⟨g, o + 1, none⟩) p.length (cap - 1), .nilIface]) (by simp [results, Tryd.results59, go_sem]) rfl ?_
        rw [Hp.out]
        exact ⟨⟨o + 1, cap - 1, rfl, Htail.out.kept fun _ => rfl⟩, (Below.refl _ _).trans ⟨rfl, rfl, rfl, Nat.le_refl _, fun _ _ => rfl⟩⟩
    · have hltI : ¬ (x : Int) < 63 := by omega
      have hx127 : x = 63 := by have := Hx.out; omega
      subst hx127
      rw [if_neg hlt] at Hp
      by_cases hc1 : cap = 1
      · subst hc1
        obtain rfl : p = [] := List.eq_nil_of_length_eq_zero (by omega)
        go_enter Tryd.func59, Tryd.ntmps59
        go_wp2_with fail
        go_loop [1, 4, 8] (fun s i m => ∃ (o1 cap1 k j : Nat) (q : List UInt8), s = .slice (some ⟨g, o1, none⟩) q.length cap1 ∧ Buf w g o1 cap1 q ∧ i = .int .u64 (j : Nat) ∧ m = .int .u64 ((7 * k : Nat)) ∧ HD.vcont q j (7 * k) = R ∧ j < 255 + 2 ^ (7 * k) ∧ k ≤ 8) (fun s _ _ => lenOf s)
        case atStart => exact ⟨o, 0, 0, 63, [], rfl, Buf.nil (Nat.zero_le _), rfl, rfl, Hp.out.symm, by decide, by decide⟩
        case round =>
          obtain ⟨o1, cap1, k, j, q, rfl, hbuf, rfl, rfl, hq, hj, hk⟩ := hrel
          have HQ := Lib.hid hq
          have HBq := Lib.hid hbuf
          have hf1 := hbuf.fit
          have hm1 := hbuf.most
          unfold maxLen at hm1
          clear hq hbuf
          cases q with
          | nil =>
            go_wp2_with fail
            go_quiet (fail)
            go_wp2_with fail
            refine bodyPost_ret (v := .tuple #[.int .u64 0, .slice (some ⟨g, o, none⟩) 1 1, En]) (by simp [results, Tryd.results59, go_sem]) rfl ?_
            rw [← HQ.out]
            exact ⟨⟨_, rfl⟩, (Below.refl _ _).trans ⟨rfl, rfl, rfl, Nat.le_refl _, fun _ _ => rfl⟩⟩
          | cons c q =>
            have hcc := HBq.out.head
            have hc256 : (c.toNat : Int) < 256 := by have := c.toNat_lt; omega
            obtain ⟨ha1, ha2⟩ := and_u8 c.toNat (by have := c.toNat_lt; omega)
            have hsum := sum_u64 c.toNat hj hk
            have hv : HD.vcont (c :: q) j (7 * k) = if c.toNat < 128 then .ok (j + c.toNat % 128 * 2 ^ (7 * k)) q else if 63 ≤ 7 * k + 7 then .over else HD.vcont q (j + c.toNat % 128 * 2 ^ (7 * k)) (7 * k + 7) := rfl
            have hJ : k ≤ 7 → j + c.toNat % 128 * 2 ^ (7 * k) < 255 + 2 ^ (7 * (k + 1)) := fun _ => by
              have h1 : c.toNat % 128 * 2 ^ (7 * k) ≤ 127 * 2 ^ (7 * k) := Nat.mul_le_mul_right _ (by omega)
              have e : 2 ^ (7 * (k + 1)) = 128 * 2 ^ (7 * k) := by rw [Nat.mul_add, Nat.pow_add, Nat.mul_comm]
              omega
            generalize j + c.toNat % 128 * 2 ^ (7 * k) = J at *
            rw [hv] at HQ
            clear hv
            have HJ := Lib.hid hJ
            clear hJ
            have hq1 : q.length + 1 ≤ cap1 := by simpa using hf1
            clear hf1
            by_cases hc2 : cap1 = 1
            · subst hc2
              obtain rfl : q = [] := List.eq_nil_of_length_eq_zero (by omega)
              by_cases hc128 : c.toNat < 128
              · rw [if_pos hc128] at ha2 HQ
                go_wp2_with fail
                refine bodyPost_ret (v := .tuple #[.int .u64 (J : Nat), .slice (some ⟨g, o1, none⟩) 0 0, .nilIface]) (by simp [results, Tryd.results59, go_sem]) rfl ?_
                rw [← HQ.out]
                exact ⟨⟨_, _, rfl, Buf.nil (Nat.zero_le _)⟩, Below.refl _ _⟩
              · rw [if_neg hc128] at ha2 HQ
                by_cases hk8 : 63 ≤ 7 * k + 7
                · rw [if_pos hk8] at HQ
                  have hk8I : (63 : Int) ≤ 7 * (k : Int) + 7 := by omega
                  go_wp2_with fail
                  refine (overflow_any _).mono ?_
                  rintro e w1 ⟨⟨a, rfl, ha⟩, hb1⟩
                  have Hb1 := Lib.hid hb1
                  clear hb1
                  go_wp2_with fail
                  refine bodyPost_ret (v := .tuple #[.int .u64 0, .slice (some ⟨g, o, none⟩) 1 1, codingErr a]) (by simp [results, Tryd.results59, go_sem]) rfl ?_
                  rw [← HQ.out]
                  exact ⟨⟨_, _, rfl, ha⟩, Hb1.out⟩
                · rw [if_neg hk8] at HQ
                  have hk8I : ¬ (63 : Int) ≤ 7 * (k : Int) + 7 := by omega
                  go_wp2_with fail
                  exact ⟨⟨_, _, k + 1, J, [], rfl, Buf.nil (Nat.zero_le _), rfl, by go_num, by rw [Nat.mul_add]; exact HQ.out, HJ.out (by omega), by omega⟩, by simp [lenOf]⟩
            · have HTl := Lib.hid HBq.out.tail
              by_cases hc128 : c.toNat < 128
              · rw [if_pos hc128] at ha2 HQ
                go_wp2_with fail
                refine bodyPost_ret (v := .tuple #[.int .u64 (J : Nat), .slice (some ⟨g, o1 + 1, none⟩) q.length (cap1 - 1), .nilIface]) (by simp [results, Tryd.results59, go_sem]) rfl ?_
                rw [← HQ.out]
                exact ⟨⟨_, _, rfl, HTl.out⟩, Below.refl _ _⟩
              · rw [if_neg hc128] at ha2 HQ
                by_cases hk8 : 63 ≤ 7 * k + 7
                · rw [if_pos hk8] at HQ
                  have hk8I : (63 : Int) ≤ 7 * (k : Int) + 7 := by omega
                  go_wp2_with fail
                  refine (overflow_any _).mono ?_
                  rintro e w1 ⟨⟨a, rfl, ha⟩, hb1⟩
                  have Hb1 := Lib.hid hb1
                  clear hb1
                  go_wp2_with fail
                  refine bodyPost_ret (v := .tuple #[.int .u64 0, .slice (some ⟨g, o, none⟩) 1 1, codingErr a]) (by simp [results, Tryd.results59, go_sem]) rfl ?_
                  rw [← HQ.out]
                  exact ⟨⟨_, _, rfl, ha⟩, Hb1.out⟩
                · rw [if_neg hk8] at HQ
                  have hk8I : ¬ (63 : Int) ≤ 7 * (k : Int) + 7 := by omega
                  go_wp2_with fail
                  exact ⟨⟨_, _, k + 1, J, q, rfl, HTl.out, rfl, by go_num, by rw [Nat.mul_add]; exact HQ.out, HJ.out (by omega), by omega⟩, by simp [lenOf]⟩
      · go_enter Tryd.func59, Tryd.ntmps59
        go_wp2_with fail
        go_loop [1, 4, 8] (fun s i m => ∃ (o1 cap1 k j : Nat) (q : List UInt8), s = .slice (some ⟨g, o1, none⟩) q.length cap1 ∧ Buf w g o1 cap1 q ∧ i = .int .u64 (j : Nat) ∧ m = .int .u64 ((7 * k : Nat)) ∧ HD.vcont q j (7 * k) = R ∧ j < 255 + 2 ^ (7 * k) ∧ k ≤ 8) (fun s _ _ => lenOf s)
        case atStart => exact ⟨o + 1, cap - 1, 0, 63, p, rfl, Htail.out, rfl, rfl, Hp.out.symm, by decide, by decide⟩
        case round =>
          obtain ⟨o1, cap1, k, j, q, rfl, hbuf, rfl, rfl, hq, hj, hk⟩ := hrel
          have HQ := Lib.hid hq
          have HBq := Lib.hid hbuf
          have hf1 := hbuf.fit
          have hm1 := hbuf.most
          unfold maxLen at hm1
          clear hq hbuf
          cases q with
          | nil =>
            go_wp2_with fail
            go_quiet (fail)
            go_wp2_with fail
            refine bodyPost_ret (v := .tuple #[.int .u64 0, .slice (some ⟨g, o, none⟩) (p.length + 1) cap, En]) (by simp [results, Tryd.results59, go_sem]) rfl ?_
            rw [← HQ.out]
            exact ⟨⟨_, rfl⟩, (Below.refl _ _).trans ⟨rfl, rfl, rfl, Nat.le_refl _, fun _ _ => rfl⟩⟩
          | cons c q =>
            have hcc := HBq.out.head
            have hc256 : (c.toNat : Int) < 256 := by have := c.toNat_lt; omega
            obtain ⟨ha1, ha2⟩ := and_u8 c.toNat (by have := c.toNat_lt; omega)
            have hsum := sum_u64 c.toNat hj hk
            have hv : HD.vcont (c :: q) j (7 * k) = if c.toNat < 128 then .ok (j + c.toNat % 128 * 2 ^ (7 * k)) q else if 63 ≤ 7 * k + 7 then .over else HD.vcont q (j + c.toNat % 128 * 2 ^ (7 * k)) (7 * k + 7) := rfl
            have hJ : k ≤ 7 → j + c.toNat % 128 * 2 ^ (7 * k) < 255 + 2 ^ (7 * (k + 1)) := fun _ => by
              have h1 : c.toNat % 128 * 2 ^ (7 * k) ≤ 127 * 2 ^ (7 * k) := Nat.mul_le_mul_right _ (by omega)
              have e : 2 ^ (7 * (k + 1)) = 128 * 2 ^ (7 * k) := by rw [Nat.mul_add, Nat.pow_add, Nat.mul_comm]
              omega
            generalize j + c.toNat % 128 * 2 ^ (7 * k) = J at *
            rw [hv] at HQ
            clear hv
            have HJ := Lib.hid hJ
            clear hJ
            have hq1 : q.length + 1 ≤ cap1 := by simpa using hf1
            clear hf1
            by_cases hc2 : cap1 = 1
            · subst hc2
              obtain rfl : q = [] := List.eq_nil_of_length_eq_zero (by omega)
              by_cases hc128 : c.toNat < 128
              · rw [if_pos hc128] at ha2 HQ
                go_wp2_with fail
                refine bodyPost_ret (v := .tuple #[.int .u64 (J : Nat), .slice (some ⟨g, o1, none⟩) 0 0, .nilIface]) (by simp [results, Tryd.results59, go_sem]) rfl ?_
                rw [← HQ.out]
                exact ⟨⟨_, _, rfl, Buf.nil (Nat.zero_le _)⟩, Below.refl _ _⟩
              · rw [if_neg hc128] at ha2 HQ
                by_cases hk8 : 63 ≤ 7 * k + 7
                · rw [if_pos hk8] at HQ
                  have hk8I : (63 : Int) ≤ 7 * (k : Int) + 7 := by omega
                  go_wp2_with fail
                  refine (overflow_any _).mono ?_
                  rintro e w1 ⟨⟨a, rfl, ha⟩, hb1⟩
                  have Hb1 := Lib.hid hb1
                  clear hb1
                  go_wp2_with fail
                  refine bodyPost_ret (v := .tuple #[.int .u64 0, .slice (some ⟨g, o, none⟩) (p.length + 1) cap, codingErr a]) (by simp [results, Tryd.results59, go_sem]) rfl ?_
                  rw [← HQ.out]
                  exact ⟨⟨_, _, rfl, ha⟩, Hb1.out⟩
                · rw [if_neg hk8] at HQ
                  have hk8I : ¬ (63 : Int) ≤ 7 * (k : Int) + 7 := by omega
                  go_wp2_with fail
                  exact ⟨⟨_, _, k + 1, J, [], rfl, Buf.nil (Nat.zero_le _), rfl, by go_num, by rw [Nat.mul_add]; exact HQ.out, HJ.out (by omega), by omega⟩, by simp [lenOf]⟩
            · have HTl := Lib.hid HBq.out.tail
              by_cases hc128 : c.toNat < 128
              · rw [if_pos hc128] at ha2 HQ
                go_wp2_with fail
                refine bodyPost_ret (v := .tuple #[.int .u64 (J : Nat), .slice (some ⟨g, o1 + 1, none⟩) q.length (cap1 - 1), .nilIface]) (by simp [results, Tryd.results59, go_sem]) rfl ?_
                rw [← HQ.out]
                exact ⟨⟨_, _, rfl, HTl.out⟩, Below.refl _ _⟩
              · rw [if_neg hc128] at ha2 HQ
                by_cases hk8 : 63 ≤ 7 * k + 7
                · rw [if_pos hk8] at HQ
                  have hk8I : (63 : Int) ≤ 7 * (k : Int) + 7 := by omega
                  go_wp2_with fail
                  refine (overflow_any _).mono ?_
                  rintro e w1 ⟨⟨a, rfl, ha⟩, hb1⟩
                  have Hb1 := Lib.hid hb1
                  clear hb1
                  go_wp2_with fail
                  refine bodyPost_ret (v := .tuple #[.int .u64 0, .slice (some ⟨g, o, none⟩) (p.length + 1) cap, codingErr a]) (by simp [results, Tryd.results59, go_sem]) rfl ?_
                  rw [← HQ.out]
                  exact ⟨⟨_, _, rfl, ha⟩, Hb1.out⟩
                · rw [if_neg hk8] at HQ
                  have hk8I : ¬ (63 : Int) ≤ 7 * (k : Int) + 7 := by omega
                  go_wp2_with fail
                  exact ⟨⟨_, _, k + 1, J, q, rfl, HTl.out, rfl, by go_num, by rw [Nat.mul_add]; exact HQ.out, HJ.out (by omega), by omega⟩, by simp [lenOf]⟩
set_option maxHeartbeats 4000000 in
set_option maxRecDepth 100000 in
theorem varInt7 (En : Value) (g o cap : Nat) (v : List UInt8) (w : World) (hb : Buf w g o cap v) (he : w.cell? ⟨1, 0, none⟩ = some En) :
    Calls Tryd.prog 59 #[.int .u8 7, .slice (some ⟨g, o, none⟩) v.length cap] w fun e w' => VIEnds w.heap.size En g (HD.rvi 7 v) e w' ∧ Below w.heap.size w w' := by
  have hfit := hb.fit
  have hmost := hb.most
  unfold maxLen at hmost
  have HB := Lib.hid hb
  clear hb
  cases v with
  | nil =>
    go_enter Tryd.func59, Tryd.ntmps59
    go_wp2_with fail
    go_quiet (fail)
    go_wp2_with fail
    refine bodyPost_ret (v := .tuple #[.int .u64 0, .slice (some ⟨g, o, none⟩) 0 cap, En]) (by simp [results, Tryd.results59, go_sem]) rfl ?_
    exact ⟨⟨_, rfl⟩, (Below.refl _ _).trans ⟨rfl, rfl, rfl, Nat.le_refl _, fun _ _ => rfl⟩⟩
  | cons b p =>
    have hc := HB.out.head
    have hb256 := b.toNat_lt
    have hbI : (b.toNat : Int) < 256 := by omega
    have hand := (and_u64 b.toNat (by omega)).2.2.2
    have Htail := Lib.hid HB.out.tail
    have hp : HD.rvi 7 (b :: p) = if b.toNat % 128 < 127 then .ok (b.toNat % 128) p else HD.vcont p 127 0 := rfl
    have Hp := Lib.hid hp
    clear hp
    have hpl : p.length + 1 ≤ cap := by simpa using hfit
    clear hfit
    generalize HD.rvi 7 (b :: p) = R at *
    generalize hx : b.toNat % 128 = x at *
    have Hx := Lib.hid hx
    clear hx
    by_cases hlt : x < 127
    · have hltI : (x : Int) < 127 := by omega
      rw [if_pos hlt] at Hp
      by_cases hc1 : cap = 1
      · subst hc1
        obtain rfl : p = [] := List.eq_nil_of_length_eq_zero (by omega)
        go_enter Tryd.func59, Tryd.ntmps59
        go_wp2_with fail
        go_quiet (fail)
        go_wp2_with fail
        refine bodyPost_ret (v := .tuple #[.int .u64 (x : Nat), .slice (some ⟨g, o, none⟩) 0 0, .nilIface]) (by simp [results, Tryd.results59, go_sem]) rfl ?_
        rw [Hp.out]
        exact ⟨⟨o, 0, rfl, Buf.nil (Nat.zero_le _)⟩, (Below.refl _ _).trans ⟨rfl, rfl, rfl, Nat.le_refl _, fun _ _ => rfl⟩⟩
      · go_enter Tryd.func59, Tryd.ntmps59
        go_wp2_with fail
        go_quiet (fail)
        go_wp2_with fail
        refine bodyPost_ret (v := .tuple #[.int .u64 (x : Nat), .slice (some ⟨g, o + 1, none⟩) p.length (cap - 1), .nilIface]) (by simp [results, Tryd.results59, go_sem]) rfl ?_
        rw [Hp.out]
        exact ⟨⟨o + 1, cap - 1, rfl, Htail.out.kept fun _ => rfl⟩, (Below.refl _ _).trans ⟨rfl, rfl, rfl, Nat.le_refl _, fun _ _ => rfl⟩⟩
    · have hltI : ¬ (x : Int) < 127 := by omega
      have hx127 : x = 127 := by have := Hx.out; omega
      subst hx127
      rw [if_neg hlt] at Hp
      by_cases hc1 : cap = 1
      · subst hc1
        obtain rfl : p = [] := List.eq_nil_of_length_eq_zero (by omega)
        go_enter Tryd.func59, Tryd.ntmps59
        go_wp2_with fail
        go_loop [1, 4, 8] (fun s i m => ∃ (o1 cap1 k j : Nat) (q : List UInt8), s = .slice (some ⟨g, o1, none⟩) q.length cap1 ∧ Buf w g o1 cap1 q ∧ i = .int .u64 (j : Nat) ∧ m = .int .u64 ((7 * k : Nat)) ∧ HD.vcont q j (7 * k) = R ∧ j < 255 + 2 ^ (7 * k) ∧ k ≤ 8) (fun s _ _ => lenOf s)
        case atStart => exact ⟨o, 0, 0, 127, [], rfl, Buf.nil (Nat.zero_le _), rfl, rfl, Hp.out.symm, by decide, by decide⟩
        case round =>
          obtain ⟨o1, cap1, k, j, q, rfl, hbuf, rfl, rfl, hq, hj, hk⟩ := hrel
          have HQ := Lib.hid hq
          have HBq := Lib.hid hbuf
          have hf1 := hbuf.fit
          have hm1 := hbuf.most
          unfold maxLen at hm1
          clear hq hbuf
          cases q with
          | nil =>
            go_wp2_with fail
            go_quiet (fail)
            go_wp2_with fail
            refine bodyPost_ret (v := .tuple #[.int .u64 0, .slice (some ⟨g, o, none⟩) 1 1, En]) (by simp [results, Tryd.results59, go_sem]) rfl ?_
            rw [← HQ.out]
            exact ⟨⟨_, rfl⟩, (Below.refl _ _).trans ⟨rfl, rfl, rfl, Nat.le_refl _, fun _ _ => rfl⟩⟩
          | cons c q =>
            have hcc := HBq.out.head
            have hc256 : (c.toNat : Int) < 256 := by have := c.toNat_lt; omega
            obtain ⟨ha1, ha2⟩ := and_u8 c.toNat (by have := c.toNat_lt; omega)
            have hsum := sum_u64 c.toNat hj hk
            have hv : HD.vcont (c :: q) j (7 * k) = if c.toNat < 128 then .ok (j + c.toNat % 128 * 2 ^ (7 * k)) q else if 63 ≤ 7 * k + 7 then .over else HD.vcont q (j + c.toNat % 128 * 2 ^ (7 * k)) (7 * k + 7) := rfl
            have hJ : k ≤ 7 → j + c.toNat % 128 * 2 ^ (7 * k) < 255 + 2 ^ (7 * (k + 1)) := fun _ => by
              have h1 : c.toNat % 128 * 2 ^ (7 * k) ≤ 127 * 2 ^ (7 * k) := Nat.mul_le_mul_right _ (by omega)
              have e : 2 ^ (7 * (k + 1)) = 128 * 2 ^ (7 * k) := by rw [Nat.mul_add, Nat.pow_add, Nat.mul_comm]
              omega
            generalize j + c.toNat % 128 * 2 ^ (7 * k) = J at *
            rw [hv] at HQ
            clear hv
            have HJ := Lib.hid hJ
            clear hJ
            have hq1 : q.length + 1 ≤ cap1 := by simpa using hf1
            clear hf1
            by_cases hc2 : cap1 = 1
            · subst hc2
              obtain rfl : q = [] := List.eq_nil_of_length_eq_zero (by omega)
              by_cases hc128 : c.toNat < 128
              · rw [if_pos hc128] at ha2 HQ
                go_wp2_with fail
                refine bodyPost_ret (v := .tuple #[.int .u64 (J : Nat), .slice (some ⟨g, o1, none⟩) 0 0, .nilIface]) (by simp [results, Tryd.results59, go_sem]) rfl ?_
                rw [← HQ.out]
                exact ⟨⟨_, _, rfl, Buf.nil (Nat.zero_le _)⟩, Below.refl _ _⟩
              · rw [if_neg hc128] at ha2 HQ
                by_cases hk8 : 63 ≤ 7 * k + 7
                · rw [if_pos hk8] at HQ
                  have hk8I : (63 : Int) ≤ 7 * (k : Int) + 7 := by omega
                  go_wp2_with fail
                  refine (overflow_any _).mono ?_
                  rintro e w1 ⟨⟨a, rfl, ha⟩, hb1⟩
                  have Hb1 := Lib.hid hb1
                  clear hb1
                  go_wp2_with fail
                  refine bodyPost_ret (v := .tuple #[.int .u64 0, .slice (some ⟨g, o, none⟩) 1 1, codingErr a]) (by simp [results, Tryd.results59, go_sem]) rfl ?_
                  rw [← HQ.out]
                  exact ⟨⟨_, _, rfl, ha⟩, Hb1.out⟩
                · rw [if_neg hk8] at HQ
                  have hk8I : ¬ (63 : Int) ≤ 7 * (k : Int) + 7 := by omega
                  go_wp2_with fail
                  exact ⟨⟨_, _, k + 1, J, [], rfl, Buf.nil (Nat.zero_le _), rfl, by go_num, by rw [Nat.mul_add]; exact HQ.out, HJ.out (by omega), by omega⟩, by simp [lenOf]⟩
            · have HTl := Lib.hid HBq.out.tail
              by_cases hc128 : c.toNat < 128
              · rw [if_pos hc128] at ha2 HQ
                go_wp2_with fail
                refine bodyPost_ret (v := .tuple #[.int .u64 (J : Nat), .slice (some ⟨g, o1 + 1, none⟩) q.length (cap1 - 1), .nilIface]) (by simp [results, Tryd.results59, go_sem]) rfl ?_
                rw [← HQ.out]
                exact ⟨⟨_, _, rfl, HTl.out⟩, Below.refl _ _⟩
              · rw [if_neg hc128] at ha2 HQ
                by_cases hk8 : 63 ≤ 7 * k + 7
                · rw [if_pos hk8] at HQ
                  have hk8I : (63 : Int) ≤ 7 * (k : Int) + 7 := by omega
                  go_wp2_with fail
                  refine (overflow_any _).mono ?_
                  rintro e w1 ⟨⟨a, rfl, ha⟩, hb1⟩
                  have Hb1 := Lib.hid hb1
                  clear hb1
                  go_wp2_with fail
                  refine bodyPost_ret (v := .tuple #[.int .u64 0, .slice (some ⟨g, o, none⟩) 1 1, codingErr a]) (by simp [results, Tryd.results59, go_sem]) rfl ?_
                  rw [← HQ.out]
                  exact ⟨⟨_, _, rfl, ha⟩, Hb1.out⟩
                · rw [if_neg hk8] at HQ
                  have hk8I : ¬ (63 : Int) ≤ 7 * (k : Int) + 7 := by omega
                  go_wp2_with fail
                  exact ⟨⟨_, _, k + 1, J, q, rfl, HTl.out, rfl, by go_num, by rw [Nat.mul_add]; exact HQ.out, HJ.out (by omega), by omega⟩, by simp [lenOf]⟩
      · go_enter Tryd.func59, Tryd.ntmps59
        go_wp2_with fail
        go_loop [1, 4, 8] (fun s i m => ∃ (o1 cap1 k j : Nat) (q : List UInt8), s = .slice (some ⟨g, o1, none⟩) q.length cap1 ∧ Buf w g o1 cap1 q ∧ i = .int .u64 (j : Nat) ∧ m = .int .u64 ((7 * k : Nat)) ∧ HD.vcont q j (7 * k) = R ∧ j < 255 + 2 ^ (7 * k) ∧ k ≤ 8) (fun s _ _ => lenOf s)
        case atStart => exact ⟨o + 1, cap - 1, 0, 127, p, rfl, Htail.out, rfl, rfl, Hp.out.symm, by decide, by decide⟩
        case round =>
          obtain ⟨o1, cap1, k, j, q, rfl, hbuf, rfl, rfl, hq, hj, hk⟩ := hrel
          have HQ := Lib.hid hq
          have HBq := Lib.hid hbuf
          have hf1 := hbuf.fit
          have hm1 := hbuf.most
          unfold maxLen at hm1
          clear hq hbuf
          cases q with
          | nil =>
            go_wp2_with fail
            go_quiet (fail)
            go_wp2_with fail
            refine bodyPost_ret (v := .tuple #[.int .u64 0, .slice (some ⟨g, o, none⟩) (p.length + 1) cap, En]) (by simp [results, Tryd.results59, go_sem]) rfl ?_
            rw [← HQ.out]
            exact ⟨⟨_, rfl⟩, (Below.refl _ _).trans ⟨rfl, rfl, rfl, Nat.le_refl _, fun _ _ => rfl⟩⟩
          | cons c q =>
            have hcc := HBq.out.head
            have hc256 : (c.toNat : Int) < 256 := by have := c.toNat_lt; omega
            obtain ⟨ha1, ha2⟩ := and_u8 c.toNat (by have := c.toNat_lt; omega)
            have hsum := sum_u64 c.toNat hj hk
            have hv : HD.vcont (c :: q) j (7 * k) = if c.toNat < 128 then .ok (j + c.toNat % 128 * 2 ^ (7 * k)) q else if 63 ≤ 7 * k + 7 then .over else HD.vcont q (j + c.toNat % 128 * 2 ^ (7 * k)) (7 * k + 7) := rfl
            have hJ : k ≤ 7 → j + c.toNat % 128 * 2 ^ (7 * k) < 255 + 2 ^ (7 * (k + 1)) := fun _ => by
              have h1 : c.toNat % 128 * 2 ^ (7 * k) ≤ 127 * 2 ^ (7 * k) := Nat.mul_le_mul_right _ (by omega)
              have e : 2 ^ (7 * (k + 1)) = 128 * 2 ^ (7 * k) := by rw [Nat.mul_add, Nat.pow_add, Nat.mul_comm]
              omega
            generalize j + c.toNat % 128 * 2 ^ (7 * k) = J at *
            rw [hv] at HQ
            clear hv
            have HJ := Lib.hid hJ
            clear hJ
            have hq1 : q.length + 1 ≤ cap1 := by simpa using hf1
            clear hf1
            by_cases hc2 : cap1 = 1
            · subst hc2
              obtain rfl : q = [] := List.eq_nil_of_length_eq_zero (by omega)
              by_cases hc128 : c.toNat < 128
              · rw [if_pos hc128] at ha2 HQ
                go_wp2_with fail
                refine bodyPost_ret (v := .tuple #[.int .u64 (J : Nat), .slice (some ⟨g, o1, none⟩) 0 0, .nilIface]) (by simp [results, Tryd.results59, go_sem]) rfl ?_
                rw [← HQ.out]
                exact ⟨⟨_, _, rfl, Buf.nil (Nat.zero_le _)⟩, Below.refl _ _⟩
              · rw [if_neg hc128] at ha2 HQ
                by_cases hk8 : 63 ≤ 7 * k + 7
                · rw [if_pos hk8] at HQ
                  have hk8I : (63 : Int) ≤ 7 * (k : Int) + 7 := by omega
                  go_wp2_with fail
                  refine (overflow_any _).mono ?_
                  rintro e w1 ⟨⟨a, rfl, ha⟩, hb1⟩
                  have Hb1 := Lib.hid hb1
                  clear hb1
                  go_wp2_with fail
                  refine bodyPost_ret (v := .tuple #[.int .u64 0, .slice (some ⟨g, o, none⟩) (p.length + 1) cap, codingErr a]) (by simp [results, Tryd.results59, go_sem]) rfl ?_
                  rw [← HQ.out]
                  exact ⟨⟨_, _, rfl, ha⟩, Hb1.out⟩
                · rw [if_neg hk8] at HQ
                  have hk8I : ¬ (63 : Int) ≤ 7 * (k : Int) + 7 := by omega
                  go_wp2_with fail
                  exact ⟨⟨_, _, k + 1, J, [], rfl, Buf.nil (Nat.zero_le _), rfl, by go_num, by rw [Nat.mul_add]; exact HQ.out, HJ.out (by omega), by omega⟩, by simp [lenOf]⟩
            · have HTl := Lib.hid HBq.out.tail
              by_cases hc128 : c.toNat < 128
              · rw [if_pos hc128] at ha2 HQ
                go_wp2_with fail
                refine bodyPost_ret (v := .tuple #[.int .u64 (J : Nat), .slice (some ⟨g, o1 + 1, none⟩) q.length (cap1 - 1), .nilIface]) (by simp [results, Tryd.results59, go_sem]) rfl ?_
                rw [← HQ.out]
                exact ⟨⟨_, _, rfl, HTl.out⟩, Below.refl _ _⟩
              · rw [if_neg hc128] at ha2 HQ
                by_cases hk8 : 63 ≤ 7 * k + 7
                · rw [if_pos hk8] at HQ
                  have hk8I : (63 : Int) ≤ 7 * (k : Int) + 7 := by omega
                  go_wp2_with fail
                  refine (overflow_any _).mono ?_
                  rintro e w1 ⟨⟨a, rfl, ha⟩, hb1⟩
                  have Hb1 := Lib.hid hb1
                  clear hb1
                  go_wp2_with fail
                  refine bodyPost_ret (v := .tuple #[.int .u64 0, .slice (some ⟨g, o, none⟩) (p.length + 1) cap, codingErr a]) (by simp [results, Tryd.results59, go_sem]) rfl ?_
                  rw [← HQ.out]
                  exact ⟨⟨_, _, rfl, ha⟩, Hb1.out⟩
                · rw [if_neg hk8] at HQ
                  have hk8I : ¬ (63 : Int) ≤ 7 * (k : Int) + 7 := by omega
                  go_wp2_with fail
                  exact ⟨⟨_, _, k + 1, J, q, rfl, HTl.out, rfl, by go_num, by rw [Nat.mul_add]; exact HQ.out, HJ.out (by omega), by omega⟩, by simp [lenOf]⟩
theorem varInt_any (n : Nat) (hn : n = 4 ∨ n = 5 ∨ n = 6 ∨ n = 7) (En : Value) (g o cap : Nat) (v : List UInt8) (w : World) (hb : Buf w g o cap v) (he : w.cell? ⟨1, 0, none⟩ = some En) :
    Calls Tryd.prog 59 #[.int .u8 n, .slice (some ⟨g, o, none⟩) v.length cap] w fun e w' => VIEnds w.heap.size En g (HD.rvi n v) e w' ∧ Below w.heap.size w w' := by
  rcases hn with rfl | rfl | rfl | rfl
  · exact varInt4 En g o cap v w hb he
  · exact varInt5 En g o cap v w hb he
  · exact varInt6 En g o cap v w hb he
  · exact varInt7 En g o cap v w hb he
end Go.Proofs.YtmlnmllnlekcgaaDoor
/-
  A slice of bytes is turned into a string.
-/
namespace Go.Proofs.YtmlnmllnlekcgaaDoor
open Go.ChangeShapes Go.WideShapes Go.ChangeAt Go.RowKit

theorem foldl_push_cells (v : List UInt8) : (v.map fun b => (b.toNat : Int)).foldl (fun r n => r.push (UInt8.ofNat n.toNat)) ByteArray.empty = ⟨v.toArray⟩ := by
  rw [foldl_push_bytes]
  have e : ((fun n : Int => UInt8.ofNat n.toNat) ∘ fun b : UInt8 => (b.toNat : Int)) = id := by funext b; simp
  simp [ByteArray.empty, ByteArray.emptyWithCapacity, e]
  rfl

/-- A slice of bytes is turned into a string. -/
theorem conv_bytes {w : World} {sa : Option Addr} {cap : Nat} {v : List UInt8} (h : SrcAny sa cap v w) : (convert 28 9 (.slice sa v.length cap)).run Tryd.prog w = .ok (.string ⟨v.toArray⟩) w := by
  rw [run_convert_bytes_string w _ _ _ _ _ _ Tryd.underlying28 Tryd.underlying5 Tryd.underlying9]
  rcases h with ⟨rfl, rfl, rfl⟩ | ⟨a, rfl, hc⟩
  · simp [Conv.bytesToString]; rfl
  · have hl : (loadCells a v.length).run Tryd.prog w = .ok ((v.map fun b => (b.toNat : Int)).map (Value.int .u8)).toArray w := by
      have := run_loadCells_list (P := Tryd.prog) w a (Lib.byteCells v) hc
      rw [byteCells_len] at this
      simpa [Lib.byteCells, Function.comp_def] using this
    rw [run_bytesToString w a v.length cap _ hl, foldl_push_cells]
end Go.Proofs.YtmlnmllnlekcgaaDoor
